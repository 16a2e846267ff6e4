import JvmDerived
import JvmDerived.Pilot.@@N@@Statement
import JvmDerived.Pilot.@@N@@Code
set_option linter.unusedVariables false
set_option linter.unusedSimpArgs false
namespace Jvm.Pilot.@@N@@
open Jvm Jvm.ClassFile Sem Op Lib Jvm.Free Jvm.Stand Jvm.LawKit Jvm.RoadKit Bundle Jvm.Pilot.@@N@@.Jvm.D
/-! A walk by continuations: own_Go says that from here the body runs to an end that P allows. -/
def own_Go (p : Program) (e : Env) (below : List Frame) (P : Outcome → State → Prop) (T : State) (g : JFrame) : Prop :=
  ∃ s₂ o, Steps p.tables e below (T.setTop g) s₂ ∧ s₂.status = .running ∧ Ended s₂ below o ∧ P o s₂
abbrev own_End (s : State) (Q : Option Value → Heap → List Loc → Prop) (C S : Nat) : Outcome → State → Prop := fun o s₂ => ∃ v L, o = .returned v ∧ Q v s₂.heap L ∧ FrameEnd s o s₂ L C S
theorem own_pc {m : MethodId} {pc : Nat} {Ls : Array Slot} {st : List Value} {off : Int} (h : 0 ≤ (pc : Int) + off) : 0 ≤ ((mkF m pc Ls st).pc : Int) + off := h
theorem own_cut {J G : Prop} (h : J) (k : J → G) : G := k h
section Own
variable {p : Program} {l : Launch} {e : Env} {R : Room} {s : State} {m : MethodId} {args : Array Value} {below : List Frame} {meth : Method} {c : Code} {T T' : State} {locs : List Loc} {cells slots : Nat} {P : Outcome → State → Prop} {g g' : JFrame} {Q : Option Value → Heap → List Loc → Prop} {C S : Nat}
theorem own_st (h : ∀ t, Steps p.tables e below (T'.setTop g') t → Steps p.tables e below (T.setTop g) t) (k : own_Go p e below P T' g') : own_Go p e below P T g := by
  obtain ⟨s₂, o, h1, r⟩ := k
  exact ⟨s₂, o, h _ h1, r⟩
theorem own_entry (q : g = g') (k : own_Go p e below P T g') : ∃ s₂ o, Steps p.tables e below (T.setTop g) s₂ ∧ s₂.status = .running ∧ Ended s₂ below o ∧ P o s₂ := by
  subst q
  exact k
theorem own_join {α : Type} {F : α → Prop} {g' : α → JFrame} {T' : State} (k : ∀ b, F b → own_Go p e below P T' (g' b)) (j : (∀ b, F b → own_Go p e below P T' (g' b)) → own_Go p e below P T g) : own_Go p e below P T g := j k
theorem own_joinT {S0 : State} {h : Heap} {α : Type} {F : α → Prop} {g' : α → JFrame} (X : Stand p l e R S0 m args below meth c T locs cells slots) (eT : T.heap = h)
    (k : ∀ b T', F b → Stand p l e R S0 m args below meth c T' locs cells slots → T'.heap = h → own_Go p e below P T' (g' b)) (j : (∀ b T', F b → Stand p l e R S0 m args below meth c T' locs cells slots → T'.heap = h → own_Go p e below P T' (g' b)) → own_Go p e below P T g) : own_Go p e below P T g := j k
theorem own_leave (X : Stand p l e R s m args below meth c T locs cells slots) (hlk : meth.locks = false) {v : Option Value} (hv : meth.sig.returnType = none → v = none)
    (k : ∀ fs, (∀ (f : JFrame) (acts : List Action), f.method = m → f.locked = none → f.entered = [] → (doReturn e (T.setTop f) acts v).1 = T.setFrames fs) → Steps p.tables e below (T.setTop g) (T.setFrames fs))
    (hQ : Q v T.heap locs) (hC : cells ≤ C) (hS : slots ≤ S) : own_Go p e below (own_End s Q C S) T g := by
  obtain ⟨fs, hr, hrun, hended, hW, hsame⟩ := X.leave hv hlk
  exact ⟨_, _, k fs hr, hrun, hended, _, _, rfl, hQ, ⟨_, rfl⟩, hW, hsame.mono hC hS⟩
theorem own_retN (X : Stand p l e R s m args below meth c T locs cells slots) (hx : p.tables.exec = Jvm.exec) (hlk : meth.locks = false) {pc : Nat} {Ls : Array Slot} {z : Int32} {t : FieldType} {rest : List Value} (hret : meth.sig.returnType = some t) (ht : t = .boolean ∨ t = .byte ∨ t = .char ∨ t = .short)
    (hd : decode c.code pc = .ok (.ireturn, 1)) (hQ : Q (some (.int (nar t z))) T.heap locs) (hC : cells ≤ C) (hS : slots ≤ S) : own_Go p e below (own_End s Q C S) T (mkF m pc Ls (.int z :: rest)) :=
  own_leave X hlk (fun h => by rw [hret] at h; cases h) (fun fs hr => retN X hx hret ht hd hr) hQ hC hS
theorem own_retI (X : Stand p l e R s m args below meth c T locs cells slots) (hx : p.tables.exec = Jvm.exec) (hlk : meth.locks = false) {pc : Nat} {Ls : Array Slot} {z : Int32} {rest : List Value} (hret : meth.sig.returnType = some .int)
    (hd : decode c.code pc = .ok (.ireturn, 1)) (hQ : Q (some (.int z)) T.heap locs) (hC : cells ≤ C) (hS : slots ≤ S) : own_Go p e below (own_End s Q C S) T (mkF m pc Ls (.int z :: rest)) :=
  own_leave X hlk (fun h => by rw [hret] at h; cases h) (fun fs hr => retOut X hx hret rfl (Or.inl ⟨rfl, Or.inl rfl, z, rfl⟩) hd hr) hQ hC hS
theorem own_retJ (X : Stand p l e R s m args below meth c T locs cells slots) (hx : p.tables.exec = Jvm.exec) (hlk : meth.locks = false) {pc : Nat} {Ls : Array Slot} {z : Int64} {rest : List Value} (hret : meth.sig.returnType = some .long)
    (hd : decode c.code pc = .ok (.lreturn, 1)) (hQ : Q (some (.long z)) T.heap locs) (hC : cells ≤ C) (hS : slots ≤ S) : own_Go p e below (own_End s Q C S) T (mkF m pc Ls (.long z :: rest)) :=
  own_leave X hlk (fun h => by rw [hret] at h; cases h) (fun fs hr => retOut X hx hret rfl (Or.inr (Or.inl ⟨rfl, rfl, z, rfl⟩)) hd hr) hQ hC hS
theorem own_narrow_ref {t : FieldType} {w : Value} (ht : t.isReference = true) : narrow t w = w := by cases t <;> first | rfl | cases ht
theorem own_retA (X : Stand p l e R s m args below meth c T locs cells slots) (hx : p.tables.exec = Jvm.exec) (hlk : meth.locks = false) {pc : Nat} {Ls : Array Slot} {w : Value} {t : FieldType} {rest : List Value} (hret : meth.sig.returnType = some t) (ht : t.isReference = true) (hw : w.isRef = true)
    (hd : decode c.code pc = .ok (.areturn, 1)) (hQ : Q (some w) T.heap locs) (hC : cells ≤ C) (hS : slots ≤ S) : own_Go p e below (own_End s Q C S) T (mkF m pc Ls (w :: rest)) :=
  own_leave X hlk (fun h => by rw [hret] at h; cases h) (fun fs hr => retOut X hx hret (own_narrow_ref ht) (Or.inr (Or.inr (Or.inr (Or.inr ⟨rfl, ht, hw⟩)))) hd hr) hQ hC hS
theorem own_ret0 (X : Stand p l e R s m args below meth c T locs cells slots) (hx : p.tables.exec = Jvm.exec) (hlk : meth.locks = false) {pc : Nat} {Ls : Array Slot} (hret : meth.sig.returnType = none)
    (hd : decode c.code pc = .ok (.return_, 1)) (hQ : Q none T.heap locs) (hC : cells ≤ C) (hS : slots ≤ S) : own_Go p e below (own_End s Q C S) T (mkF m pc Ls []) :=
  own_leave X hlk (fun _ => rfl) (fun fs hr => X.returnOut hx hret hd hr) hQ hC hS
theorem own_callS (X : Stand p l e R s m args below meth c T locs cells slots) (hx : p.tables.exec = Jvm.exec) {own : String} {index : Nat} {y : MethodName} {bytes : ByteArray} {maxL : Nat} {ret : Option FieldType}
    (hown : s.vm.findClass own = some m.cls) (hlink : (Cond.methodLink own index y).before args s = true) (hstat : (Cond.static y).before args s = true) (hinit : (Cond.initialized y.cls).before args s = true)
    (hcode : (Cond.code y bytes maxL ret).before args s = true) (hy : y.cls ≠ "java/lang/invoke/MethodHandle" ∧ y.cls ≠ "java/lang/invoke/VarHandle")
    {W rc rs : Nat} {as' : Array Value} {h : Heap} {Qc : Option Value → Heap → List Loc → Prop}
    (hK : Back l R p e below s args y 3 W (fun A a => a = as' ∧ A.U.heap = h ∧ A.cells + rc ≤ R.cells ∧ A.slots + rs ≤ R.slots) (fun A _ v B => ∃ L, Qc v B.U.heap L ∧ B.locs = A.locs ++ L ∧ B.cells = A.cells + rc ∧ B.slots = A.slots + rs))
    (hg : g.method = m) (hsize : g.locals.size = c.maxLocals) {argsL rest : List Value} (hlen : ∀ sig, parseMethodDescriptor y.desc = some sig → argsL.length = sig.parameters.length)
    (hstack : g.stack = argsL.reverse ++ rest) (hW : 2 * g.monitorRoom + (rest.map fun v => v.category).sum ≤ W) (hdg : decode c.code g.pc = .ok (.invokestatic index, 3))
    (ha : argsL.toArray = as') (eT : T.heap = h) (hc : cells + rc ≤ R.cells) (hs : slots + rs ≤ R.slots)
    (k : ∀ v T' L, Stand p l e R s m args below meth c T' (locs ++ L) (cells + rc) (slots + rs) → Qc v T'.heap L → own_Go p e below P T' { g with pc := g.pc + 3, stack := v.toList ++ rest }) : own_Go p e below P T g := by
  obtain ⟨v, vm₁, ⟨T', L', k', n'⟩, -, X', ⟨L, hQ, l1, y1, z1⟩, st⟩ := Jvm.LawKit.callS X hx hown hlink hstat hinit hcode hy hK hg hsize hlen hstack hW hdg (fun _ _ => ⟨ha, eT, hc, hs⟩)
  dsimp only [Pt.U, Pt.locs, Pt.cells, Pt.slots] at X' l1 y1 z1 st hQ
  subst l1 y1 z1
  exact own_st st (k v T' L X' hQ)
theorem own_callN (X : Stand p l e R s m args below meth c T locs cells slots) (hx : p.tables.exec = Jvm.exec) {own : String} {index : Nat} {y : MethodName} {bytes : ByteArray} {maxL : Nat} (hy1 : y.name = "<init>")
    (hown : s.vm.findClass own = some m.cls) (hlink : (Cond.methodLink own index y).before args s = true) (hinst : (Cond.instanceMethod y).before args s = true)
    (hcode : (Cond.code y bytes maxL none).before args s = true) (hy : y.cls ≠ "java/lang/invoke/MethodHandle" ∧ y.cls ≠ "java/lang/invoke/VarHandle")
    {W rc rs : Nat} {as' : Array Value} {h : Heap} {Qc : Option Value → Heap → List Loc → Prop}
    (hK : Back l R p e below s args y 3 W (fun A a => a = as' ∧ A.U.heap = h ∧ A.cells + rc ≤ R.cells ∧ A.slots + rs ≤ R.slots) (fun A _ v B => ∃ L, Qc v B.U.heap L ∧ B.locs = A.locs ++ L ∧ B.cells = A.cells + rc ∧ B.slots = A.slots + rs))
    {a : Addr} (hg : g.method = m) (hsize : g.locals.size = c.maxLocals) {argsL rest : List Value} (hlen : ∀ sig, parseMethodDescriptor y.desc = some sig → argsL.length = sig.parameters.length)
    (hstack : g.stack = argsL.reverse ++ .ref a :: rest) (hW : 2 * g.monitorRoom + (rest.map fun v => v.category).sum ≤ W) (hdg : decode c.code g.pc = .ok (.invokespecial index, 3))
    (ha : (Value.ref a :: argsL).toArray = as') (eT : T.heap = h) (hc : cells + rc ≤ R.cells) (hs : slots + rs ≤ R.slots)
    (k : ∀ v T' L, Stand p l e R s m args below meth c T' (locs ++ L) (cells + rc) (slots + rs) → Qc v T'.heap L → own_Go p e below P T' { g with pc := g.pc + 3, stack := v.toList ++ rest }) : own_Go p e below P T g := by
  obtain ⟨v, vm₁, ⟨T', L', k', n'⟩, -, X', ⟨L, hQ, l1, y1, z1⟩, st⟩ := X.specialBack hx hy1 hown hlink hinst hcode hy hK hg hsize (Steps.refl _) hlen hstack hW hdg (fun _ _ => ⟨ha, eT, hc, hs⟩)
  dsimp only [Pt.U, Pt.locs, Pt.cells, Pt.slots] at X' l1 y1 z1 st hQ
  subst l1 y1 z1
  exact own_st (fun t k => st.trans k) (k v T' L X' hQ)
theorem own_callV (X : Stand p l e R s m args below meth c T locs cells slots) (hx : p.tables.exec = Jvm.exec) {own Cn : String} {index : Nat} {y z : MethodName}
    (hown : s.vm.findClass own = some m.cls) (hlink : (Cond.methodLink own index y).before args s = true) (hdecl : (Cond.declares y).before args s = true) (hnf : NotFace s y)
    (hsel : (Cond.selects Cn y z).before args s = true) (hinst : (Cond.instanceMethod z).before args s = true)
    (hy : y.cls ≠ "java/lang/invoke/MethodHandle" ∧ y.cls ≠ "java/lang/invoke/VarHandle")
    {W rc rs : Nat} {as' : Array Value} {h : Heap} {Qc : Option Value → Heap → List Loc → Prop}
    (hK : Back l R p e below s args z 3 W (fun A a => a = as' ∧ A.U.heap = h ∧ A.cells + rc ≤ R.cells ∧ A.slots + rs ≤ R.slots) (fun A _ v B => ∃ L, Qc v B.U.heap L ∧ B.locs = A.locs ++ L ∧ B.cells = A.cells + rc ∧ B.slots = A.slots + rs))
    {a : Addr} {cB : ClassId} (hcB : s.vm.findClass Cn = some cB) (hrecv : IsOf cB T a)
    (hg : g.method = m) (hsize : g.locals.size = c.maxLocals) {argsL rest : List Value} (hlen : ∀ sig, parseMethodDescriptor y.desc = some sig → argsL.length = sig.parameters.length)
    (hstack : g.stack = argsL.reverse ++ .ref a :: rest) (hW : 2 * g.monitorRoom + (rest.map fun v => v.category).sum ≤ W) (hdg : decode c.code g.pc = .ok (.invokevirtual index, 3))
    (ha : (Value.ref a :: argsL).toArray = as') (eT : T.heap = h) (hc : cells + rc ≤ R.cells) (hs : slots + rs ≤ R.slots)
    (k : ∀ v T' L, Stand p l e R s m args below meth c T' (locs ++ L) (cells + rc) (slots + rs) → Qc v T'.heap L → own_Go p e below P T' { g with pc := g.pc + 3, stack := v.toList ++ rest }) : own_Go p e below P T g := by
  obtain ⟨v, vm₁, ⟨T', L', k', n'⟩, -, X', ⟨L, hQ, l1, y1, z1⟩, st⟩ := X.virtualBack hx hown hlink hdecl hnf hsel hinst hy hK hcB hrecv hg hsize (Steps.refl _) hlen hstack hW hdg (fun _ _ => ⟨ha, eT, hc, hs⟩)
  dsimp only [Pt.U, Pt.locs, Pt.cells, Pt.slots] at X' l1 y1 z1 st hQ
  subst l1 y1 z1
  exact own_st (fun t k => st.trans k) (k v T' L X' hQ)
theorem own_callI (X : Stand p l e R s m args below meth c T locs cells slots) (hx : p.tables.exec = Jvm.exec) {own Cn : String} {index count : Nat} {xi y : MethodName}
    (hown : s.vm.findClass own = some m.cls) (hlink : (Cond.methodLink own index xi).before args s = true) (hdecl : (Cond.declares xi).before args s = true)
    (hface : (Cond.interfaceMethod xi.cls xi.cls xi.name xi.desc).before args s = true) (hsel : (Cond.selects Cn xi y).before args s = true) (hinst : (Cond.instanceMethod y).before args s = true)
    (hpub : (Cond.publicMethod y).before args s = true) (hunh : (Cond.unhidden Cn xi.name xi.desc).before args s = true) (hcast : (Cond.castable Cn xi.cls).before args s = true)
    (hy : xi.cls ≠ "java/lang/invoke/MethodHandle" ∧ xi.cls ≠ "java/lang/invoke/VarHandle")
    {W rc rs : Nat} {as' : Array Value} {h : Heap} {Qc : Option Value → Heap → List Loc → Prop}
    (hK : Back l R p e below s args y 5 W (fun A a => a = as' ∧ A.U.heap = h ∧ A.cells + rc ≤ R.cells ∧ A.slots + rs ≤ R.slots) (fun A _ v B => ∃ L, Qc v B.U.heap L ∧ B.locs = A.locs ++ L ∧ B.cells = A.cells + rc ∧ B.slots = A.slots + rs))
    {a : Addr} {cB : ClassId} {kB : Class} (hcB : s.vm.findClass Cn = some cB) (hkB : s.vm.classes[cB]? = some kB) (hrecv : IsOf cB T a)
    (hg : g.method = m) (hsize : g.locals.size = c.maxLocals) {argsL rest : List Value} (hlen : ∀ sig, parseMethodDescriptor xi.desc = some sig → argsL.length = sig.parameters.length)
    (hstack : g.stack = argsL.reverse ++ .ref a :: rest) (hW : 2 * g.monitorRoom + (rest.map fun v => v.category).sum ≤ W) (hdg : decode c.code g.pc = .ok (.invokeinterface index count, 5))
    (ha : (Value.ref a :: argsL).toArray = as') (eT : T.heap = h) (hc : cells + rc ≤ R.cells) (hs : slots + rs ≤ R.slots)
    (k : ∀ v T' L, Stand p l e R s m args below meth c T' (locs ++ L) (cells + rc) (slots + rs) → Qc v T'.heap L → own_Go p e below P T' { g with pc := g.pc + 5, stack := v.toList ++ rest }) : own_Go p e below P T g := by
  obtain ⟨v, vm₁, ⟨T', L', k', n'⟩, -, X', ⟨L, hQ, l1, y1, z1⟩, st⟩ := X.interfaceBack hx hown hlink hdecl hface hsel hinst hpub hunh hcast hy hK hcB hkB hrecv hg hsize (Steps.refl _) hlen hstack hW hdg (fun _ _ => ⟨ha, eT, hc, hs⟩)
  dsimp only [Pt.U, Pt.locs, Pt.cells, Pt.slots] at X' l1 y1 z1 st hQ
  subst l1 y1 z1
  exact own_st (fun t k => st.trans k) (k v T' L X' hQ)
theorem own_callP (X : Stand p l e R s m args below meth c T locs cells slots) (hx : p.tables.exec = Jvm.exec) {own : String} {index : Nat} {y : MethodName} {bytes : ByteArray} {maxL : Nat} {ret : Option FieldType}
    (hown : s.vm.findClass own = some m.cls) (hlink : (Cond.methodLink own index y).before args s = true) (hinst : (Cond.instanceMethod y).before args s = true) (hsel : (Cond.selects y.cls y y).before args s = true)
    (hpriv : s.PrivateAt y) (hcode : (Cond.code y bytes maxL ret).before args s = true) (hy : y.cls ≠ "java/lang/invoke/MethodHandle" ∧ y.cls ≠ "java/lang/invoke/VarHandle")
    {W rc rs : Nat} {as' : Array Value} {h : Heap} {Qc : Option Value → Heap → List Loc → Prop}
    (hK : Back l R p e below s args y 3 W (fun A a => a = as' ∧ A.U.heap = h ∧ A.cells + rc ≤ R.cells ∧ A.slots + rs ≤ R.slots) (fun A _ v B => ∃ L, Qc v B.U.heap L ∧ B.locs = A.locs ++ L ∧ B.cells = A.cells + rc ∧ B.slots = A.slots + rs))
    {a : Addr} {cell : Cell} (hcell : T.heap[a]? = some cell) (hobj : ∀ q, cell.vm ≠ .statics q)
    (hg : g.method = m) (hsize : g.locals.size = c.maxLocals) {argsL rest : List Value} (hlen : ∀ sig, parseMethodDescriptor y.desc = some sig → argsL.length = sig.parameters.length)
    (hstack : g.stack = argsL.reverse ++ .ref a :: rest) (hW : 2 * g.monitorRoom + (rest.map fun v => v.category).sum ≤ W) (hdg : decode c.code g.pc = .ok (.invokevirtual index, 3))
    (ha : (Value.ref a :: argsL).toArray = as') (eT : T.heap = h) (hc : cells + rc ≤ R.cells) (hs : slots + rs ≤ R.slots)
    (k : ∀ v T' L, Stand p l e R s m args below meth c T' (locs ++ L) (cells + rc) (slots + rs) → Qc v T'.heap L → own_Go p e below P T' { g with pc := g.pc + 3, stack := v.toList ++ rest }) : own_Go p e below P T g := by
  obtain ⟨v, vm₁, ⟨T', L', k', n'⟩, -, X', ⟨L, hQ, l1, y1, z1⟩, st⟩ := X.privateBack hx hown hlink hinst hsel hpriv hcode hy hK hg hsize (Steps.refl _) hcell hobj hlen hstack hW hdg (fun _ _ => ⟨ha, eT, hc, hs⟩)
  dsimp only [Pt.U, Pt.locs, Pt.cells, Pt.slots] at X' l1 y1 z1 st hQ
  subst l1 y1 z1
  exact own_st (fun t k => st.trans k) (k v T' L X' hQ)
theorem own_callU (X : Stand p l e R s m args below meth c T locs cells slots) (hx : p.tables.exec = Jvm.exec) {own Cn owner : String} {index : Nat} {y z : MethodName}
    (hown : s.vm.findClass own = some m.cls) (hlink : (Cond.methodLink own index y).before args s = true) (hsame : (Cond.sameMethod y.cls owner y.name y.desc).before args s = true)
    (hdecl : (Cond.declares ⟨owner, y.name, y.desc⟩).before args s = true) (howner : owner ≠ "java/lang/invoke/MethodHandle" ∧ owner ≠ "java/lang/invoke/VarHandle")
    (hsel : (Cond.selects Cn y z).before args s = true) (hinst : (Cond.instanceMethod z).before args s = true)
    {W rc rs : Nat} {as' : Array Value} {h : Heap} {Qc : Option Value → Heap → List Loc → Prop}
    (hK : Back l R p e below s args z 3 W (fun A a => a = as' ∧ A.U.heap = h ∧ A.cells + rc ≤ R.cells ∧ A.slots + rs ≤ R.slots) (fun A _ v B => ∃ L, Qc v B.U.heap L ∧ B.locs = A.locs ++ L ∧ B.cells = A.cells + rc ∧ B.slots = A.slots + rs))
    {a : Addr} {cB : ClassId} (hcB : s.vm.findClass Cn = some cB) (hrecv : IsOf cB T a)
    (hg : g.method = m) (hsize : g.locals.size = c.maxLocals) {argsL rest : List Value} (hlen : ∀ sig, parseMethodDescriptor y.desc = some sig → argsL.length = sig.parameters.length)
    (hstack : g.stack = argsL.reverse ++ .ref a :: rest) (hW : 2 * g.monitorRoom + (rest.map fun v => v.category).sum ≤ W) (hdg : decode c.code g.pc = .ok (.invokevirtual index, 3))
    (ha : (Value.ref a :: argsL).toArray = as') (eT : T.heap = h) (hc : cells + rc ≤ R.cells) (hs : slots + rs ≤ R.slots)
    (k : ∀ v T' L, Stand p l e R s m args below meth c T' (locs ++ L) (cells + rc) (slots + rs) → Qc v T'.heap L → own_Go p e below P T' { g with pc := g.pc + 3, stack := v.toList ++ rest }) : own_Go p e below P T g := by
  obtain ⟨v, vm₁, ⟨T', L', k', n'⟩, -, X', ⟨L, hQ, l1, y1, z1⟩, st⟩ := X.virtualBackUp hx hown hlink hsame hdecl howner hsel hinst hK hcB hrecv hg hsize (Steps.refl _) hlen hstack hW hdg (fun _ _ => ⟨ha, eT, hc, hs⟩)
  dsimp only [Pt.U, Pt.locs, Pt.cells, Pt.slots] at X' l1 y1 z1 st hQ
  subst l1 y1 z1
  exact own_st (fun t k => st.trans k) (k v T' L X' hQ)
end Own
section OwnWords
variable {args : Array Value} {s : State} {t u : Term} {x y : Addr} {C n d : String} {z : Int32}
theorem own_feqR (h : (Cond.eq (Term.field t C n d) u).value args s none s [] = some true) (ht : t.eval args s none [] s = some (.ref x)) (hu : u.eval args s none [] s = some (.ref y)) : s.fieldOf? x C n d = some (.ref y) := by
  obtain ⟨x', y', h1, h2, k1, k2⟩ := cmp_v (Or.inl h)
  cases hu.symm.trans h2
  have hr : x'.isRef = true := k2.2
  have := gotT (eq_R h1 h2 hr rfl) h
  rw [← fld_at ht (idx := []) (first := s) (o := none) (args := args), h1, this]
theorem own_feqI (h : (Cond.eq (Term.field t C n d) (.int z)).value args s none s [] = some true) (ht : t.eval args s none [] s = some (.ref x)) : s.fieldOf? x C n d = some (.int z) := by
  obtain ⟨x', y', h1, h2, k1, k2⟩ := cmp_v (Or.inl h)
  cases (Term.int_eval z).symm.trans h2
  obtain ⟨z', rfl⟩ := k2
  have : z' = z := by simpa [Cond.value, h1, Term.int_eval] using h
  rw [← fld_at ht (idx := []) (first := s) (o := none) (args := args), h1, this]
end OwnWords
section OwnArr
variable {args : Array Value} {s : State} {t : Term} {a : Addr} {cl : Cell} {ty : FieldType} {z j v : Int32}
theorem own_len (h : (Cond.eq (Term.length t) (.int z)).value args s none s [] = some true) (ht : t.eval args s none [] s = some (.ref a)) (A : Arr s s.heap a cl ty) : cl.slots.size < 2 ^ 31 ∧ cl.slots.size.toInt32 = z := by
  obtain ⟨x', y', h1, h2, k1, k2⟩ := cmp_v (Or.inl h)
  cases (Term.int_eval z).symm.trans h2
  obtain ⟨z', rfl⟩ := k2
  have e : z' = z := by simpa [Cond.value, h1, Term.int_eval] using h
  have ha := A.fin (Vm.Alike.refl _)
  by_cases q : cl.slots.size < 2 ^ 31
  · rw [len_f ht ha q] at h1
    cases h1
    exact ⟨q, e⟩
  · simp [Term.eval, ht, ha, q] at h1
theorem own_elem (h : (Cond.eq (Term.elem t (.int j)) (.int v)).value args s none s [] = some true) (ht : t.eval args s none [] s = some (.ref a)) (A : Arr s s.heap a cl ty) (hj : ¬ j < 0) : cl.slots[j.toNatClampNeg]? = some (.int v) := by
  obtain ⟨x', y', h1, h2, k1, k2⟩ := cmp_v (Or.inl h)
  cases (Term.int_eval v).symm.trans h2
  obtain ⟨z', rfl⟩ := k2
  have e : z' = v := by simpa [Cond.value, h1, Term.int_eval] using h
  rw [elem_f ht (Term.int_eval j) (A.fin (Vm.Alike.refl _)) hj] at h1
  rw [h1, e]
theorem own_elemR {u : Term} {y : Addr} (h : (Cond.eq (Term.elem t (.int j)) u).value args s none s [] = some true) (ht : t.eval args s none [] s = some (.ref a)) (hu : u.eval args s none [] s = some (.ref y)) (A : Arr s s.heap a cl ty) (hj : ¬ j < 0) : cl.slots[j.toNatClampNeg]? = some (.ref y) := by
  obtain ⟨x', y', h1, h2, k1, k2⟩ := cmp_v (Or.inl h)
  cases hu.symm.trans h2
  have hr : x'.isRef = true := k2.2
  have e := gotT (eq_R h1 h2 hr rfl) h
  rw [elem_f ht (Term.int_eval j) (A.fin (Vm.Alike.refl _)) hj] at h1
  rw [h1, e]
end OwnArr

section OwnQ
variable {p : Program} {l : Launch} {e : Env} {R : Room} {s : State} {m : MethodId} {args : Array Value} {below : List Frame} {meth : Method} {c : Code} {T T' : State} {locs : List Loc} {cells slots : Nat} {P : Outcome → State → Prop} {g g' : JFrame} {Z : State} {a0 : Array Value}
/-- a constructor called by an entry that was resolved before -/
theorem own_callNR (X : Stand p l e R s m args below meth c T locs cells slots) (hx : p.tables.exec = Jvm.exec) (hZ : Z.Warmed39 s.vm) {own : String} {index : Nat} {y : MethodName} {bytes : ByteArray} {maxL : Nat} (hy1 : y.name = "<init>")
    (hown : s.vm.findClass own = some m.cls) (hp : (Cond.methodRef own index y).before a0 Z = true) (hinst : (Cond.instanceMethod y).before args s = true)
    (hcode : (Cond.code y bytes maxL none).before args s = true) (hy : y.cls ≠ "java/lang/invoke/MethodHandle" ∧ y.cls ≠ "java/lang/invoke/VarHandle")
    {W rc rs : Nat} {as' : Array Value} {h : Heap} {Qc : Option Value → Heap → List Loc → Prop}
    (hK : Back l R p e below s args y 3 W (fun A a => a = as' ∧ A.U.heap = h ∧ A.cells + rc ≤ R.cells ∧ A.slots + rs ≤ R.slots) (fun A _ v B => ∃ L, Qc v B.U.heap L ∧ B.locs = A.locs ++ L ∧ B.cells = A.cells + rc ∧ B.slots = A.slots + rs))
    {a : Addr} (hg : g.method = m) (hsize : g.locals.size = c.maxLocals) {argsL rest : List Value} (hlen : ∀ sig, parseMethodDescriptor y.desc = some sig → argsL.length = sig.parameters.length)
    (hstack : g.stack = argsL.reverse ++ .ref a :: rest) (hW : 2 * g.monitorRoom + (rest.map fun v => v.category).sum ≤ W) (hdg : decode c.code g.pc = .ok (.invokespecial index, 3))
    (ha : (Value.ref a :: argsL).toArray = as') (eT : T.heap = h) (hc : cells + rc ≤ R.cells) (hs : slots + rs ≤ R.slots)
    (k : ∀ v T' L, Stand p l e R s m args below meth c T' (locs ++ L) (cells + rc) (slots + rs) → Qc v T'.heap L → own_Go p e below P T' { g with pc := g.pc + 3, stack := v.toList ++ rest }) : own_Go p e below P T g := by
  have hready : ∀ (U : State) (r : MethodId), s.WarmedH U.vm → s.methodNamed? y = some r → namesResolved U.vm m.cls index r.cls ∧ U.vm.methodReady m.cls index r := by
    intro U r hW hr
    have hZU : Z.Warmed39 U.vm := wtrans hZ hW
    have e1 : (Z.setVm s.vm).methodNamed? y = Z.methodNamed? y := State.methodNamed?_setVm hZ.alike y
    have e2 : (Z.setVm s.vm).methodNamed? y = s.methodNamed? y := congrFun (State.methodNamed?_of_vm (U := Z.setVm s.vm) (V := s) rfl) y
    have hnZ : Z.methodNamed? y = some r := by rw [← e1, e2]; exact hr
    have hn2 : (Z.setVm U.vm).methodNamed? y = some r := by rw [State.methodNamed?_setVm hZU.alike]; exact hnZ
    have h2 := Cond.methodRef_warmed39 hZU hnZ hy hp
    obtain ⟨m', c', hf, hrd, hfi, hnr⟩ := Cond.methodRef_named (s := Z.setVm U.vm) e (cur := m.cls) (by show U.vm.findClass own = _; rw [hW.alike.findClass]; exact hown) h2
    cases (State.methodFound?_of_named hn2 hy).symm.trans hf
    have ec : c' = r.cls := Option.some.inj (hfi.symm.trans (findClass_of_methodNamed hn2))
    subst ec
    exact ⟨hnr, hrd⟩
  obtain ⟨v, vm₁, ⟨T', L', k', n'⟩, -, X', ⟨L, hQ, l1, y1, z1⟩, st⟩ := (SCall.of_ready (l := l) (R := R) (below := below) (meth := meth) (c := c) hx hy1 hinst hcode hready) X hK hg hsize (Steps.refl _) hlen hstack hW hdg (fun _ _ => ⟨ha, eT, hc, hs⟩)
  dsimp only [Pt.U, Pt.locs, Pt.cells, Pt.slots] at X' l1 y1 z1 st hQ
  subst l1 y1 z1
  exact own_st (fun t k => st.trans k) (k v T' L X' hQ)
/-- anewarray of Object: the array is of Object[] -/
theorem own_newRE (X : Stand p l e R s m args below meth c T locs cells slots) (hx : p.tables.exec = Jvm.exec) (hZ : Z.Warmed39 s.vm) {own : String} {index : Nat} (hown : s.vm.findClass own = some m.cls) (w1 : (Cond.classLink own index "java/lang/Object").before a0 Z = true) (w2 : (Cond.arrayOver (.object "java/lang/Object")).before a0 Z = true) {h : Heap}
    (eT : T.heap = h) {g : JFrame} (hg : g.method = m) (hd : decode c.code g.pc = .ok (.anewarray index, 3)) {n : Int32} {rest : List Value} (hs : g.stack = .int n :: rest) (hn : ¬ n < 0) {cap : Nat} (hcap : n.toNatClampNeg ≤ cap) (hb : cap * 8 ≤ 536870912) (hc : cells + 1 ≤ R.cells) (hl : slots + cap ≤ R.slots) :
    ∃ T' h' cA, Stand p l e R s m args below meth c T' locs (cells + 1) (slots + cap) ∧ T'.heap = h' ∧ Ext h h' ∧ Arr Z h' h.size (newA cA (.object "java/lang/Object") n) (.object "java/lang/Object") ∧ Ovr Z cA "java/lang/Object" ∧ Exa Z h' h.size "[Ljava/lang/Object;" ∧
      ∀ target, Steps p.tables e below (T'.setTop { g with pc := g.pc + 3, stack := .ref h.size :: rest }) target → Steps p.tables e below (T.setTop g) target := by
  have w2' : (Cond.arrayOver (.object "java/lang/Object")).before args s = true := Cond.arrayOver_alike hZ.alike w2
  obtain ⟨vm₁, cA, kA, comp, -, h1, h2, h3, h4, X', st⟩ := X.anewarrayRefK hx hown (mv hZ w1) w2' hg hd hs hn (by omega) hc (by omega)
  subst eT
  rw [hZ.alike.findClass] at h1
  obtain ⟨kZ, z1, -⟩ := Vm.findClass_spec h1
  obtain ⟨k', z2, z3⟩ := hZ.alike.2.2 _ _ z1
  cases h2.symm.trans z2
  have hkind : kZ.kind = .array comp (.object "java/lang/Object") := by rw [← h3, z3]
  have hcell : (T.heap.push (newA cA (.object "java/lang/Object") n))[T.heap.size]? = some (newA cA (.object "java/lang/Object") n) := by simp
  have h1' : Z.vm.findClass "[Ljava/lang/Object;" = some cA := h1
  exact ⟨_, _, cA, X'.more (Nat.le_refl _) (by omega), rfl, ext_of fun a q => Array.getElem?_push_lt q |>.trans (Array.getElem?_eq_getElem q).symm, ⟨by show (T.heap.push _)[T.heap.size]? = _; simp [newA, defaultValue], ⟨by simp [newA], kZ, z1, comp, hkind⟩, by simp [newA]⟩, ⟨kZ, comp, z1, hkind, by rw [← hZ.alike.findClass]; exact h4⟩,
    ⟨newA cA (.object "java/lang/Object") n, kZ, by show (T.heap.push _)[T.heap.size]? = _; simp [newA, defaultValue], h1', z1, rfl, fun q => by rw [hkind] at q; cases q⟩, st⟩
end OwnQ

open Jvm.Free.CopyOfC in
theorem own_copyTab {s : State} {sargs : Array Value} {Z : State} {a0 : Array Value} (hZ : Z.Warmed39 s.vm) (hw : ∀ d ∈ tables_1, d.before a0 Z = true) : Copy2.tab.before sargs s = true := by
  have q : ∀ d ∈ ([Cond.code copy2N copy2B 2 (some (.array (.object "java/lang/Object"))), Cond.code copy3N copy3B 4 (some (.array (.object "java/lang/Object"))), .classLink "java/util/Arrays" 2 "java/lang/Object", .methodLink "java/util/Arrays" 304 minN, .static minN, .initialized "java/lang/Math", .code minN Lib.Math.min.code 2 (some .int),
      .methodLink "java/util/Arrays" 150 Jvm.Stand.acN, .native Jvm.Stand.acN, .static Jvm.Stand.acN, .initialized "java/lang/System", .classLink "java/util/Arrays" 110 "[Ljava/lang/Object;"] ++ Copy2.siteAtoms), d ∈ tables_1 ∧ (d.onTables && d.keepsFace) = true := by decide +kernel
  have hq : ∀ d ∈ ([Cond.code copy2N copy2B 2 (some (.array (.object "java/lang/Object"))), Cond.code copy3N copy3B 4 (some (.array (.object "java/lang/Object"))), .classLink "java/util/Arrays" 2 "java/lang/Object", .methodLink "java/util/Arrays" 304 minN, .static minN, .initialized "java/lang/Math", .code minN Lib.Math.min.code 2 (some .int),
      .methodLink "java/util/Arrays" 150 Jvm.Stand.acN, .native Jvm.Stand.acN, .static Jvm.Stand.acN, .initialized "java/lang/System", .classLink "java/util/Arrays" 110 "[Ljava/lang/Object;"] ++ Copy2.siteAtoms), d.before sargs s = true := fun d hd => mv hZ (hw d (q d hd).1) (q d hd).2
  have ho : (Cond.arrayOver (.object "java/lang/Object")).before sargs s = true := Cond.arrayOver_alike hZ.alike (hw _ (by decide +kernel : Cond.arrayOver (.object "java/lang/Object") ∈ tables_1))
  have h3 : Copy3.tab.before sargs s = true := by
    unfold Copy3.tab
    refine (conj_holds (args := sargs) (first := s) (o := none) (s := s) (idx := []) _ _).mpr ⟨hq _ (by simp), fun d hd => ?_⟩
    simp only [List.mem_cons, List.not_mem_nil, or_false] at hd
    rcases hd with rfl | rfl | rfl | rfl | rfl | rfl | rfl | rfl | rfl | rfl | rfl
    · exact hq _ (by simp)
    · exact ho
    all_goals exact hq _ (by simp)
  unfold Copy2.tab
  refine (conj_holds (args := sargs) (first := s) (o := none) (s := s) (idx := []) _ _).mpr ⟨hq _ (by simp), fun d hd => ?_⟩
  rcases List.mem_append.mp hd with hd | hd
  · exact hq _ (List.mem_append.mpr (Or.inr hd))
  · simp only [List.mem_cons, List.not_mem_nil, or_false] at hd
    subst hd
    exact h3
def QCO (Z : State) (k : ClassId) (v0 v1 : Value) (h0 : Heap) (v : Option Value) (h : Heap) (L : List Loc) : Prop := v = some (.ref h0.size) ∧ L = [] ∧ Ext h0 h ∧ Arv Z h h0.size k (.object "java/lang/Object") (6 : Int32) [v0, v1, .null, .null, .null, .null] .null
open Jvm.Free.CopyOfC in
theorem own_copyB {l : Launch} {R : Room} {p : Program} {e : Env} {below : List Frame} {s : State} {args : Array Value} {W : Nat} {Z : State} {a0 : Array Value} {h : Heap} {a : Addr} {k : ClassId} {v0 v1 : Value} (hZ : Z.Warmed39 s.vm) (hw : ∀ d ∈ tables_1, d.before a0 Z = true) (mir : MirrorMade Z "[Ljava/lang/Object;")
    (A : Arv Z h a k (.object "java/lang/Object") (2 : Int32) [v0, v1] .null) (O : Ovr Z k "java/lang/Object") (E : Exa Z h a "[Ljava/lang/Object;") (S : StoL Z h a [v0, v1]) (hfr : 4 ≤ R.frames) (hlo : W + 77 ≤ R.locals) :
    Back l R p e below s args (⟨"java/util/Arrays", "copyOf", "([Ljava/lang/Object;I)[Ljava/lang/Object;"⟩ : MethodName) 3 W (fun A a' => a' = #[.ref a, .int (6 : Int32)] ∧ A.U.heap = h ∧ A.cells + 1 ≤ R.cells ∧ A.slots + 6 ≤ R.slots)
      (fun A _ v B => ∃ L, QCO Z k v0 v1 h v B.U.heap L ∧ B.locs = A.locs ++ L ∧ B.cells = A.cells + 1 ∧ B.slots = A.slots + 6) := by
  intro m meth c P g ig mk a' X hg hsize hdg hW hn hp'
  obtain ⟨rfl, rfl, r1, r2⟩ := hp'
  have al : Z.vm.Alike P.U.vm := hZ.alike.trans X.warmed.alike
  obtain ⟨cs, Ac, qk, Sz, Nz, H, G⟩ := A
  subst qk
  obtain ⟨kO, comp, o1, o2, o3⟩ := O
  obtain ⟨cE, kE, e1, e2, e3, e4, e5⟩ := E
  cases Ac.1.symm.trans e1
  obtain ⟨cM, kM, mi, m1, m2, m3, -⟩ := mir
  cases e2.symm.trans m1
  cases o1.symm.trans e3
  cases o1.symm.trans m2
  obtain ⟨kU, u1, u2⟩ := al.2.2 _ _ o1
  have uk : kU.kind = .array comp (.object "java/lang/Object") := by rw [u2]; exact o2
  have um : kU.mirror = some mi := by rw [u2]; exact m3
  obtain ⟨kC, c1, -⟩ := Vm.findClass_spec o3
  obtain ⟨kC', c2, -⟩ := al.2.2 _ _ c1
  have hs2 : cs.slots.size = 2 := Sz
  have htab := own_copyTab (sargs := args) hZ hw
  have H0 : cs.slots[0]? = some v0 := H 0 (by omega)
  have H1 : cs.slots[1]? = some v1 := H 1 (by omega)
  have sto : ∀ v, Sto Z P.U.heap a v → (v = .null ∨ ∃ (a : Addr) (c : Cell), v = .ref a ∧ P.U.heap[a]? = some c ∧ (∀ q, c.vm ≠ .statics q) ∧ (∃ k, P.U.vm.classes[c.cls]? = some k) ∧ P.U.vm.assignable c.cls comp = true) := by
    rintro v (q | ⟨cell, cv, k1, kv, kc, comp', t, y', g1, g2, g3, g4, g5, g6, g7, g8, g9⟩)
    · exact Or.inl q
    · cases g1.symm.trans Ac.1
      cases g2.symm.trans o1
      have ec : comp' = comp := by have q := g3.symm.trans o2; cases q; rfl
      subst ec
      obtain ⟨kv', w1, -⟩ := al.2.2 _ _ g8
      exact Or.inr ⟨y', cv, g5, g6, (fun q r => by rw [r] at g7; cases g7), ⟨kv', w1⟩, by rw [al.assignable]; exact g9⟩
  have hP : Copy2.P 6 ⟨a, cs, 6, mi, cs.cls, comp, mk.cls⟩ #[.ref a, .int (6 : Int32)] P.U := by
    refine ⟨rfl, ⟨rfl, Ac.1, Ac.2.2, (fun q r => by rw [r] at e4; cases e4), ⟨kU, comp, _, u1, uk, rfl⟩, by rw [al.findClass]; exact e2, ⟨kU, u1, uk, um⟩, by rw [al.findClass]; exact o3, ⟨kC', c2⟩, findClass_of_methodNamed hn, (by decide : 0 ≤ (6 : Int32).toInt), (by decide : (6 : Int32).toNatClampNeg ≤ 6), (by decide : (6 : Int32).toNatClampNeg * 4 ≤ 536870912), by show cs.slots.size < _; omega, ?_⟩, Copy2.notFace_at (a := args) ?_, rfl⟩
    · intro i hi
      have hi2 : i < 2 := by rw [← hs2]; exact hi
      match i, hi2 with
      | 0, _ => exact ⟨v0, H0, sto _ S.1⟩
      | 1, _ => exact ⟨v1, H1, sto _ S.2.1⟩
    · have := Copy2.tab_warm (a' := args) X.warmed htab
      exact this
  obtain ⟨v, B, X', ⟨hv, hc, hl, hk, hs, hkeep⟩, st⟩ := Copy2.pays 6 ⟨a, cs, 6, mi, cs.cls, comp, mk.cls⟩ htab hfr hlo m meth c P g ig mk _ X hg hsize hdg hW hn ⟨r1, r2, hP⟩
  have hmn : Copy3.mn ⟨a, cs, 6, mi, cs.cls, comp, mk.cls⟩ = 2 := by
    show (if (6 : Int32) < cs.slots.size.toInt32 then (6 : Int32) else cs.slots.size.toInt32) = 2
    rw [hs2]; decide
  have est : cs.stretch 0 2 = [v0, v1] := by
    show (List.range 2).map (fun i => cs.slots.getD (0 + i) .null) = _
    simp [List.range_succ, H0, H1]
  rw [hmn] at hc
  have ecp : copied cs (Copy3.fresh ⟨a, cs, 6, mi, cs.cls, comp, mk.cls⟩) 0 0 2 = (Copy3.fresh ⟨a, cs, 6, mi, cs.cls, comp, mk.cls⟩).storeRun 0 [v0, v1] := by rw [← est]; rfl
  rw [ecp] at hc
  have cf := (Copy3.fresh ⟨a, cs, 6, mi, cs.cls, comp, mk.cls⟩).storeRun_facts 0 [v0, v1]
  have esz : ((Copy3.fresh ⟨a, cs, 6, mi, cs.cls, comp, mk.cls⟩).storeRun 0 [v0, v1]).slots.size = 6 := by rw [cf.2.2.1]; rfl
  have hget : ∀ j, j < 6 → ((Copy3.fresh ⟨a, cs, 6, mi, cs.cls, comp, mk.cls⟩).storeRun 0 [v0, v1]).slots[j]? = some ([v0, v1, .null, .null, .null, .null].getD j .null) := by
    intro j hj
    rw [Cell.storeRun_get _ _ _ _ (by show 0 + 2 ≤ (Array.replicate 6 Value.null).size; simp)]
    match j, hj with
    | 0, _ => rfl
    | 1, _ => rfl
    | 2, _ => rfl
    | 3, _ => rfl
    | 4, _ => rfl
    | 5, _ => rfl
  have f0 : fits (.object "java/lang/Object") v0 = true := G 0 (by omega)
  have f1 : fits (.object "java/lang/Object") v1 = true := G 1 (by omega)
  have hlt : P.U.heap.size < B.U.heap.size := (Array.getElem?_eq_some_iff.mp hc).1
  refine ⟨v, B, X', ⟨[], ⟨hv, rfl, ⟨Nat.le_of_lt hlt, hkeep⟩, _, ⟨hc, ⟨?_, kO, by rw [cf.1]; exact o1, comp, o2⟩, by rw [cf.2.1]; exact fun q => by cases q⟩, by rw [cf.1]; rfl, by rw [esz]; rfl, by decide, fun j hj => hget j (by rw [← esz]; exact hj), fun j hj => ?_⟩, by rw [hl]; simp, hk, hs⟩, st⟩
  · rw [cf.2.1]; exact fun _ q => by cases q
  · rw [esz] at hj
    match j, hj with
    | 0, _ => exact f0
    | 1, _ => exact f1
    | 2, _ => rfl
    | 3, _ => rfl
    | 4, _ => rfl
    | 5, _ => rfl

def QN (h0 : Heap) (n0 : Nat) (v : Option Value) (h : Heap) (L : List Loc) : Prop := v = none ∧ Fr n0 L ∧ h = h0
def QR (r : Value) (h0 : Heap) (n0 : Nat) (v : Option Value) (h : Heap) (L : List Loc) : Prop := v = some r ∧ Fr n0 L ∧ h = h0
theorem d1_0 : decode jdk_22_method_1_code 0 = .ok (.aload_n 0, 1) := by decide +kernel
theorem d1_1 : decode jdk_22_method_1_code 1 = .ok (.invokespecial 1, 3) := by decide +kernel
theorem d1_4 : decode jdk_22_method_1_code 4 = .ok (.return_, 1) := by decide +kernel
theorem pn_0 : plainName "java/util/AbstractCollection" = true := by first | (simp [plainName, overriddenIn]; done) | decide +kernel
theorem ef_rmAC (m : MethodId) (x0 : Addr) : entryFrame m #[(.ref x0)] 1 = mkF m 0 #[.val (.ref x0)] [] := by first | (simp [entryFrame, mkF, argsToLocals, Value.category]; done) | rfl
set_option maxRecDepth 65536 in
set_option maxHeartbeats 40000000 in
theorem rmAC (l : Launch) (Z : State) (a0 : Array Value) (hw : ∀ d ∈ tables_1, d.before a0 Z = true) (ws : List Jvm.Cond) (a : Addr) (h0 : Heap) (n0 : Nat) (Z0 : n0 ≤ h0.size) :
    MetFree l (⟨"java/util/AbstractCollection", "<init>", "()V"⟩ : MethodName) (head1 (Jvm.Cond.code (⟨"java/util/AbstractCollection", "<init>", "()V"⟩ : MethodName) jdk_22_method_1_code 1 none :: ws) ({ frames := 1, cells := 0, slots := 0, locals := 12 } : Room)) (fun a_ U_ => a_ = #[(.ref a)] ∧ Z.Warmed39 U_.vm ∧ U_.heap = h0) (fun _ _ _ _ _ => True) (fun _ U_ o_ U'_ => ∃ v_ L_, o_ = .returned v_ ∧ QN h0 n0 v_ U'_.heap L_ ∧ FrameEnd U_ o_ U'_ L_ ({ frames := 1, cells := 0, slots := 0, locals := 12 } : Room).cells ({ frames := 1, cells := 0, slots := 0, locals := 12 } : Room).slots) := by
  refine MetFree.of_bodySF (plainFor_of_name pn_0) hisR ?_
  intro p e s m args below meth c s₁ Bd hml0 hP hK
  obtain ⟨rfl, hZ, hh⟩ := hP
  have hx := Bd.exec
  have hby := Bd.bytes
  have hml : c.maxLocals = 1 := hml0
  have hown : s.vm.findClass "java/util/AbstractCollection" = some m.cls := findClass_of_methodNamed Bd.named
  have hnm := (name_of_methodNamed Bd.named Bd.method).1
  have hlk := BodyLoose.notSynchronized Bd
  have X0 : Stand p l e ({ frames := 1, cells := 0, slots := 0, locals := 12 } : Room) s m #[(.ref a)] below meth c s₁ [] 0 0 := Stand.of_body Bd
  have e0 : s₁.heap = h0 := by rw [← hh, Bd.state]; rfl
  have N0 := Fr.nil n0
  refine own_entry (P := own_End s (QN h0 n0) ({ frames := 1, cells := 0, slots := 0, locals := 12 } : Room).cells ({ frames := 1, cells := 0, slots := 0, locals := 12 } : Room).slots) (ef_rmAC m a) ?_
  show own_Go p e below _ s₁ (mkF m 0 #[.val (.ref a)] [])
  refine own_st (fun t_ k_ => XS.aloadN X0.here hx rfl (hb hby d1_0) rfl rfl k_) ?_
  show own_Go p e below _ s₁ (mkF m 1 #[.val (.ref a)] [(.ref a)])
  obtain ⟨T1, X1, e1, st1⟩ := initO X0 hx hZ hown (hw _ (List.mem_of_getElem? (i := 23) rfl)) (hw _ (List.mem_of_getElem? (i := 9) rfl)) (hw _ (List.mem_of_getElem? (i := 10) rfl)) e0 (g := (mkF m 1 #[.val (.ref a)] [(.ref a)])) rfl (by rw [hml]; rfl) rfl (hb hby d1_1) (by decide) (W := 0) (by show 2 * 0 + _ ≤ _; exact Nat.le_of_eq rfl) (by decide)
  refine own_st st1 ?_
  show own_Go p e below _ T1 (mkF m 4 #[.val (.ref a)] [])
  refine own_ret0 X1 hx hlk Bd.returns (hb hby d1_4) ?_ (by decide) (by decide)
  show QN h0 n0 _ T1.heap _
  rw [e1]
  exact ⟨rfl, N0, rfl⟩
theorem d2_0 : decode jdk_30_method_1_code 0 = .ok (.aload_n 0, 1) := by decide +kernel
theorem d2_1 : decode jdk_30_method_1_code 1 = .ok (.invokespecial 1, 3) := by decide +kernel
theorem d2_4 : decode jdk_30_method_1_code 4 = .ok (.return_, 1) := by decide +kernel
theorem pn_1 : plainName "java/lang/Record" = true := by first | (simp [plainName, overriddenIn]; done) | decide +kernel
theorem ef_rmRE (m : MethodId) (x0 : Addr) : entryFrame m #[(.ref x0)] 1 = mkF m 0 #[.val (.ref x0)] [] := by first | (simp [entryFrame, mkF, argsToLocals, Value.category]; done) | rfl
set_option maxRecDepth 65536 in
set_option maxHeartbeats 40000000 in
theorem rmRE (l : Launch) (Z : State) (a0 : Array Value) (hw : ∀ d ∈ tables_1, d.before a0 Z = true) (ws : List Jvm.Cond) (a : Addr) (h0 : Heap) (n0 : Nat) (Z0 : n0 ≤ h0.size) :
    MetFree l (⟨"java/lang/Record", "<init>", "()V"⟩ : MethodName) (head1 (Jvm.Cond.code (⟨"java/lang/Record", "<init>", "()V"⟩ : MethodName) jdk_30_method_1_code 1 none :: ws) ({ frames := 1, cells := 0, slots := 0, locals := 12 } : Room)) (fun a_ U_ => a_ = #[(.ref a)] ∧ Z.Warmed39 U_.vm ∧ U_.heap = h0) (fun _ _ _ _ _ => True) (fun _ U_ o_ U'_ => ∃ v_ L_, o_ = .returned v_ ∧ QN h0 n0 v_ U'_.heap L_ ∧ FrameEnd U_ o_ U'_ L_ ({ frames := 1, cells := 0, slots := 0, locals := 12 } : Room).cells ({ frames := 1, cells := 0, slots := 0, locals := 12 } : Room).slots) := by
  refine MetFree.of_bodySF (plainFor_of_name pn_1) hisR ?_
  intro p e s m args below meth c s₁ Bd hml0 hP hK
  obtain ⟨rfl, hZ, hh⟩ := hP
  have hx := Bd.exec
  have hby := Bd.bytes
  have hml : c.maxLocals = 1 := hml0
  have hown : s.vm.findClass "java/lang/Record" = some m.cls := findClass_of_methodNamed Bd.named
  have hnm := (name_of_methodNamed Bd.named Bd.method).1
  have hlk := BodyLoose.notSynchronized Bd
  have X0 : Stand p l e ({ frames := 1, cells := 0, slots := 0, locals := 12 } : Room) s m #[(.ref a)] below meth c s₁ [] 0 0 := Stand.of_body Bd
  have e0 : s₁.heap = h0 := by rw [← hh, Bd.state]; rfl
  have N0 := Fr.nil n0
  refine own_entry (P := own_End s (QN h0 n0) ({ frames := 1, cells := 0, slots := 0, locals := 12 } : Room).cells ({ frames := 1, cells := 0, slots := 0, locals := 12 } : Room).slots) (ef_rmRE m a) ?_
  show own_Go p e below _ s₁ (mkF m 0 #[.val (.ref a)] [])
  refine own_st (fun t_ k_ => XS.aloadN X0.here hx rfl (hb hby d2_0) rfl rfl k_) ?_
  show own_Go p e below _ s₁ (mkF m 1 #[.val (.ref a)] [(.ref a)])
  obtain ⟨T1, X1, e1, st1⟩ := initO X0 hx hZ hown (hw _ (List.mem_of_getElem? (i := 55) rfl)) (hw _ (List.mem_of_getElem? (i := 9) rfl)) (hw _ (List.mem_of_getElem? (i := 10) rfl)) e0 (g := (mkF m 1 #[.val (.ref a)] [(.ref a)])) rfl (by rw [hml]; rfl) rfl (hb hby d2_1) (by decide) (W := 0) (by show 2 * 0 + _ ≤ _; exact Nat.le_of_eq rfl) (by decide)
  refine own_st st1 ?_
  show own_Go p e below _ T1 (mkF m 4 #[.val (.ref a)] [])
  refine own_ret0 X1 hx hlk Bd.returns (hb hby d2_4) ?_ (by decide) (by decide)
  show QN h0 n0 _ T1.heap _
  rw [e1]
  exact ⟨rfl, N0, rfl⟩
def QAD (Z : State) (a : Addr) (h0 : Heap) (n0 : Nat) (v : Option Value) (h : Heap) (L : List Loc) : Prop := ∃ (t : Addr) (k : ClassId), v = none ∧ Fr n0 L ∧ Keep h0 h [a] ∧ h0.size ≤ t ∧ n0 ≤ t ∧ Exa Z h a "java/util/ArrayDeque" ∧ Fld Z h a "java/util/ArrayDeque" "elements" "[Ljava/lang/Object;" (.ref t) ∧ Fld Z h a "java/util/ArrayDeque" "head" "I" (.int (0 : Int32)) ∧ Fld Z h a "java/util/ArrayDeque" "tail" "I" (.int (0 : Int32)) ∧ Arv Z h t k (.object "java/lang/Object") (2 : Int32) [.null, .null] .null ∧ Ovr Z k "java/lang/Object" ∧ Exa Z h t "[Ljava/lang/Object;"
theorem d3_0 : decode jdk_21_method_4_code 0 = .ok (.aload_n 0, 1) := by decide +kernel
theorem d3_1 : decode jdk_21_method_4_code 1 = .ok (.invokespecial 42, 3) := by decide +kernel
theorem pd_0 : parseMethodDescriptor "()V" = some ⟨[], none⟩ := by decide +kernel
theorem d3_4 : decode jdk_21_method_4_code 4 = .ok (.aload_n 0, 1) := by decide +kernel
theorem d3_5 : decode jdk_21_method_4_code 5 = .ok (.iload_n 1, 1) := by decide +kernel
theorem d3_6 : decode jdk_21_method_4_code 6 = .ok (.iconst 1, 1) := by decide +kernel
theorem d3_7 : decode jdk_21_method_4_code 7 = .ok (.if_icmp .ge 7, 3) := by decide +kernel
theorem d3_14 : decode jdk_21_method_4_code 14 = .ok (.iload_n 1, 1) := by decide +kernel
theorem d3_15 : decode jdk_21_method_4_code 15 = .ok (.ldc 41, 2) := by decide +kernel
theorem d3_17 : decode jdk_21_method_4_code 17 = .ok (.if_icmp .ne 8, 3) := by decide +kernel
theorem d3_25 : decode jdk_21_method_4_code 25 = .ok (.iload_n 1, 1) := by decide +kernel
theorem d3_26 : decode jdk_21_method_4_code 26 = .ok (.iconst 1, 1) := by decide +kernel
theorem d3_27 : decode jdk_21_method_4_code 27 = .ok (.iadd, 1) := by decide +kernel
theorem d3_28 : decode jdk_21_method_4_code 28 = .ok (.anewarray 47, 3) := by decide +kernel
theorem d3_31 : decode jdk_21_method_4_code 31 = .ok (.putfield 3, 3) := by decide +kernel
theorem d3_34 : decode jdk_21_method_4_code 34 = .ok (.return_, 1) := by decide +kernel
theorem pn_2 : plainName "java/util/ArrayDeque" = true := by first | (simp [plainName, overriddenIn]; done) | decide +kernel
theorem ef_rmAD (m : MethodId) (x0 : Addr) (x1 : Int32) : entryFrame m #[(.ref x0), (.int x1)] 2 = mkF m 0 #[.val (.ref x0), .val (.int x1)] [] := by first | (simp [entryFrame, mkF, argsToLocals, Value.category]; done) | rfl
set_option maxRecDepth 65536 in
set_option maxHeartbeats 40000000 in
theorem rmAD (l : Launch) (Z : State) (a0 : Array Value) (hw : ∀ d ∈ tables_1, d.before a0 Z = true) (ws : List Jvm.Cond) (a : Addr) (h0 : Heap) (n0 : Nat) (Z0 : n0 ≤ h0.size) (g_a : n0 ≤ a) (Ea : Exa Z h0 a "java/util/ArrayDeque") (F1 : Fld Z h0 a "java/util/ArrayDeque" "elements" "[Ljava/lang/Object;" .null) (F2 : Fld Z h0 a "java/util/ArrayDeque" "head" "I" (.int (0 : Int32))) (F3 : Fld Z h0 a "java/util/ArrayDeque" "tail" "I" (.int (0 : Int32))) :
    MetFree l (⟨"java/util/ArrayDeque", "<init>", "(I)V"⟩ : MethodName) (head1 (Jvm.Cond.code (⟨"java/util/ArrayDeque", "<init>", "(I)V"⟩ : MethodName) jdk_21_method_4_code 2 none :: ws) ({ frames := 2, cells := 1, slots := 2, locals := 24 } : Room)) (fun a_ U_ => a_ = #[(.ref a), (.int (1 : Int32))] ∧ Z.Warmed39 U_.vm ∧ U_.heap = h0) (fun _ _ _ _ _ => True) (fun _ U_ o_ U'_ => ∃ v_ L_, o_ = .returned v_ ∧ QAD Z a h0 n0 v_ U'_.heap L_ ∧ FrameEnd U_ o_ U'_ L_ ({ frames := 2, cells := 1, slots := 2, locals := 24 } : Room).cells ({ frames := 2, cells := 1, slots := 2, locals := 24 } : Room).slots) := by
  refine MetFree.of_bodySF (plainFor_of_name pn_2) hisR ?_
  intro p e s m args below meth c s₁ Bd hml0 hP hK
  obtain ⟨rfl, hZ, hh⟩ := hP
  have hx := Bd.exec
  have hby := Bd.bytes
  have hml : c.maxLocals = 2 := hml0
  have hown : s.vm.findClass "java/util/ArrayDeque" = some m.cls := findClass_of_methodNamed Bd.named
  have hnm := (name_of_methodNamed Bd.named Bd.method).1
  have hlk := BodyLoose.notSynchronized Bd
  have X0 : Stand p l e ({ frames := 2, cells := 1, slots := 2, locals := 24 } : Room) s m #[(.ref a), (.int (1 : Int32))] below meth c s₁ [] 0 0 := Stand.of_body Bd
  have e0 : s₁.heap = h0 := by rw [← hh, Bd.state]; rfl
  have N0 := Fr.nil n0
  refine own_entry (P := own_End s (QAD Z a h0 n0) ({ frames := 2, cells := 1, slots := 2, locals := 24 } : Room).cells ({ frames := 2, cells := 1, slots := 2, locals := 24 } : Room).slots) (ef_rmAD m a (1 : Int32)) ?_
  show own_Go p e below _ s₁ (mkF m 0 #[.val (.ref a), .val (.int (1 : Int32))] [])
  refine own_st (fun t_ k_ => XS.aloadN X0.here hx rfl (hb hby d3_0) rfl rfl k_) ?_
  show own_Go p e below _ s₁ (mkF m 1 #[.val (.ref a), .val (.int (1 : Int32))] [(.ref a)])
  refine own_callN X0 hx (y := (⟨"java/util/AbstractCollection", "<init>", "()V"⟩ : MethodName)) rfl hown (mvT hZ (hw _ (List.mem_of_getElem? (i := 17) rfl))) (mvT hZ (hw _ (List.mem_of_getElem? (i := 18) rfl))) (mvT hZ (hw _ (List.mem_of_getElem? (i := 22) rfl))) (by decide) (backOf (W := 0) (rmAC l Z a0 hw [] a h0 n0 (Nat.le_trans Z0 (Keep.refl h0 [a]).1)) hZ (hw _ (List.mem_of_getElem? (i := 22) rfl)) (hw _ (List.mem_of_getElem? (i := 21) rfl)) (by decide) (by decide)) (a := a) (g := (mkF m 1 #[.val (.ref a), .val (.int (1 : Int32))] [(.ref a)])) rfl (by rw [hml]; rfl) (argsL := []) (rest := []) (lenOf pd_0 rfl) rfl (by show 2 * 0 + _ ≤ _; exact Nat.le_of_eq rfl) (hb hby d3_1) rfl e0 (by decide) (by decide) ?_
  rintro v1 T1 L1 X1 ⟨rfl, Nq1, hh1⟩
  have N1 := Fr.app N0 Nq1
  show own_Go p e below _ T1 (mkF m 4 #[.val (.ref a), .val (.int (1 : Int32))] [])
  refine own_st (fun t_ k_ => XS.aloadN X1.here hx rfl (hb hby d3_4) rfl rfl k_) ?_
  show own_Go p e below _ T1 (mkF m 5 #[.val (.ref a), .val (.int (1 : Int32))] [(.ref a)])
  refine own_st (fun t_ k_ => XS.iloadN X1.here hx rfl (hb hby d3_5) rfl k_) ?_
  show own_Go p e below _ T1 (mkF m 6 #[.val (.ref a), .val (.int (1 : Int32))] [(.int (1 : Int32)), (.ref a)])
  refine own_st (fun t_ k_ => XS.iconst X1.here hx rfl (hb hby d3_6) k_) ?_
  show own_Go p e below _ T1 (mkF m 7 #[.val (.ref a), .val (.int (1 : Int32))] [(.int (1 : Int32)), (.int (1 : Int32)), (.ref a)])
  refine own_st (fun t_ k_ => XS.icmpYes X1.here hx rfl (pc0 := 7) (pc' := 14) rfl (hb hby d3_7) rfl (by decide) (by decide) (by decide) k_) ?_
  show own_Go p e below _ T1 (mkF m 14 #[.val (.ref a), .val (.int (1 : Int32))] [(.ref a)])
  refine own_st (fun t_ k_ => XS.iloadN X1.here hx rfl (hb hby d3_14) rfl k_) ?_
  show own_Go p e below _ T1 (mkF m 15 #[.val (.ref a), .val (.int (1 : Int32))] [(.int (1 : Int32)), (.ref a)])
  refine own_st (fun t_ k_ => X1.ldcI hx hown (mvT hZ (hw _ (List.mem_of_getElem? (i := 24) rfl))) rfl (hb hby d3_15) k_) ?_
  show own_Go p e below _ T1 (mkF m 17 #[.val (.ref a), .val (.int (1 : Int32))] [(.int (2147483647 : Int32)), (.int (1 : Int32)), (.ref a)])
  refine own_st (fun t_ k_ => XS.icmpYes X1.here hx rfl (pc0 := 17) (pc' := 25) rfl (hb hby d3_17) rfl (by decide) (by decide) (by decide) k_) ?_
  show own_Go p e below _ T1 (mkF m 25 #[.val (.ref a), .val (.int (1 : Int32))] [(.ref a)])
  refine own_st (fun t_ k_ => XS.iloadN X1.here hx rfl (hb hby d3_25) rfl k_) ?_
  show own_Go p e below _ T1 (mkF m 26 #[.val (.ref a), .val (.int (1 : Int32))] [(.int (1 : Int32)), (.ref a)])
  refine own_st (fun t_ k_ => XS.iconst X1.here hx rfl (hb hby d3_26) k_) ?_
  show own_Go p e below _ T1 (mkF m 27 #[.val (.ref a), .val (.int (1 : Int32))] [(.int (1 : Int32)), (.int (1 : Int32)), (.ref a)])
  refine own_st (fun t_ k_ => XS.iadd X1.here hx rfl (hb hby d3_27) rfl k_) ?_
  show own_Go p e below _ T1 (mkF m 28 #[.val (.ref a), .val (.int (1 : Int32))] [(.int (2 : Int32)), (.ref a)])
  obtain ⟨T2, h2, k2, X2, e2, E2, A2, O2, Ea2, st2⟩ := own_newRE X1 hx hZ hown (hw _ (List.mem_of_getElem? (i := 25) rfl)) (hw _ (List.mem_of_getElem? (i := 26) rfl)) hh1 (g := (mkF m 28 #[.val (.ref a), .val (.int (1 : Int32))] [(.int (2 : Int32)), (.ref a)])) rfl (hb hby d3_28) rfl (by decide) (cap := 2) (by decide) (by decide) (by decide) (by decide)
  obtain ⟨nb2, g2⟩ : ∃ z, z = h0.size := ⟨_, rfl⟩
  rw [← g2] at A2 Ea2 st2
  refine own_st st2 ?_
  have g_nb2 : n0 ≤ nb2 := Nat.le_trans (Nat.le_trans Z0 (Keep.refl h0 [a]).1) (Nat.le_of_eq g2.symm)
  have K2 : Keep h0 h2 [a] := (Keep.refl h0 [a]).ext E2
  have sz_nb2 : h0.size ≤ nb2 := Nat.le_trans (Keep.refl h0 [a]).1 (Nat.le_of_eq g2.symm)
  have V2 : Arv Z h2 nb2 k2 (.object "java/lang/Object") (2 : Int32) [.null, .null] .null := (Arv.new A2 (by decide)).pad (pad_rep [] .null 2)
  show own_Go p e below _ T2 (mkF m 31 #[.val (.ref a), .val (.int (1 : Int32))] [(.ref nb2), (.ref a)])
  have f4 := (Fld.ext E2 F1)
  have f5 := (Exa.ext E2 Ea)
  obtain ⟨T3, h3, X3, e3, W3, st3⟩ := putF X2 hx hZ hown (host := "") (Or.inl (hw _ (List.mem_of_getElem? (i := 27) rfl))) Via.refl e2 f4 f5 (Or.inl (hw _ (List.mem_of_getElem? (i := 28) rfl))) (hw _ (List.mem_of_getElem? (i := 12) rfl)) (ty := (.array (.object "java/lang/Object"))) (by decide) rfl rfl (g := (mkF m 31 #[.val (.ref a), .val (.int (1 : Int32))] [(.ref nb2), (.ref a)])) rfl rfl (hb hby d3_31)
  refine own_st st3 ?_
  have N3 := Fr.snoc X3 N1 g_a
  have K3 : Keep h0 h3 [a] := K2.wr W3 (Or.inl (List.mem_of_getElem? (i := 0) rfl))
  have Fw3 := Fld.same W3 f4
  show own_Go p e below _ T3 (mkF m 34 #[.val (.ref a), .val (.int (1 : Int32))] [])
  have f6 := (Exa.wr W3 f5)
  have f7 := (Fld.ext E2 F2)
  have f8 := (Fld.other W3 f7 (Or.inr (slot_ne (Or.inl (hw _ (List.mem_of_getElem? (i := 78) rfl))) (Or.inl (hw _ (List.mem_of_getElem? (i := 28) rfl))) (by decide) (t := .int) (t' := (.array (.object "java/lang/Object"))) (by decide) (by decide))))
  have f9 := (Fld.ext E2 F3)
  have f10 := (Fld.other W3 f9 (Or.inr (slot_ne (Or.inl (hw _ (List.mem_of_getElem? (i := 75) rfl))) (Or.inl (hw _ (List.mem_of_getElem? (i := 28) rfl))) (by decide) (t := .int) (t' := (.array (.object "java/lang/Object"))) (by decide) (by decide))))
  have ne11 : a ≠ nb2 := (Nat.ne_of_lt (Nat.lt_of_lt_of_le Ea.lt (Nat.le_of_eq g2.symm)))
  have f12 := (V2.other W3 (Ne.symm ne11))
  have f13 := (Exa.wr W3 Ea2)
  refine own_ret0 X3 hx hlk Bd.returns (hb hby d3_34) ?_ (by decide) (by decide)
  show QAD Z a h0 n0 _ T3.heap _
  rw [e3]
  exact ⟨nb2, k2, rfl, N3, K3, sz_nb2, g_nb2, f6, Fw3, f8, f10, f12, O2, f13⟩
def QHB (Z : State) (a : Addr) (h0 : Heap) (n0 : Nat) (v : Option Value) (h : Heap) (L : List Loc) : Prop := ∃ (d t : Addr) (k : ClassId), v = none ∧ Fr n0 L ∧ Keep h0 h [a] ∧ h0.size ≤ d ∧ n0 ≤ d ∧ h0.size ≤ t ∧ n0 ≤ t ∧ Exa Z h a "com/example/lean_pubsub/leanpubsub/connection/HeldBack" ∧ Fld Z h a "com/example/lean_pubsub/leanpubsub/connection/HeldBack" "held" "Ljava/util/Queue;" (.ref d) ∧ Fld Z h a "com/example/lean_pubsub/leanpubsub/connection/HeldBack" "bytes" "J" (.long (0 : Int64)) ∧ Exa Z h d "java/util/ArrayDeque" ∧ Fld Z h d "java/util/ArrayDeque" "elements" "[Ljava/lang/Object;" (.ref t) ∧ Fld Z h d "java/util/ArrayDeque" "head" "I" (.int (0 : Int32)) ∧ Fld Z h d "java/util/ArrayDeque" "tail" "I" (.int (0 : Int32)) ∧ Arv Z h t k (.object "java/lang/Object") (2 : Int32) [.null, .null] .null ∧ Ovr Z k "java/lang/Object" ∧ Exa Z h t "[Ljava/lang/Object;"
theorem d4_0 : decode prog_34_method_1_code 0 = .ok (.aload_n 0, 1) := by decide +kernel
theorem d4_1 : decode prog_34_method_1_code 1 = .ok (.invokespecial 1, 3) := by decide +kernel
theorem d4_4 : decode prog_34_method_1_code 4 = .ok (.aload_n 0, 1) := by decide +kernel
theorem d4_5 : decode prog_34_method_1_code 5 = .ok (.new 7, 3) := by decide +kernel
theorem d4_8 : decode prog_34_method_1_code 8 = .ok (.dup, 1) := by decide +kernel
theorem d4_9 : decode prog_34_method_1_code 9 = .ok (.iconst 1, 1) := by decide +kernel
theorem d4_10 : decode prog_34_method_1_code 10 = .ok (.invokespecial 9, 3) := by decide +kernel
theorem pd_1 : parseMethodDescriptor "(I)V" = some ⟨[.int], none⟩ := by decide +kernel
theorem d4_13 : decode prog_34_method_1_code 13 = .ok (.putfield 12, 3) := by decide +kernel
theorem d4_16 : decode prog_34_method_1_code 16 = .ok (.return_, 1) := by decide +kernel
theorem pn_3 : plainName "com/example/lean_pubsub/leanpubsub/connection/HeldBack" = true := by first | (simp [plainName, overriddenIn]; done) | decide +kernel
theorem ef_rmHB (m : MethodId) (x0 : Addr) : entryFrame m #[(.ref x0)] 1 = mkF m 0 #[.val (.ref x0)] [] := by first | (simp [entryFrame, mkF, argsToLocals, Value.category]; done) | rfl
set_option maxRecDepth 65536 in
set_option maxHeartbeats 40000000 in
theorem rmHB (l : Launch) (Z : State) (a0 : Array Value) (hw : ∀ d ∈ tables_1, d.before a0 Z = true) (ws : List Jvm.Cond) (a : Addr) (h0 : Heap) (n0 : Nat) (Z0 : n0 ≤ h0.size) (g_a : n0 ≤ a) (Ea : Exa Z h0 a "com/example/lean_pubsub/leanpubsub/connection/HeldBack") (F1 : Fld Z h0 a "com/example/lean_pubsub/leanpubsub/connection/HeldBack" "held" "Ljava/util/Queue;" .null) (F2 : Fld Z h0 a "com/example/lean_pubsub/leanpubsub/connection/HeldBack" "bytes" "J" (.long (0 : Int64))) :
    MetFree l (⟨"com/example/lean_pubsub/leanpubsub/connection/HeldBack", "<init>", "()V"⟩ : MethodName) (head1 (Jvm.Cond.code (⟨"com/example/lean_pubsub/leanpubsub/connection/HeldBack", "<init>", "()V"⟩ : MethodName) prog_34_method_1_code 1 none :: ws) ({ frames := 3, cells := 2, slots := 5, locals := 39 } : Room)) (fun a_ U_ => a_ = #[(.ref a)] ∧ Z.Warmed39 U_.vm ∧ U_.heap = h0) (fun _ _ _ _ _ => True) (fun _ U_ o_ U'_ => ∃ v_ L_, o_ = .returned v_ ∧ QHB Z a h0 n0 v_ U'_.heap L_ ∧ FrameEnd U_ o_ U'_ L_ ({ frames := 3, cells := 2, slots := 5, locals := 39 } : Room).cells ({ frames := 3, cells := 2, slots := 5, locals := 39 } : Room).slots) := by
  refine MetFree.of_bodySF (plainFor_of_name pn_3) hisR ?_
  intro p e s m args below meth c s₁ Bd hml0 hP hK
  obtain ⟨rfl, hZ, hh⟩ := hP
  have hx := Bd.exec
  have hby := Bd.bytes
  have hml : c.maxLocals = 1 := hml0
  have hown : s.vm.findClass "com/example/lean_pubsub/leanpubsub/connection/HeldBack" = some m.cls := findClass_of_methodNamed Bd.named
  have hnm := (name_of_methodNamed Bd.named Bd.method).1
  have hlk := BodyLoose.notSynchronized Bd
  have X0 : Stand p l e ({ frames := 3, cells := 2, slots := 5, locals := 39 } : Room) s m #[(.ref a)] below meth c s₁ [] 0 0 := Stand.of_body Bd
  have e0 : s₁.heap = h0 := by rw [← hh, Bd.state]; rfl
  have N0 := Fr.nil n0
  refine own_entry (P := own_End s (QHB Z a h0 n0) ({ frames := 3, cells := 2, slots := 5, locals := 39 } : Room).cells ({ frames := 3, cells := 2, slots := 5, locals := 39 } : Room).slots) (ef_rmHB m a) ?_
  show own_Go p e below _ s₁ (mkF m 0 #[.val (.ref a)] [])
  refine own_st (fun t_ k_ => XS.aloadN X0.here hx rfl (hb hby d4_0) rfl rfl k_) ?_
  show own_Go p e below _ s₁ (mkF m 1 #[.val (.ref a)] [(.ref a)])
  obtain ⟨T1, X1, e1, st1⟩ := initO X0 hx hZ hown (hw _ (List.mem_of_getElem? (i := 8) rfl)) (hw _ (List.mem_of_getElem? (i := 9) rfl)) (hw _ (List.mem_of_getElem? (i := 10) rfl)) e0 (g := (mkF m 1 #[.val (.ref a)] [(.ref a)])) rfl (by rw [hml]; rfl) rfl (hb hby d4_1) (by decide) (W := 0) (by show 2 * 0 + _ ≤ _; exact Nat.le_of_eq rfl) (by decide)
  refine own_st st1 ?_
  show own_Go p e below _ T1 (mkF m 4 #[.val (.ref a)] [])
  refine own_st (fun t_ k_ => XS.aloadN X1.here hx rfl (hb hby d4_4) rfl rfl k_) ?_
  show own_Go p e below _ T1 (mkF m 5 #[.val (.ref a)] [(.ref a)])
  obtain ⟨T2, h2, X2, e2, E2, A2, D2, cel2, st2⟩ := newO X1 hx hZ hown (hw _ (List.mem_of_getElem? (i := 11) rfl)) (hw _ (List.mem_of_getElem? (i := 12) rfl)) (hw _ (List.mem_of_getElem? (i := 13) rfl)) e1 (g := (mkF m 5 #[.val (.ref a)] [(.ref a)])) rfl (hb hby d4_5) (by decide) (by decide)
  obtain ⟨nb2, g2⟩ : ∃ z, z = h0.size := ⟨_, rfl⟩
  rw [← g2] at A2 D2 cel2 st2
  refine own_st st2 ?_
  have g_nb2 : n0 ≤ nb2 := Nat.le_trans (Nat.le_trans Z0 (Keep.refl h0 [a]).1) (Nat.le_of_eq g2.symm)
  have K2 : Keep h0 h2 [a] := (Keep.refl h0 [a]).ext E2
  have sz_nb2 : h0.size ≤ nb2 := Nat.le_trans (Keep.refl h0 [a]).1 (Nat.le_of_eq g2.symm)
  have F2_elements : Fld Z h2 nb2 "java/util/ArrayDeque" "elements" "[Ljava/lang/Object;" .null := D2 (Or.inl (hw _ (List.mem_of_getElem? (i := 28) rfl))) (ty := (.array (.object "java/lang/Object"))) (by decide)
  have F2_tail : Fld Z h2 nb2 "java/util/ArrayDeque" "tail" "I" (.int (0 : Int32)) := D2 (Or.inl (hw _ (List.mem_of_getElem? (i := 75) rfl))) (ty := .int) (by decide)
  have F2_head : Fld Z h2 nb2 "java/util/ArrayDeque" "head" "I" (.int (0 : Int32)) := D2 (Or.inl (hw _ (List.mem_of_getElem? (i := 78) rfl))) (ty := .int) (by decide)
  show own_Go p e below _ T2 (mkF m 8 #[.val (.ref a)] [(.ref nb2), (.ref a)])
  refine own_st (fun t_ k_ => XS.dup X2.here hx rfl (hb hby d4_8) rfl rfl k_) ?_
  show own_Go p e below _ T2 (mkF m 9 #[.val (.ref a)] [(.ref nb2), (.ref nb2), (.ref a)])
  refine own_st (fun t_ k_ => XS.iconst X2.here hx rfl (hb hby d4_9) k_) ?_
  show own_Go p e below _ T2 (mkF m 10 #[.val (.ref a)] [(.int (1 : Int32)), (.ref nb2), (.ref nb2), (.ref a)])
  refine own_callN X2 hx (y := (⟨"java/util/ArrayDeque", "<init>", "(I)V"⟩ : MethodName)) rfl hown (mvT hZ (hw _ (List.mem_of_getElem? (i := 14) rfl))) (mvT hZ (hw _ (List.mem_of_getElem? (i := 15) rfl))) (mvT hZ (hw _ (List.mem_of_getElem? (i := 16) rfl))) (by decide) (backOf (W := 2) (rmAD l Z a0 hw [] nb2 h2 n0 (Nat.le_trans Z0 K2.1) g_nb2 A2 F2_elements F2_head F2_tail) hZ (hw _ (List.mem_of_getElem? (i := 16) rfl)) (hw _ (List.mem_of_getElem? (i := 13) rfl)) (by decide) (by decide)) (a := nb2) (g := (mkF m 10 #[.val (.ref a)] [(.int (1 : Int32)), (.ref nb2), (.ref nb2), (.ref a)])) rfl (by rw [hml]; rfl) (argsL := [(.int (1 : Int32))]) (rest := [(.ref nb2), (.ref a)]) (lenOf pd_1 rfl) rfl (by show 2 * 0 + _ ≤ _; exact Nat.le_of_eq rfl) (hb hby d4_10) rfl e2 (by decide) (by decide) ?_
  rintro v3 T3 L3 X3 ⟨t3, k3, rfl, Nq3, Kq3, gt3, g_t3, Eq3, F1_3, F2_3, F3_3, Aq3, Oq3, Eo3⟩
  have N3 := Fr.app N0 Nq3
  have K3 : Keep h0 T3.heap [a] := K2.trans Kq3 (allS (Or.inr sz_nb2) all0)
  show own_Go p e below _ T3 (mkF m 13 #[.val (.ref a)] [(.ref nb2), (.ref a)])
  have sz_t3 : h0.size ≤ t3 := Nat.le_trans K2.1 gt3
  have f5 := (Fld.ext E2 F1)
  have ne6 : a ≠ nb2 := (Nat.ne_of_lt (Nat.lt_of_lt_of_le Ea.lt (Nat.le_of_eq g2.symm)))
  have f7 := (f5.keep Kq3 (ninS ne6 nin0))
  have f8 := (Exa.ext E2 Ea)
  have f9 := (f8.keep Kq3)
  obtain ⟨T4, h4, X4, e4, W4, st4⟩ := putF X3 hx hZ hown (host := "") (Or.inl (hw _ (List.mem_of_getElem? (i := 29) rfl))) Via.refl rfl f7 f9 (Or.inr ⟨(hw _ (List.mem_of_getElem? (i := 30) rfl)), rfl, hnm⟩) (hw _ (List.mem_of_getElem? (i := 3) rfl)) (ty := (.object "java/util/Queue")) (by decide) rfl rfl (g := (mkF m 13 #[.val (.ref a)] [(.ref nb2), (.ref a)])) rfl rfl (hb hby d4_13)
  refine own_st st4 ?_
  have N4 := Fr.snoc X4 N3 g_a
  have K4 : Keep h0 h4 [a] := K3.wr W4 (Or.inl (List.mem_of_getElem? (i := 0) rfl))
  have Fw4 := Fld.same W4 f7
  show own_Go p e below _ T4 (mkF m 16 #[.val (.ref a)] [])
  have f10 := (Exa.wr W4 f9)
  have f11 := (Fld.ext E2 F2)
  have f12 := (f11.keep Kq3 (ninS ne6 nin0))
  have f13 := (Fld.other W4 f12 (Or.inr (slot_ne (Or.inl (hw _ (List.mem_of_getElem? (i := 37) rfl))) (Or.inr (hw _ (List.mem_of_getElem? (i := 30) rfl))) (by decide) (t := .long) (t' := (.object "java/util/Queue")) (by decide) (by decide))))
  have f14 := (Exa.wr W4 Eq3)
  have f15 := (Fld.other W4 F1_3 (Or.inl (Ne.symm ne6)))
  have f16 := (Fld.other W4 F2_3 (Or.inl (Ne.symm ne6)))
  have f17 := (Fld.other W4 F3_3 (Or.inl (Ne.symm ne6)))
  have ne18 : a ≠ t3 := (Nat.ne_of_lt (Nat.lt_of_lt_of_le f8.lt gt3))
  have f19 := (Aq3.other W4 (Ne.symm ne18))
  have f20 := (Exa.wr W4 Eo3)
  refine own_ret0 X4 hx hlk Bd.returns (hb hby d4_16) ?_ (by decide) (by decide)
  show QHB Z a h0 n0 _ T4.heap _
  rw [e4]
  exact ⟨nb2, t3, k3, rfl, N4, K4, sz_nb2, g_nb2, sz_t3, g_t3, f10, Fw4, f13, f14, f15, f16, f17, f19, Oq3, f20⟩
def own_full (b : Int64) : Int32 := if lcmpW b (65536 : Int64) < (0 : Int32) then 0 else 1
theorem d5_0 : decode prog_34_method_4_code 0 = .ok (.aload_n 0, 1) := by decide +kernel
theorem d5_1 : decode prog_34_method_4_code 1 = .ok (.getfield 29, 3) := by decide +kernel
theorem d5_4 : decode prog_34_method_4_code 4 = .ok (.ldc2_w 61, 3) := by decide +kernel
theorem d5_7 : decode prog_34_method_4_code 7 = .ok (.lcmp, 1) := by decide +kernel
theorem d5_8 : decode prog_34_method_4_code 8 = .ok (.ifCond .lt 7, 3) := by decide +kernel
theorem d5_15 : decode prog_34_method_4_code 15 = .ok (.iconst 0, 1) := by decide +kernel
theorem d5_16 : decode prog_34_method_4_code 16 = .ok (.ireturn, 1) := by decide +kernel
theorem d5_11 : decode prog_34_method_4_code 11 = .ok (.iconst 1, 1) := by decide +kernel
theorem d5_12 : decode prog_34_method_4_code 12 = .ok (.goto 4, 3) := by decide +kernel
theorem ef_rmIF (m : MethodId) (x0 : Addr) : entryFrame m #[(.ref x0)] 1 = mkF m 0 #[.val (.ref x0)] [] := by first | (simp [entryFrame, mkF, argsToLocals, Value.category]; done) | rfl
set_option maxRecDepth 65536 in
set_option maxHeartbeats 40000000 in
theorem rmIF (l : Launch) (Z : State) (a0 : Array Value) (hw : ∀ d ∈ tables_1, d.before a0 Z = true) (ws : List Jvm.Cond) (a : Addr) (b : Int64) (h0 : Heap) (n0 : Nat) (Z0 : n0 ≤ h0.size) (F : Fld Z h0 a "com/example/lean_pubsub/leanpubsub/connection/HeldBack" "bytes" "J" (.long b)) :
    MetFree l (⟨"com/example/lean_pubsub/leanpubsub/connection/HeldBack", "isFull", "()Z"⟩ : MethodName) (head1 (Jvm.Cond.code (⟨"com/example/lean_pubsub/leanpubsub/connection/HeldBack", "isFull", "()Z"⟩ : MethodName) prog_34_method_4_code 1 (some .boolean) :: ws) ({ frames := 0, cells := 0, slots := 0, locals := 0 } : Room)) (fun a_ U_ => a_ = #[(.ref a)] ∧ Z.Warmed39 U_.vm ∧ U_.heap = h0) (fun _ _ _ _ _ => True) (fun _ U_ o_ U'_ => ∃ v_ L_, o_ = .returned v_ ∧ QR (.int (own_full b)) h0 n0 v_ U'_.heap L_ ∧ FrameEnd U_ o_ U'_ L_ ({ frames := 0, cells := 0, slots := 0, locals := 0 } : Room).cells ({ frames := 0, cells := 0, slots := 0, locals := 0 } : Room).slots) := by
  refine MetFree.of_bodySF (plainFor_of_name pn_3) hisR ?_
  intro p e s m args below meth c s₁ Bd hml0 hP hK
  obtain ⟨rfl, hZ, hh⟩ := hP
  have hx := Bd.exec
  have hby := Bd.bytes
  have hml : c.maxLocals = 1 := hml0
  have hown : s.vm.findClass "com/example/lean_pubsub/leanpubsub/connection/HeldBack" = some m.cls := findClass_of_methodNamed Bd.named
  have hnm := (name_of_methodNamed Bd.named Bd.method).1
  have hlk := BodyLoose.notSynchronized Bd
  have X0 : Stand p l e ({ frames := 0, cells := 0, slots := 0, locals := 0 } : Room) s m #[(.ref a)] below meth c s₁ [] 0 0 := Stand.of_body Bd
  have e0 : s₁.heap = h0 := by rw [← hh, Bd.state]; rfl
  have N0 := Fr.nil n0
  refine own_entry (P := own_End s (QR (.int (own_full b)) h0 n0) ({ frames := 0, cells := 0, slots := 0, locals := 0 } : Room).cells ({ frames := 0, cells := 0, slots := 0, locals := 0 } : Room).slots) (ef_rmIF m a) ?_
  show own_Go p e below _ s₁ (mkF m 0 #[.val (.ref a)] [])
  refine own_st (fun t_ k_ => XS.aloadN X0.here hx rfl (hb hby d5_0) rfl rfl k_) ?_
  show own_Go p e below _ s₁ (mkF m 1 #[.val (.ref a)] [(.ref a)])
  obtain ⟨T1, X1, e1, st1⟩ := getF X0 hx hZ hown (host := "") (Or.inl (hw _ (List.mem_of_getElem? (i := 36) rfl))) Via.refl e0 F (g := (mkF m 1 #[.val (.ref a)] [(.ref a)])) rfl rfl (hb hby d5_1)
  refine own_st st1 ?_
  show own_Go p e below _ T1 (mkF m 4 #[.val (.ref a)] [(.long b)])
  refine own_st (fun t_ k_ => X1.ldc2J hx hown (mvT hZ (hw _ (List.mem_of_getElem? (i := 38) rfl))) rfl (hb hby d5_4) k_) ?_
  show own_Go p e below _ T1 (mkF m 7 #[.val (.ref a)] [(.long (65536 : Int64)), (.long b)])
  refine own_st (fun t_ k_ => XS.lcmp X1.here hx rfl (hb hby d5_7) rfl k_) ?_
  show own_Go p e below _ T1 (mkF m 8 #[.val (.ref a)] [(.int (lcmpW b (65536 : Int64)))])
  by_cases hf_ : (lcmpW b (65536 : Int64)) < (0 : Int32)
  · refine own_st (fun t_ k_ => XS.ifYes X1.here hx rfl (pc0 := 8) (pc' := 15) rfl (hb hby d5_8) rfl ((if0 _ _).trans (tlt hf_).1) (by decide) (by decide) k_) ?_
    show own_Go p e below _ T1 (mkF m 15 #[.val (.ref a)] [])
    refine own_st (fun t_ k_ => XS.iconst X1.here hx rfl (hb hby d5_15) k_) ?_
    show own_Go p e below _ T1 (mkF m 16 #[.val (.ref a)] [(.int (0 : Int32))])
    refine own_retN X1 hx hlk (t := .boolean) Bd.returns (by simp) (hb hby d5_16) ?_ (by decide) (by decide)
    show QR (.int (own_full b)) h0 n0 _ T1.heap _
    rw [e1]
    exact ⟨by rw [own_full, if_pos hf_]; rfl, N0, rfl⟩
  · refine own_st (fun t_ k_ => XS.ifNo X1.here hx rfl (hb hby d5_8) rfl ((if0 _ _).trans (flt hf_).1) k_) ?_
    show own_Go p e below _ T1 (mkF m 11 #[.val (.ref a)] [])
    refine own_st (fun t_ k_ => XS.iconst X1.here hx rfl (hb hby d5_11) k_) ?_
    show own_Go p e below _ T1 (mkF m 12 #[.val (.ref a)] [(.int (1 : Int32))])
    refine own_st (fun t_ k_ => XS.goto X1.here hx rfl (pc0 := 12) (pc' := 16) rfl (hb hby d5_12) (by decide) (by decide) k_) ?_
    show own_Go p e below _ T1 (mkF m 16 #[.val (.ref a)] [(.int (1 : Int32))])
    refine own_retN X1 hx hlk (t := .boolean) Bd.returns (by simp) (hb hby d5_16) ?_ (by decide) (by decide)
    show QR (.int (own_full b)) h0 n0 _ T1.heap _
    rw [e1]
    exact ⟨by rw [own_full, if_neg hf_]; rfl, N0, rfl⟩
def QHD (Z : State) (a : Addr) (h0 : Heap) (n0 : Nat) (v : Option Value) (h : Heap) (L : List Loc) : Prop := v = none ∧ Fr n0 L ∧ Keep h0 h [a] ∧ Exa Z h a "com/example/lean_pubsub/leanpubsub/connection/HeldBack$Held"
theorem d6_0 : decode prog_35_method_1_code 0 = .ok (.aload_n 0, 1) := by decide +kernel
theorem d6_1 : decode prog_35_method_1_code 1 = .ok (.invokespecial 1, 3) := by decide +kernel
theorem d6_4 : decode prog_35_method_1_code 4 = .ok (.aload_n 0, 1) := by decide +kernel
theorem d6_5 : decode prog_35_method_1_code 5 = .ok (.iload_n 1, 1) := by decide +kernel
theorem d6_6 : decode prog_35_method_1_code 6 = .ok (.putfield 7, 3) := by decide +kernel
theorem d6_9 : decode prog_35_method_1_code 9 = .ok (.aload_n 0, 1) := by decide +kernel
theorem d6_10 : decode prog_35_method_1_code 10 = .ok (.aload_n 2, 1) := by decide +kernel
theorem d6_11 : decode prog_35_method_1_code 11 = .ok (.putfield 13, 3) := by decide +kernel
theorem d6_14 : decode prog_35_method_1_code 14 = .ok (.return_, 1) := by decide +kernel
theorem pn_4 : plainName "com/example/lean_pubsub/leanpubsub/connection/HeldBack$Held" = true := by first | (simp [plainName, overriddenIn]; done) | decide +kernel
theorem ef_rmHD (m : MethodId) (x0 : Addr) (x1 : Int32) : entryFrame m #[(.ref x0), (.int x1), .null] 3 = mkF m 0 #[.val (.ref x0), .val (.int x1), .val .null] [] := by first | (simp [entryFrame, mkF, argsToLocals, Value.category]; done) | rfl
set_option maxRecDepth 65536 in
set_option maxHeartbeats 40000000 in
theorem rmHD (l : Launch) (Z : State) (a0 : Array Value) (hw : ∀ d ∈ tables_1, d.before a0 Z = true) (ws : List Jvm.Cond) (a : Addr) (x : Int32) (h0 : Heap) (n0 : Nat) (Z0 : n0 ≤ h0.size) (g_a : n0 ≤ a) (Ea : Exa Z h0 a "com/example/lean_pubsub/leanpubsub/connection/HeldBack$Held") (F1 : Fld Z h0 a "com/example/lean_pubsub/leanpubsub/connection/HeldBack$Held" "bytes" "I" (.int (0 : Int32))) (F2 : Fld Z h0 a "com/example/lean_pubsub/leanpubsub/connection/HeldBack$Held" "taking" "Ljava/lang/Runnable;" .null) :
    MetFree l (⟨"com/example/lean_pubsub/leanpubsub/connection/HeldBack$Held", "<init>", "(ILjava/lang/Runnable;)V"⟩ : MethodName) (head1 (Jvm.Cond.code (⟨"com/example/lean_pubsub/leanpubsub/connection/HeldBack$Held", "<init>", "(ILjava/lang/Runnable;)V"⟩ : MethodName) prog_35_method_1_code 3 none :: ws) ({ frames := 2, cells := 0, slots := 0, locals := 24 } : Room)) (fun a_ U_ => a_ = #[(.ref a), (.int x), .null] ∧ Z.Warmed39 U_.vm ∧ U_.heap = h0) (fun _ _ _ _ _ => True) (fun _ U_ o_ U'_ => ∃ v_ L_, o_ = .returned v_ ∧ QHD Z a h0 n0 v_ U'_.heap L_ ∧ FrameEnd U_ o_ U'_ L_ ({ frames := 2, cells := 0, slots := 0, locals := 24 } : Room).cells ({ frames := 2, cells := 0, slots := 0, locals := 24 } : Room).slots) := by
  refine MetFree.of_bodySF (plainFor_of_name pn_4) hisR ?_
  intro p e s m args below meth c s₁ Bd hml0 hP hK
  obtain ⟨rfl, hZ, hh⟩ := hP
  have hx := Bd.exec
  have hby := Bd.bytes
  have hml : c.maxLocals = 3 := hml0
  have hown : s.vm.findClass "com/example/lean_pubsub/leanpubsub/connection/HeldBack$Held" = some m.cls := findClass_of_methodNamed Bd.named
  have hnm := (name_of_methodNamed Bd.named Bd.method).1
  have hlk := BodyLoose.notSynchronized Bd
  have X0 : Stand p l e ({ frames := 2, cells := 0, slots := 0, locals := 24 } : Room) s m #[(.ref a), (.int x), .null] below meth c s₁ [] 0 0 := Stand.of_body Bd
  have e0 : s₁.heap = h0 := by rw [← hh, Bd.state]; rfl
  have N0 := Fr.nil n0
  refine own_entry (P := own_End s (QHD Z a h0 n0) ({ frames := 2, cells := 0, slots := 0, locals := 24 } : Room).cells ({ frames := 2, cells := 0, slots := 0, locals := 24 } : Room).slots) (ef_rmHD m a x) ?_
  show own_Go p e below _ s₁ (mkF m 0 #[.val (.ref a), .val (.int x), .val .null] [])
  refine own_st (fun t_ k_ => XS.aloadN X0.here hx rfl (hb hby d6_0) rfl rfl k_) ?_
  show own_Go p e below _ s₁ (mkF m 1 #[.val (.ref a), .val (.int x), .val .null] [(.ref a)])
  refine own_callN X0 hx (y := (⟨"java/lang/Record", "<init>", "()V"⟩ : MethodName)) rfl hown (mvT hZ (hw _ (List.mem_of_getElem? (i := 50) rfl))) (mvT hZ (hw _ (List.mem_of_getElem? (i := 51) rfl))) (mvT hZ (hw _ (List.mem_of_getElem? (i := 54) rfl))) (by decide) (backOf (W := 0) (rmRE l Z a0 hw [] a h0 n0 (Nat.le_trans Z0 (Keep.refl h0 [a]).1)) hZ (hw _ (List.mem_of_getElem? (i := 54) rfl)) (hw _ (List.mem_of_getElem? (i := 53) rfl)) (by decide) (by decide)) (a := a) (g := (mkF m 1 #[.val (.ref a), .val (.int x), .val .null] [(.ref a)])) rfl (by rw [hml]; rfl) (argsL := []) (rest := []) (lenOf pd_0 rfl) rfl (by show 2 * 0 + _ ≤ _; exact Nat.le_of_eq rfl) (hb hby d6_1) rfl e0 (by decide) (by decide) ?_
  rintro v1 T1 L1 X1 ⟨rfl, Nq1, hh1⟩
  have N1 := Fr.app N0 Nq1
  show own_Go p e below _ T1 (mkF m 4 #[.val (.ref a), .val (.int x), .val .null] [])
  refine own_st (fun t_ k_ => XS.aloadN X1.here hx rfl (hb hby d6_4) rfl rfl k_) ?_
  show own_Go p e below _ T1 (mkF m 5 #[.val (.ref a), .val (.int x), .val .null] [(.ref a)])
  refine own_st (fun t_ k_ => XS.iloadN X1.here hx rfl (hb hby d6_5) rfl k_) ?_
  show own_Go p e below _ T1 (mkF m 6 #[.val (.ref a), .val (.int x), .val .null] [(.int x), (.ref a)])
  obtain ⟨T2, h2, X2, e2, W2, st2⟩ := putF X1 hx hZ hown (host := "") (Or.inl (hw _ (List.mem_of_getElem? (i := 56) rfl))) Via.refl hh1 F1 Ea (Or.inr ⟨(hw _ (List.mem_of_getElem? (i := 57) rfl)), rfl, hnm⟩) (hw _ (List.mem_of_getElem? (i := 45) rfl)) (ty := .int) (by decide) rfl rfl (g := (mkF m 6 #[.val (.ref a), .val (.int x), .val .null] [(.int x), (.ref a)])) rfl rfl (hb hby d6_6)
  refine own_st st2 ?_
  have N2 := Fr.snoc X2 N1 g_a
  have K2 : Keep h0 h2 [a] := (Keep.refl h0 [a]).wr W2 (Or.inl (List.mem_of_getElem? (i := 0) rfl))
  have Fw2 := Fld.same W2 F1
  show own_Go p e below _ T2 (mkF m 9 #[.val (.ref a), .val (.int x), .val .null] [])
  refine own_st (fun t_ k_ => XS.aloadN X2.here hx rfl (hb hby d6_9) rfl rfl k_) ?_
  show own_Go p e below _ T2 (mkF m 10 #[.val (.ref a), .val (.int x), .val .null] [(.ref a)])
  refine own_st (fun t_ k_ => XS.aloadN X2.here hx rfl (hb hby d6_10) rfl rfl k_) ?_
  show own_Go p e below _ T2 (mkF m 11 #[.val (.ref a), .val (.int x), .val .null] [.null, (.ref a)])
  have f4 := (Fld.other W2 F2 (Or.inr (slot_ne (Or.inr (hw _ (List.mem_of_getElem? (i := 59) rfl))) (Or.inr (hw _ (List.mem_of_getElem? (i := 57) rfl))) (by decide) (t := (.object "java/lang/Runnable")) (t' := .int) (by decide) (by decide))))
  have f5 := (Exa.wr W2 Ea)
  obtain ⟨T3, h3, X3, e3, W3, st3⟩ := putF X2 hx hZ hown (host := "") (Or.inl (hw _ (List.mem_of_getElem? (i := 58) rfl))) Via.refl e2 f4 f5 (Or.inr ⟨(hw _ (List.mem_of_getElem? (i := 59) rfl)), rfl, hnm⟩) (hw _ (List.mem_of_getElem? (i := 45) rfl)) (ty := (.object "java/lang/Runnable")) (by decide) rfl rfl (g := (mkF m 11 #[.val (.ref a), .val (.int x), .val .null] [.null, (.ref a)])) rfl rfl (hb hby d6_11)
  refine own_st st3 ?_
  have N3 := Fr.snoc X3 N2 g_a
  have K3 : Keep h0 h3 [a] := K2.wr W3 (Or.inl (List.mem_of_getElem? (i := 0) rfl))
  have Fw3 := Fld.same W3 f4
  show own_Go p e below _ T3 (mkF m 14 #[.val (.ref a), .val (.int x), .val .null] [])
  have f6 := (Exa.wr W3 f5)
  refine own_ret0 X3 hx hlk Bd.returns (hb hby d6_14) ?_ (by decide) (by decide)
  show QHD Z a h0 n0 _ T3.heap _
  rw [e3]
  exact ⟨rfl, N3, K3, f6⟩
theorem d7_0 : decode jdk_21_method_6_code 0 = .ok (.iinc 0 1, 3) := by decide +kernel
theorem d7_3 : decode jdk_21_method_6_code 3 = .ok (.iload_n 0, 1) := by decide +kernel
theorem d7_4 : decode jdk_21_method_6_code 4 = .ok (.iload_n 1, 1) := by decide +kernel
theorem d7_5 : decode jdk_21_method_6_code 5 = .ok (.if_icmp .lt 5, 3) := by decide +kernel
theorem d7_10 : decode jdk_21_method_6_code 10 = .ok (.iload_n 0, 1) := by decide +kernel
theorem d7_11 : decode jdk_21_method_6_code 11 = .ok (.ireturn, 1) := by decide +kernel
theorem ef_rmIN0 (m : MethodId) (x0 : Int32) (x1 : Int32) : entryFrame m #[(.int x0), (.int x1)] 2 = mkF m 0 #[.val (.int x0), .val (.int x1)] [] := by first | (simp [entryFrame, mkF, argsToLocals, Value.category]; done) | rfl
set_option maxRecDepth 65536 in
set_option maxHeartbeats 40000000 in
theorem rmIN0 (l : Launch) (Z : State) (a0 : Array Value) (hw : ∀ d ∈ tables_1, d.before a0 Z = true) (ws : List Jvm.Cond)  (h0 : Heap) (n0 : Nat) (Z0 : n0 ≤ h0.size) :
    MetFree l (⟨"java/util/ArrayDeque", "inc", "(II)I"⟩ : MethodName) (head1 (Jvm.Cond.code (⟨"java/util/ArrayDeque", "inc", "(II)I"⟩ : MethodName) jdk_21_method_6_code 2 (some .int) :: ws) ({ frames := 0, cells := 0, slots := 0, locals := 0 } : Room)) (fun a_ U_ => a_ = #[(.int (0 : Int32)), (.int (2 : Int32))] ∧ Z.Warmed39 U_.vm ∧ U_.heap = h0) (fun _ _ _ _ _ => True) (fun _ U_ o_ U'_ => ∃ v_ L_, o_ = .returned v_ ∧ QR (.int (1 : Int32)) h0 n0 v_ U'_.heap L_ ∧ FrameEnd U_ o_ U'_ L_ ({ frames := 0, cells := 0, slots := 0, locals := 0 } : Room).cells ({ frames := 0, cells := 0, slots := 0, locals := 0 } : Room).slots) := by
  refine MetFree.of_bodySF (plainFor_of_name pn_2) hisR ?_
  intro p e s m args below meth c s₁ Bd hml0 hP hK
  obtain ⟨rfl, hZ, hh⟩ := hP
  have hx := Bd.exec
  have hby := Bd.bytes
  have hml : c.maxLocals = 2 := hml0
  have hown : s.vm.findClass "java/util/ArrayDeque" = some m.cls := findClass_of_methodNamed Bd.named
  have hnm := (name_of_methodNamed Bd.named Bd.method).1
  have hlk := BodyLoose.notSynchronized Bd
  have X0 : Stand p l e ({ frames := 0, cells := 0, slots := 0, locals := 0 } : Room) s m #[(.int (0 : Int32)), (.int (2 : Int32))] below meth c s₁ [] 0 0 := Stand.of_body Bd
  have e0 : s₁.heap = h0 := by rw [← hh, Bd.state]; rfl
  have N0 := Fr.nil n0
  refine own_entry (P := own_End s (QR (.int (1 : Int32)) h0 n0) ({ frames := 0, cells := 0, slots := 0, locals := 0 } : Room).cells ({ frames := 0, cells := 0, slots := 0, locals := 0 } : Room).slots) (ef_rmIN0 m (0 : Int32) (2 : Int32)) ?_
  show own_Go p e below _ s₁ (mkF m 0 #[.val (.int (0 : Int32)), .val (.int (2 : Int32))] [])
  refine own_st (fun t_ k_ => XS.iinc X0.here hx rfl (hb hby d7_0) rfl (l' := #[.val (.int (1 : Int32)), .val (.int (2 : Int32))]) rfl k_) ?_
  show own_Go p e below _ s₁ (mkF m 3 #[.val (.int (1 : Int32)), .val (.int (2 : Int32))] [])
  refine own_st (fun t_ k_ => XS.iloadN X0.here hx rfl (hb hby d7_3) rfl k_) ?_
  show own_Go p e below _ s₁ (mkF m 4 #[.val (.int (1 : Int32)), .val (.int (2 : Int32))] [(.int (1 : Int32))])
  refine own_st (fun t_ k_ => XS.iloadN X0.here hx rfl (hb hby d7_4) rfl k_) ?_
  show own_Go p e below _ s₁ (mkF m 5 #[.val (.int (1 : Int32)), .val (.int (2 : Int32))] [(.int (2 : Int32)), (.int (1 : Int32))])
  refine own_st (fun t_ k_ => XS.icmpYes X0.here hx rfl (pc0 := 5) (pc' := 10) rfl (hb hby d7_5) rfl (by decide) (by decide) (by decide) k_) ?_
  show own_Go p e below _ s₁ (mkF m 10 #[.val (.int (1 : Int32)), .val (.int (2 : Int32))] [])
  refine own_st (fun t_ k_ => XS.iloadN X0.here hx rfl (hb hby d7_10) rfl k_) ?_
  show own_Go p e below _ s₁ (mkF m 11 #[.val (.int (1 : Int32)), .val (.int (2 : Int32))] [(.int (1 : Int32))])
  refine own_retI X0 hx hlk Bd.returns (hb hby d7_11) ?_ (by decide) (by decide)
  show QR (.int (1 : Int32)) h0 n0 _ s₁.heap _
  rw [e0]
  exact ⟨rfl, N0, rfl⟩
theorem d7_8 : decode jdk_21_method_6_code 8 = .ok (.iconst 0, 1) := by decide +kernel
theorem d7_9 : decode jdk_21_method_6_code 9 = .ok (.istore_n 0, 1) := by decide +kernel
theorem ef_rmIN1 (m : MethodId) (x0 : Int32) (x1 : Int32) : entryFrame m #[(.int x0), (.int x1)] 2 = mkF m 0 #[.val (.int x0), .val (.int x1)] [] := by first | (simp [entryFrame, mkF, argsToLocals, Value.category]; done) | rfl
set_option maxRecDepth 65536 in
set_option maxHeartbeats 40000000 in
theorem rmIN1 (l : Launch) (Z : State) (a0 : Array Value) (hw : ∀ d ∈ tables_1, d.before a0 Z = true) (ws : List Jvm.Cond)  (h0 : Heap) (n0 : Nat) (Z0 : n0 ≤ h0.size) :
    MetFree l (⟨"java/util/ArrayDeque", "inc", "(II)I"⟩ : MethodName) (head1 (Jvm.Cond.code (⟨"java/util/ArrayDeque", "inc", "(II)I"⟩ : MethodName) jdk_21_method_6_code 2 (some .int) :: ws) ({ frames := 0, cells := 0, slots := 0, locals := 0 } : Room)) (fun a_ U_ => a_ = #[(.int (1 : Int32)), (.int (2 : Int32))] ∧ Z.Warmed39 U_.vm ∧ U_.heap = h0) (fun _ _ _ _ _ => True) (fun _ U_ o_ U'_ => ∃ v_ L_, o_ = .returned v_ ∧ QR (.int (0 : Int32)) h0 n0 v_ U'_.heap L_ ∧ FrameEnd U_ o_ U'_ L_ ({ frames := 0, cells := 0, slots := 0, locals := 0 } : Room).cells ({ frames := 0, cells := 0, slots := 0, locals := 0 } : Room).slots) := by
  refine MetFree.of_bodySF (plainFor_of_name pn_2) hisR ?_
  intro p e s m args below meth c s₁ Bd hml0 hP hK
  obtain ⟨rfl, hZ, hh⟩ := hP
  have hx := Bd.exec
  have hby := Bd.bytes
  have hml : c.maxLocals = 2 := hml0
  have hown : s.vm.findClass "java/util/ArrayDeque" = some m.cls := findClass_of_methodNamed Bd.named
  have hnm := (name_of_methodNamed Bd.named Bd.method).1
  have hlk := BodyLoose.notSynchronized Bd
  have X0 : Stand p l e ({ frames := 0, cells := 0, slots := 0, locals := 0 } : Room) s m #[(.int (1 : Int32)), (.int (2 : Int32))] below meth c s₁ [] 0 0 := Stand.of_body Bd
  have e0 : s₁.heap = h0 := by rw [← hh, Bd.state]; rfl
  have N0 := Fr.nil n0
  refine own_entry (P := own_End s (QR (.int (0 : Int32)) h0 n0) ({ frames := 0, cells := 0, slots := 0, locals := 0 } : Room).cells ({ frames := 0, cells := 0, slots := 0, locals := 0 } : Room).slots) (ef_rmIN1 m (1 : Int32) (2 : Int32)) ?_
  show own_Go p e below _ s₁ (mkF m 0 #[.val (.int (1 : Int32)), .val (.int (2 : Int32))] [])
  refine own_st (fun t_ k_ => XS.iinc X0.here hx rfl (hb hby d7_0) rfl (l' := #[.val (.int (2 : Int32)), .val (.int (2 : Int32))]) rfl k_) ?_
  show own_Go p e below _ s₁ (mkF m 3 #[.val (.int (2 : Int32)), .val (.int (2 : Int32))] [])
  refine own_st (fun t_ k_ => XS.iloadN X0.here hx rfl (hb hby d7_3) rfl k_) ?_
  show own_Go p e below _ s₁ (mkF m 4 #[.val (.int (2 : Int32)), .val (.int (2 : Int32))] [(.int (2 : Int32))])
  refine own_st (fun t_ k_ => XS.iloadN X0.here hx rfl (hb hby d7_4) rfl k_) ?_
  show own_Go p e below _ s₁ (mkF m 5 #[.val (.int (2 : Int32)), .val (.int (2 : Int32))] [(.int (2 : Int32)), (.int (2 : Int32))])
  refine own_st (fun t_ k_ => XS.icmpNo X0.here hx rfl (hb hby d7_5) rfl (by decide) k_) ?_
  show own_Go p e below _ s₁ (mkF m 8 #[.val (.int (2 : Int32)), .val (.int (2 : Int32))] [])
  refine own_st (fun t_ k_ => XS.iconst X0.here hx rfl (hb hby d7_8) k_) ?_
  show own_Go p e below _ s₁ (mkF m 9 #[.val (.int (2 : Int32)), .val (.int (2 : Int32))] [(.int (0 : Int32))])
  refine own_st (fun t_ k_ => XS.istoreN X0.here hx rfl (hb hby d7_9) rfl (l' := #[.val (.int (0 : Int32)), .val (.int (2 : Int32))]) rfl k_) ?_
  show own_Go p e below _ s₁ (mkF m 10 #[.val (.int (0 : Int32)), .val (.int (2 : Int32))] [])
  refine own_st (fun t_ k_ => XS.iloadN X0.here hx rfl (hb hby d7_10) rfl k_) ?_
  show own_Go p e below _ s₁ (mkF m 11 #[.val (.int (0 : Int32)), .val (.int (2 : Int32))] [(.int (0 : Int32))])
  refine own_retI X0 hx hlk Bd.returns (hb hby d7_11) ?_ (by decide) (by decide)
  show QR (.int (0 : Int32)) h0 n0 _ s₁.heap _
  rw [e0]
  exact ⟨rfl, N0, rfl⟩
def QK (ws : List Addr) (h0 : Heap) (n0 : Nat) (v : Option Value) (h : Heap) (L : List Loc) : Prop := v = none ∧ Fr n0 L ∧ Keep h0 h ws
theorem d8_0 : decode jdk_21_method_1_code 0 = .ok (.aload_n 0, 1) := by decide +kernel
theorem d8_1 : decode jdk_21_method_1_code 1 = .ok (.getfield 3, 3) := by decide +kernel
theorem d8_4 : decode jdk_21_method_1_code 4 = .ok (.arraylength, 1) := by decide +kernel
theorem d8_5 : decode jdk_21_method_1_code 5 = .ok (.istore_n 2, 1) := by decide +kernel
theorem d8_6 : decode jdk_21_method_1_code 6 = .ok (.iload_n 2, 1) := by decide +kernel
theorem d8_7 : decode jdk_21_method_1_code 7 = .ok (.bipush 64, 2) := by decide +kernel
theorem d8_9 : decode jdk_21_method_1_code 9 = .ok (.if_icmp .ge 9, 3) := by decide +kernel
theorem d8_12 : decode jdk_21_method_1_code 12 = .ok (.iload_n 2, 1) := by decide +kernel
theorem d8_13 : decode jdk_21_method_1_code 13 = .ok (.iconst 2, 1) := by decide +kernel
theorem d8_14 : decode jdk_21_method_1_code 14 = .ok (.iadd, 1) := by decide +kernel
theorem d8_15 : decode jdk_21_method_1_code 15 = .ok (.goto 6, 3) := by decide +kernel
theorem d8_21 : decode jdk_21_method_1_code 21 = .ok (.istore 4, 2) := by decide +kernel
theorem d8_23 : decode jdk_21_method_1_code 23 = .ok (.iload 4, 2) := by decide +kernel
theorem d8_25 : decode jdk_21_method_1_code 25 = .ok (.iload_n 1, 1) := by decide +kernel
theorem d8_26 : decode jdk_21_method_1_code 26 = .ok (.if_icmp .lt 15, 3) := by decide +kernel
theorem d8_29 : decode jdk_21_method_1_code 29 = .ok (.iload_n 2, 1) := by decide +kernel
theorem d8_30 : decode jdk_21_method_1_code 30 = .ok (.iload 4, 2) := by decide +kernel
theorem d8_32 : decode jdk_21_method_1_code 32 = .ok (.iadd, 1) := by decide +kernel
theorem d8_33 : decode jdk_21_method_1_code 33 = .ok (.dup, 1) := by decide +kernel
theorem d8_34 : decode jdk_21_method_1_code 34 = .ok (.istore_n 3, 1) := by decide +kernel
theorem d8_35 : decode jdk_21_method_1_code 35 = .ok (.ldc 9, 2) := by decide +kernel
theorem d8_37 : decode jdk_21_method_1_code 37 = .ok (.isub, 1) := by decide +kernel
theorem d8_38 : decode jdk_21_method_1_code 38 = .ok (.ifCond .le 11, 3) := by decide +kernel
theorem d8_49 : decode jdk_21_method_1_code 49 = .ok (.aload_n 0, 1) := by decide +kernel
theorem d8_50 : decode jdk_21_method_1_code 50 = .ok (.aload_n 0, 1) := by decide +kernel
theorem d8_51 : decode jdk_21_method_1_code 51 = .ok (.getfield 3, 3) := by decide +kernel
theorem d8_54 : decode jdk_21_method_1_code 54 = .ok (.iload_n 3, 1) := by decide +kernel
theorem d8_55 : decode jdk_21_method_1_code 55 = .ok (.invokestatic 14, 3) := by decide +kernel
theorem pd_2 : parseMethodDescriptor "([Ljava/lang/Object;I)[Ljava/lang/Object;" = some ⟨[(.array (.object "java/lang/Object")), .int], some (.array (.object "java/lang/Object"))⟩ := by decide +kernel
theorem d8_58 : decode jdk_21_method_1_code 58 = .ok (.dup_x1, 1) := by decide +kernel
theorem d8_59 : decode jdk_21_method_1_code 59 = .ok (.putfield 3, 3) := by decide +kernel
theorem d8_62 : decode jdk_21_method_1_code 62 = .ok (.astore 5, 2) := by decide +kernel
theorem d8_64 : decode jdk_21_method_1_code 64 = .ok (.aload_n 0, 1) := by decide +kernel
theorem d8_65 : decode jdk_21_method_1_code 65 = .ok (.getfield 20, 3) := by decide +kernel
theorem d8_68 : decode jdk_21_method_1_code 68 = .ok (.aload_n 0, 1) := by decide +kernel
theorem d8_69 : decode jdk_21_method_1_code 69 = .ok (.getfield 24, 3) := by decide +kernel
theorem d8_72 : decode jdk_21_method_1_code 72 = .ok (.if_icmp .lt 24, 3) := by decide +kernel
theorem d8_75 : decode jdk_21_method_1_code 75 = .ok (.aload_n 0, 1) := by decide +kernel
theorem d8_76 : decode jdk_21_method_1_code 76 = .ok (.getfield 20, 3) := by decide +kernel
theorem d8_79 : decode jdk_21_method_1_code 79 = .ok (.aload_n 0, 1) := by decide +kernel
theorem d8_80 : decode jdk_21_method_1_code 80 = .ok (.getfield 24, 3) := by decide +kernel
theorem d8_83 : decode jdk_21_method_1_code 83 = .ok (.if_icmp .ne 81, 3) := by decide +kernel
theorem d8_86 : decode jdk_21_method_1_code 86 = .ok (.aload 5, 2) := by decide +kernel
theorem d8_88 : decode jdk_21_method_1_code 88 = .ok (.aload_n 0, 1) := by decide +kernel
theorem d8_89 : decode jdk_21_method_1_code 89 = .ok (.getfield 24, 3) := by decide +kernel
theorem d8_92 : decode jdk_21_method_1_code 92 = .ok (.aaload, 1) := by decide +kernel
theorem d8_93 : decode jdk_21_method_1_code 93 = .ok (.ifnull 71, 3) := by decide +kernel
theorem d8_96 : decode jdk_21_method_1_code 96 = .ok (.iload_n 3, 1) := by decide +kernel
theorem d8_97 : decode jdk_21_method_1_code 97 = .ok (.iload_n 2, 1) := by decide +kernel
theorem d8_98 : decode jdk_21_method_1_code 98 = .ok (.isub, 1) := by decide +kernel
theorem d8_99 : decode jdk_21_method_1_code 99 = .ok (.istore 6, 2) := by decide +kernel
theorem d8_101 : decode jdk_21_method_1_code 101 = .ok (.aload 5, 2) := by decide +kernel
theorem d8_103 : decode jdk_21_method_1_code 103 = .ok (.aload_n 0, 1) := by decide +kernel
theorem d8_104 : decode jdk_21_method_1_code 104 = .ok (.getfield 24, 3) := by decide +kernel
theorem d8_107 : decode jdk_21_method_1_code 107 = .ok (.aload 5, 2) := by decide +kernel
theorem d8_109 : decode jdk_21_method_1_code 109 = .ok (.aload_n 0, 1) := by decide +kernel
theorem d8_110 : decode jdk_21_method_1_code 110 = .ok (.getfield 24, 3) := by decide +kernel
theorem d8_113 : decode jdk_21_method_1_code 113 = .ok (.iload 6, 2) := by decide +kernel
theorem d8_115 : decode jdk_21_method_1_code 115 = .ok (.iadd, 1) := by decide +kernel
theorem d8_116 : decode jdk_21_method_1_code 116 = .ok (.iload_n 2, 1) := by decide +kernel
theorem d8_117 : decode jdk_21_method_1_code 117 = .ok (.aload_n 0, 1) := by decide +kernel
theorem d8_118 : decode jdk_21_method_1_code 118 = .ok (.getfield 24, 3) := by decide +kernel
theorem d8_121 : decode jdk_21_method_1_code 121 = .ok (.isub, 1) := by decide +kernel
theorem d8_122 : decode jdk_21_method_1_code 122 = .ok (.invokestatic 27, 3) := by decide +kernel
theorem d8_125 : decode jdk_21_method_1_code 125 = .ok (.aload_n 0, 1) := by decide +kernel
theorem d8_126 : decode jdk_21_method_1_code 126 = .ok (.getfield 24, 3) := by decide +kernel
theorem d8_129 : decode jdk_21_method_1_code 129 = .ok (.istore 7, 2) := by decide +kernel
theorem d8_131 : decode jdk_21_method_1_code 131 = .ok (.aload_n 0, 1) := by decide +kernel
theorem d8_132 : decode jdk_21_method_1_code 132 = .ok (.dup, 1) := by decide +kernel
theorem d8_133 : decode jdk_21_method_1_code 133 = .ok (.getfield 24, 3) := by decide +kernel
theorem d8_136 : decode jdk_21_method_1_code 136 = .ok (.iload 6, 2) := by decide +kernel
theorem d8_138 : decode jdk_21_method_1_code 138 = .ok (.iadd, 1) := by decide +kernel
theorem d8_139 : decode jdk_21_method_1_code 139 = .ok (.dup_x1, 1) := by decide +kernel
theorem d8_140 : decode jdk_21_method_1_code 140 = .ok (.putfield 24, 3) := by decide +kernel
theorem d8_143 : decode jdk_21_method_1_code 143 = .ok (.istore 8, 2) := by decide +kernel
theorem d8_145 : decode jdk_21_method_1_code 145 = .ok (.iload 7, 2) := by decide +kernel
theorem d8_147 : decode jdk_21_method_1_code 147 = .ok (.iload 8, 2) := by decide +kernel
theorem d8_149 : decode jdk_21_method_1_code 149 = .ok (.if_icmp .ge 15, 3) := by decide +kernel
theorem d8_152 : decode jdk_21_method_1_code 152 = .ok (.aload 5, 2) := by decide +kernel
theorem d8_154 : decode jdk_21_method_1_code 154 = .ok (.iload 7, 2) := by decide +kernel
theorem d8_156 : decode jdk_21_method_1_code 156 = .ok (.aconst_null, 1) := by decide +kernel
theorem d8_157 : decode jdk_21_method_1_code 157 = .ok (.aastore, 1) := by decide +kernel
theorem d8_158 : decode jdk_21_method_1_code 158 = .ok (.iinc 7 1, 3) := by decide +kernel
theorem d8_161 : decode jdk_21_method_1_code 161 = .ok (.goto (-16), 3) := by decide +kernel
theorem d8_164 : decode jdk_21_method_1_code 164 = .ok (.return_, 1) := by decide +kernel
theorem ef_rmGR (m : MethodId) (x0 : Addr) (x1 : Int32) : entryFrame m #[(.ref x0), (.int x1)] 9 = mkF m 0 #[.val (.ref x0), .val (.int x1), .unset, .unset, .unset, .unset, .unset, .unset, .unset] [] := by first | (simp [entryFrame, mkF, argsToLocals, Value.category]; done) | rfl
set_option maxRecDepth 65536 in
set_option maxHeartbeats 40000000 in
theorem rmGR (l : Launch) (Z : State) (a0 : Array Value) (hw : ∀ d ∈ tables_1, d.before a0 Z = true) (ws : List Jvm.Cond) (d t u0 u1 : Addr) (k : ClassId) (h0 : Heap) (n0 : Nat) (Z0 : n0 ≤ h0.size) (hmir : MirrorMade Z "[Ljava/lang/Object;") (g_d : n0 ≤ d) (g_t : n0 ≤ t) (Ed : Exa Z h0 d "java/util/ArrayDeque") (F1 : Fld Z h0 d "java/util/ArrayDeque" "elements" "[Ljava/lang/Object;" (.ref t)) (F2 : Fld Z h0 d "java/util/ArrayDeque" "head" "I" (.int (0 : Int32))) (F3 : Fld Z h0 d "java/util/ArrayDeque" "tail" "I" (.int (0 : Int32))) (Ov : Ovr Z k "java/lang/Object") (Eo : Exa Z h0 t "[Ljava/lang/Object;") (At : Arv Z h0 t k (.object "java/lang/Object") (2 : Int32) [(.ref u0), (.ref u1)] .null) (E0 : Exa Z h0 u0 "com/example/lean_pubsub/leanpubsub/connection/HeldBack$Held") (E1 : Exa Z h0 u1 "com/example/lean_pubsub/leanpubsub/connection/HeldBack$Held") :
    MetFree l (⟨"java/util/ArrayDeque", "grow", "(I)V"⟩ : MethodName) (head1 (Jvm.Cond.code (⟨"java/util/ArrayDeque", "grow", "(I)V"⟩ : MethodName) jdk_21_method_1_code 9 none :: ws) ({ frames := 4, cells := 1, slots := 6, locals := 78 } : Room)) (fun a_ U_ => a_ = #[(.ref d), (.int (1 : Int32))] ∧ Z.Warmed39 U_.vm ∧ U_.heap = h0) (fun _ _ _ _ _ => True) (fun _ U_ o_ U'_ => ∃ v_ L_, o_ = .returned v_ ∧ QK [d] h0 n0 v_ U'_.heap L_ ∧ FrameEnd U_ o_ U'_ L_ ({ frames := 4, cells := 1, slots := 6, locals := 78 } : Room).cells ({ frames := 4, cells := 1, slots := 6, locals := 78 } : Room).slots) := by
  refine MetFree.of_bodySF (plainFor_of_name pn_2) hisR ?_
  intro p e s m args below meth c s₁ Bd hml0 hP hK
  obtain ⟨rfl, hZ, hh⟩ := hP
  have hx := Bd.exec
  have hby := Bd.bytes
  have hml : c.maxLocals = 9 := hml0
  have hown : s.vm.findClass "java/util/ArrayDeque" = some m.cls := findClass_of_methodNamed Bd.named
  have hnm := (name_of_methodNamed Bd.named Bd.method).1
  have hlk := BodyLoose.notSynchronized Bd
  have X0 : Stand p l e ({ frames := 4, cells := 1, slots := 6, locals := 78 } : Room) s m #[(.ref d), (.int (1 : Int32))] below meth c s₁ [] 0 0 := Stand.of_body Bd
  have e0 : s₁.heap = h0 := by rw [← hh, Bd.state]; rfl
  have N0 := Fr.nil n0
  refine own_entry (P := own_End s (QK [d] h0 n0) ({ frames := 4, cells := 1, slots := 6, locals := 78 } : Room).cells ({ frames := 4, cells := 1, slots := 6, locals := 78 } : Room).slots) (ef_rmGR m d (1 : Int32)) ?_
  show own_Go p e below _ s₁ (mkF m 0 #[.val (.ref d), .val (.int (1 : Int32)), .unset, .unset, .unset, .unset, .unset, .unset, .unset] [])
  refine own_st (fun t_ k_ => XS.aloadN X0.here hx rfl (hb hby d8_0) rfl rfl k_) ?_
  show own_Go p e below _ s₁ (mkF m 1 #[.val (.ref d), .val (.int (1 : Int32)), .unset, .unset, .unset, .unset, .unset, .unset, .unset] [(.ref d)])
  obtain ⟨T1, X1, e1, st1⟩ := getF X0 hx hZ hown (host := "") (Or.inl (hw _ (List.mem_of_getElem? (i := 27) rfl))) Via.refl e0 F1 (g := (mkF m 1 #[.val (.ref d), .val (.int (1 : Int32)), .unset, .unset, .unset, .unset, .unset, .unset, .unset] [(.ref d)])) rfl rfl (hb hby d8_1)
  refine own_st st1 ?_
  show own_Go p e below _ T1 (mkF m 4 #[.val (.ref d), .val (.int (1 : Int32)), .unset, .unset, .unset, .unset, .unset, .unset, .unset] [(.ref t)])
  obtain ⟨cl2, Ar2, -, S2, N2', -, -⟩ := id At
  refine own_st (fun t_ k_ => X1.arraylength hx (by rw [e1]; exact Ar2.1) (State.isArrayOf_alike hZ.alike Ar2.2.1) (g := (mkF m 4 #[.val (.ref d), .val (.int (1 : Int32)), .unset, .unset, .unset, .unset, .unset, .unset, .unset] [(.ref t)])) rfl rfl (hb hby d8_4) t_ k_) ?_
  rw [len_of S2 N2']
  show own_Go p e below _ T1 (mkF m 5 #[.val (.ref d), .val (.int (1 : Int32)), .unset, .unset, .unset, .unset, .unset, .unset, .unset] [(.int (2 : Int32))])
  refine own_st (fun t_ k_ => XS.istoreN X1.here hx rfl (hb hby d8_5) rfl (l' := #[.val (.ref d), .val (.int (1 : Int32)), .val (.int (2 : Int32)), .unset, .unset, .unset, .unset, .unset, .unset]) rfl k_) ?_
  show own_Go p e below _ T1 (mkF m 6 #[.val (.ref d), .val (.int (1 : Int32)), .val (.int (2 : Int32)), .unset, .unset, .unset, .unset, .unset, .unset] [])
  refine own_st (fun t_ k_ => XS.iloadN X1.here hx rfl (hb hby d8_6) rfl k_) ?_
  show own_Go p e below _ T1 (mkF m 7 #[.val (.ref d), .val (.int (1 : Int32)), .val (.int (2 : Int32)), .unset, .unset, .unset, .unset, .unset, .unset] [(.int (2 : Int32))])
  refine own_st (fun t_ k_ => XS.bipush X1.here hx rfl (hb hby d8_7) k_) ?_
  show own_Go p e below _ T1 (mkF m 9 #[.val (.ref d), .val (.int (1 : Int32)), .val (.int (2 : Int32)), .unset, .unset, .unset, .unset, .unset, .unset] [(.int (64 : Int32)), (.int (2 : Int32))])
  refine own_st (fun t_ k_ => XS.icmpNo X1.here hx rfl (hb hby d8_9) rfl (by decide) k_) ?_
  show own_Go p e below _ T1 (mkF m 12 #[.val (.ref d), .val (.int (1 : Int32)), .val (.int (2 : Int32)), .unset, .unset, .unset, .unset, .unset, .unset] [])
  refine own_st (fun t_ k_ => XS.iloadN X1.here hx rfl (hb hby d8_12) rfl k_) ?_
  show own_Go p e below _ T1 (mkF m 13 #[.val (.ref d), .val (.int (1 : Int32)), .val (.int (2 : Int32)), .unset, .unset, .unset, .unset, .unset, .unset] [(.int (2 : Int32))])
  refine own_st (fun t_ k_ => XS.iconst X1.here hx rfl (hb hby d8_13) k_) ?_
  show own_Go p e below _ T1 (mkF m 14 #[.val (.ref d), .val (.int (1 : Int32)), .val (.int (2 : Int32)), .unset, .unset, .unset, .unset, .unset, .unset] [(.int (2 : Int32)), (.int (2 : Int32))])
  refine own_st (fun t_ k_ => XS.iadd X1.here hx rfl (hb hby d8_14) rfl k_) ?_
  show own_Go p e below _ T1 (mkF m 15 #[.val (.ref d), .val (.int (1 : Int32)), .val (.int (2 : Int32)), .unset, .unset, .unset, .unset, .unset, .unset] [(.int (4 : Int32))])
  refine own_st (fun t_ k_ => XS.goto X1.here hx rfl (pc0 := 15) (pc' := 21) rfl (hb hby d8_15) (by decide) (by decide) k_) ?_
  show own_Go p e below _ T1 (mkF m 21 #[.val (.ref d), .val (.int (1 : Int32)), .val (.int (2 : Int32)), .unset, .unset, .unset, .unset, .unset, .unset] [(.int (4 : Int32))])
  refine own_st (fun t_ k_ => XS.istore X1.here hx rfl (hb hby d8_21) rfl (l' := #[.val (.ref d), .val (.int (1 : Int32)), .val (.int (2 : Int32)), .unset, .val (.int (4 : Int32)), .unset, .unset, .unset, .unset]) rfl k_) ?_
  show own_Go p e below _ T1 (mkF m 23 #[.val (.ref d), .val (.int (1 : Int32)), .val (.int (2 : Int32)), .unset, .val (.int (4 : Int32)), .unset, .unset, .unset, .unset] [])
  refine own_st (fun t_ k_ => XS.iload X1.here hx rfl (hb hby d8_23) rfl k_) ?_
  show own_Go p e below _ T1 (mkF m 25 #[.val (.ref d), .val (.int (1 : Int32)), .val (.int (2 : Int32)), .unset, .val (.int (4 : Int32)), .unset, .unset, .unset, .unset] [(.int (4 : Int32))])
  refine own_st (fun t_ k_ => XS.iloadN X1.here hx rfl (hb hby d8_25) rfl k_) ?_
  show own_Go p e below _ T1 (mkF m 26 #[.val (.ref d), .val (.int (1 : Int32)), .val (.int (2 : Int32)), .unset, .val (.int (4 : Int32)), .unset, .unset, .unset, .unset] [(.int (1 : Int32)), (.int (4 : Int32))])
  refine own_st (fun t_ k_ => XS.icmpNo X1.here hx rfl (hb hby d8_26) rfl (by decide) k_) ?_
  show own_Go p e below _ T1 (mkF m 29 #[.val (.ref d), .val (.int (1 : Int32)), .val (.int (2 : Int32)), .unset, .val (.int (4 : Int32)), .unset, .unset, .unset, .unset] [])
  refine own_st (fun t_ k_ => XS.iloadN X1.here hx rfl (hb hby d8_29) rfl k_) ?_
  show own_Go p e below _ T1 (mkF m 30 #[.val (.ref d), .val (.int (1 : Int32)), .val (.int (2 : Int32)), .unset, .val (.int (4 : Int32)), .unset, .unset, .unset, .unset] [(.int (2 : Int32))])
  refine own_st (fun t_ k_ => XS.iload X1.here hx rfl (hb hby d8_30) rfl k_) ?_
  show own_Go p e below _ T1 (mkF m 32 #[.val (.ref d), .val (.int (1 : Int32)), .val (.int (2 : Int32)), .unset, .val (.int (4 : Int32)), .unset, .unset, .unset, .unset] [(.int (4 : Int32)), (.int (2 : Int32))])
  refine own_st (fun t_ k_ => XS.iadd X1.here hx rfl (hb hby d8_32) rfl k_) ?_
  show own_Go p e below _ T1 (mkF m 33 #[.val (.ref d), .val (.int (1 : Int32)), .val (.int (2 : Int32)), .unset, .val (.int (4 : Int32)), .unset, .unset, .unset, .unset] [(.int (6 : Int32))])
  refine own_st (fun t_ k_ => XS.dup X1.here hx rfl (hb hby d8_33) rfl rfl k_) ?_
  show own_Go p e below _ T1 (mkF m 34 #[.val (.ref d), .val (.int (1 : Int32)), .val (.int (2 : Int32)), .unset, .val (.int (4 : Int32)), .unset, .unset, .unset, .unset] [(.int (6 : Int32)), (.int (6 : Int32))])
  refine own_st (fun t_ k_ => XS.istoreN X1.here hx rfl (hb hby d8_34) rfl (l' := #[.val (.ref d), .val (.int (1 : Int32)), .val (.int (2 : Int32)), .val (.int (6 : Int32)), .val (.int (4 : Int32)), .unset, .unset, .unset, .unset]) rfl k_) ?_
  show own_Go p e below _ T1 (mkF m 35 #[.val (.ref d), .val (.int (1 : Int32)), .val (.int (2 : Int32)), .val (.int (6 : Int32)), .val (.int (4 : Int32)), .unset, .unset, .unset, .unset] [(.int (6 : Int32))])
  refine own_st (fun t_ k_ => X1.ldcI hx hown (mvT hZ (hw _ (List.mem_of_getElem? (i := 88) rfl))) rfl (hb hby d8_35) k_) ?_
  show own_Go p e below _ T1 (mkF m 37 #[.val (.ref d), .val (.int (1 : Int32)), .val (.int (2 : Int32)), .val (.int (6 : Int32)), .val (.int (4 : Int32)), .unset, .unset, .unset, .unset] [(.int (2147483639 : Int32)), (.int (6 : Int32))])
  refine own_st (fun t_ k_ => XS.isub X1.here hx rfl (hb hby d8_37) rfl k_) ?_
  show own_Go p e below _ T1 (mkF m 38 #[.val (.ref d), .val (.int (1 : Int32)), .val (.int (2 : Int32)), .val (.int (6 : Int32)), .val (.int (4 : Int32)), .unset, .unset, .unset, .unset] [(.int (-2147483633 : Int32))])
  refine own_st (fun t_ k_ => XS.ifYes X1.here hx rfl (pc0 := 38) (pc' := 49) rfl (hb hby d8_38) rfl (by decide) (by decide) (by decide) k_) ?_
  show own_Go p e below _ T1 (mkF m 49 #[.val (.ref d), .val (.int (1 : Int32)), .val (.int (2 : Int32)), .val (.int (6 : Int32)), .val (.int (4 : Int32)), .unset, .unset, .unset, .unset] [])
  refine own_st (fun t_ k_ => XS.aloadN X1.here hx rfl (hb hby d8_49) rfl rfl k_) ?_
  show own_Go p e below _ T1 (mkF m 50 #[.val (.ref d), .val (.int (1 : Int32)), .val (.int (2 : Int32)), .val (.int (6 : Int32)), .val (.int (4 : Int32)), .unset, .unset, .unset, .unset] [(.ref d)])
  refine own_st (fun t_ k_ => XS.aloadN X1.here hx rfl (hb hby d8_50) rfl rfl k_) ?_
  show own_Go p e below _ T1 (mkF m 51 #[.val (.ref d), .val (.int (1 : Int32)), .val (.int (2 : Int32)), .val (.int (6 : Int32)), .val (.int (4 : Int32)), .unset, .unset, .unset, .unset] [(.ref d), (.ref d)])
  obtain ⟨T3, X3, e3, st3⟩ := getF X1 hx hZ hown (host := "") (Or.inl (hw _ (List.mem_of_getElem? (i := 27) rfl))) Via.refl e1 F1 (g := (mkF m 51 #[.val (.ref d), .val (.int (1 : Int32)), .val (.int (2 : Int32)), .val (.int (6 : Int32)), .val (.int (4 : Int32)), .unset, .unset, .unset, .unset] [(.ref d), (.ref d)])) rfl rfl (hb hby d8_51)
  refine own_st st3 ?_
  show own_Go p e below _ T3 (mkF m 54 #[.val (.ref d), .val (.int (1 : Int32)), .val (.int (2 : Int32)), .val (.int (6 : Int32)), .val (.int (4 : Int32)), .unset, .unset, .unset, .unset] [(.ref t), (.ref d)])
  refine own_st (fun t_ k_ => XS.iloadN X3.here hx rfl (hb hby d8_54) rfl k_) ?_
  show own_Go p e below _ T3 (mkF m 55 #[.val (.ref d), .val (.int (1 : Int32)), .val (.int (2 : Int32)), .val (.int (6 : Int32)), .val (.int (4 : Int32)), .unset, .unset, .unset, .unset] [(.int (6 : Int32)), (.ref t), (.ref d)])
  obtain ⟨cl4, Ar4, q4, -, -, -, -⟩ := id At
  refine own_callS X3 hx (y := (⟨"java/util/Arrays", "copyOf", "([Ljava/lang/Object;I)[Ljava/lang/Object;"⟩ : MethodName)) hown (mvT hZ (hw _ (List.mem_of_getElem? (i := 89) rfl))) (mvT hZ (hw _ (List.mem_of_getElem? (i := 90) rfl))) (mvT hZ (hw _ (List.mem_of_getElem? (i := 91) rfl))) (mvT hZ (hw _ (List.mem_of_getElem? (i := 92) rfl))) (by decide) (own_copyB (W := 1) (v0 := (.ref u0)) (v1 := (.ref u1)) hZ hw hmir At Ov Eo ⟨Sto.ofV Ar4 q4 Ov (Ins.of_exa E0 (hw _ (List.mem_of_getElem? (i := 76) rfl))), Sto.ofV Ar4 q4 Ov (Ins.of_exa E1 (hw _ (List.mem_of_getElem? (i := 76) rfl))), trivial⟩ (by decide) (by decide)) (g := (mkF m 55 #[.val (.ref d), .val (.int (1 : Int32)), .val (.int (2 : Int32)), .val (.int (6 : Int32)), .val (.int (4 : Int32)), .unset, .unset, .unset, .unset] [(.int (6 : Int32)), (.ref t), (.ref d)])) rfl (by rw [hml]; rfl) (argsL := [(.ref t), (.int (6 : Int32))]) (rest := [(.ref d)]) (lenOf pd_2 rfl) rfl (by show 2 * 0 + _ ≤ _; exact Nat.le_of_eq rfl) (hb hby d8_55) rfl e3 (by decide) (by decide) ?_
  rintro v5 T5 L5 X5 ⟨rfl, rfl, E5, A5⟩
  have N5 := Fr.app N0 (Fr.nil n0)
  obtain ⟨nb5, g5⟩ : ∃ z, z = Array.size h0 := ⟨_, rfl⟩
  rw [← g5] at A5 ⊢
  have g_nb5 : n0 ≤ nb5 := Nat.le_trans (Nat.le_trans Z0 (Keep.refl h0 [d]).1) (Nat.le_of_eq g5.symm)
  have K5 : Keep h0 T5.heap [d] := (Keep.refl h0 [d]).ext E5
  have sz_nb5 : h0.size ≤ nb5 := Nat.le_trans (Keep.refl h0 [d]).1 (Nat.le_of_eq g5.symm)
  show own_Go p e below _ T5 (mkF m 58 #[.val (.ref d), .val (.int (1 : Int32)), .val (.int (2 : Int32)), .val (.int (6 : Int32)), .val (.int (4 : Int32)), .unset, .unset, .unset, .unset] [(.ref nb5), (.ref d)])
  refine own_st (fun t_ k_ => XS.dupX1 X5.here hx rfl (hb hby d8_58) rfl rfl rfl k_) ?_
  show own_Go p e below _ T5 (mkF m 59 #[.val (.ref d), .val (.int (1 : Int32)), .val (.int (2 : Int32)), .val (.int (6 : Int32)), .val (.int (4 : Int32)), .unset, .unset, .unset, .unset] [(.ref nb5), (.ref d), (.ref nb5)])
  have f7 := (Fld.ext E5 F1)
  have f8 := (Exa.ext E5 Ed)
  obtain ⟨T6, h6, X6, e6, W6, st6⟩ := putF X5 hx hZ hown (host := "") (Or.inl (hw _ (List.mem_of_getElem? (i := 27) rfl))) Via.refl rfl f7 f8 (Or.inl (hw _ (List.mem_of_getElem? (i := 28) rfl))) (hw _ (List.mem_of_getElem? (i := 12) rfl)) (ty := (.array (.object "java/lang/Object"))) (by decide) rfl rfl (g := (mkF m 59 #[.val (.ref d), .val (.int (1 : Int32)), .val (.int (2 : Int32)), .val (.int (6 : Int32)), .val (.int (4 : Int32)), .unset, .unset, .unset, .unset] [(.ref nb5), (.ref d), (.ref nb5)])) rfl rfl (hb hby d8_59)
  refine own_st st6 ?_
  have N6 := Fr.snoc X6 N5 g_d
  have K6 : Keep h0 h6 [d] := K5.wr W6 (Or.inl (List.mem_of_getElem? (i := 0) rfl))
  have Fw6 := Fld.same W6 f7
  show own_Go p e below _ T6 (mkF m 62 #[.val (.ref d), .val (.int (1 : Int32)), .val (.int (2 : Int32)), .val (.int (6 : Int32)), .val (.int (4 : Int32)), .unset, .unset, .unset, .unset] [(.ref nb5)])
  refine own_st (fun t_ k_ => XS.astore X6.here hx rfl (hb hby d8_62) rfl rfl (l' := #[.val (.ref d), .val (.int (1 : Int32)), .val (.int (2 : Int32)), .val (.int (6 : Int32)), .val (.int (4 : Int32)), .val (.ref nb5), .unset, .unset, .unset]) rfl k_) ?_
  show own_Go p e below _ T6 (mkF m 64 #[.val (.ref d), .val (.int (1 : Int32)), .val (.int (2 : Int32)), .val (.int (6 : Int32)), .val (.int (4 : Int32)), .val (.ref nb5), .unset, .unset, .unset] [])
  refine own_st (fun t_ k_ => XS.aloadN X6.here hx rfl (hb hby d8_64) rfl rfl k_) ?_
  show own_Go p e below _ T6 (mkF m 65 #[.val (.ref d), .val (.int (1 : Int32)), .val (.int (2 : Int32)), .val (.int (6 : Int32)), .val (.int (4 : Int32)), .val (.ref nb5), .unset, .unset, .unset] [(.ref d)])
  have f9 := (Fld.ext E5 F3)
  have f10 := (Fld.other W6 f9 (Or.inr (slot_ne (Or.inl (hw _ (List.mem_of_getElem? (i := 75) rfl))) (Or.inl (hw _ (List.mem_of_getElem? (i := 28) rfl))) (by decide) (t := .int) (t' := (.array (.object "java/lang/Object"))) (by decide) (by decide))))
  obtain ⟨T11, X11, e11, st11⟩ := getF X6 hx hZ hown (host := "") (Or.inl (hw _ (List.mem_of_getElem? (i := 74) rfl))) Via.refl e6 f10 (g := (mkF m 65 #[.val (.ref d), .val (.int (1 : Int32)), .val (.int (2 : Int32)), .val (.int (6 : Int32)), .val (.int (4 : Int32)), .val (.ref nb5), .unset, .unset, .unset] [(.ref d)])) rfl rfl (hb hby d8_65)
  refine own_st st11 ?_
  show own_Go p e below _ T11 (mkF m 68 #[.val (.ref d), .val (.int (1 : Int32)), .val (.int (2 : Int32)), .val (.int (6 : Int32)), .val (.int (4 : Int32)), .val (.ref nb5), .unset, .unset, .unset] [(.int (0 : Int32))])
  refine own_st (fun t_ k_ => XS.aloadN X11.here hx rfl (hb hby d8_68) rfl rfl k_) ?_
  show own_Go p e below _ T11 (mkF m 69 #[.val (.ref d), .val (.int (1 : Int32)), .val (.int (2 : Int32)), .val (.int (6 : Int32)), .val (.int (4 : Int32)), .val (.ref nb5), .unset, .unset, .unset] [(.ref d), (.int (0 : Int32))])
  have f12 := (Fld.ext E5 F2)
  have f13 := (Fld.other W6 f12 (Or.inr (slot_ne (Or.inl (hw _ (List.mem_of_getElem? (i := 78) rfl))) (Or.inl (hw _ (List.mem_of_getElem? (i := 28) rfl))) (by decide) (t := .int) (t' := (.array (.object "java/lang/Object"))) (by decide) (by decide))))
  obtain ⟨T14, X14, e14, st14⟩ := getF X11 hx hZ hown (host := "") (Or.inl (hw _ (List.mem_of_getElem? (i := 77) rfl))) Via.refl e11 f13 (g := (mkF m 69 #[.val (.ref d), .val (.int (1 : Int32)), .val (.int (2 : Int32)), .val (.int (6 : Int32)), .val (.int (4 : Int32)), .val (.ref nb5), .unset, .unset, .unset] [(.ref d), (.int (0 : Int32))])) rfl rfl (hb hby d8_69)
  refine own_st st14 ?_
  show own_Go p e below _ T14 (mkF m 72 #[.val (.ref d), .val (.int (1 : Int32)), .val (.int (2 : Int32)), .val (.int (6 : Int32)), .val (.int (4 : Int32)), .val (.ref nb5), .unset, .unset, .unset] [(.int (0 : Int32)), (.int (0 : Int32))])
  refine own_st (fun t_ k_ => XS.icmpNo X14.here hx rfl (hb hby d8_72) rfl (by decide) k_) ?_
  show own_Go p e below _ T14 (mkF m 75 #[.val (.ref d), .val (.int (1 : Int32)), .val (.int (2 : Int32)), .val (.int (6 : Int32)), .val (.int (4 : Int32)), .val (.ref nb5), .unset, .unset, .unset] [])
  refine own_st (fun t_ k_ => XS.aloadN X14.here hx rfl (hb hby d8_75) rfl rfl k_) ?_
  show own_Go p e below _ T14 (mkF m 76 #[.val (.ref d), .val (.int (1 : Int32)), .val (.int (2 : Int32)), .val (.int (6 : Int32)), .val (.int (4 : Int32)), .val (.ref nb5), .unset, .unset, .unset] [(.ref d)])
  obtain ⟨T15, X15, e15, st15⟩ := getF X14 hx hZ hown (host := "") (Or.inl (hw _ (List.mem_of_getElem? (i := 74) rfl))) Via.refl e14 f10 (g := (mkF m 76 #[.val (.ref d), .val (.int (1 : Int32)), .val (.int (2 : Int32)), .val (.int (6 : Int32)), .val (.int (4 : Int32)), .val (.ref nb5), .unset, .unset, .unset] [(.ref d)])) rfl rfl (hb hby d8_76)
  refine own_st st15 ?_
  show own_Go p e below _ T15 (mkF m 79 #[.val (.ref d), .val (.int (1 : Int32)), .val (.int (2 : Int32)), .val (.int (6 : Int32)), .val (.int (4 : Int32)), .val (.ref nb5), .unset, .unset, .unset] [(.int (0 : Int32))])
  refine own_st (fun t_ k_ => XS.aloadN X15.here hx rfl (hb hby d8_79) rfl rfl k_) ?_
  show own_Go p e below _ T15 (mkF m 80 #[.val (.ref d), .val (.int (1 : Int32)), .val (.int (2 : Int32)), .val (.int (6 : Int32)), .val (.int (4 : Int32)), .val (.ref nb5), .unset, .unset, .unset] [(.ref d), (.int (0 : Int32))])
  obtain ⟨T16, X16, e16, st16⟩ := getF X15 hx hZ hown (host := "") (Or.inl (hw _ (List.mem_of_getElem? (i := 77) rfl))) Via.refl e15 f13 (g := (mkF m 80 #[.val (.ref d), .val (.int (1 : Int32)), .val (.int (2 : Int32)), .val (.int (6 : Int32)), .val (.int (4 : Int32)), .val (.ref nb5), .unset, .unset, .unset] [(.ref d), (.int (0 : Int32))])) rfl rfl (hb hby d8_80)
  refine own_st st16 ?_
  show own_Go p e below _ T16 (mkF m 83 #[.val (.ref d), .val (.int (1 : Int32)), .val (.int (2 : Int32)), .val (.int (6 : Int32)), .val (.int (4 : Int32)), .val (.ref nb5), .unset, .unset, .unset] [(.int (0 : Int32)), (.int (0 : Int32))])
  refine own_st (fun t_ k_ => XS.icmpNo X16.here hx rfl (hb hby d8_83) rfl (by decide) k_) ?_
  show own_Go p e below _ T16 (mkF m 86 #[.val (.ref d), .val (.int (1 : Int32)), .val (.int (2 : Int32)), .val (.int (6 : Int32)), .val (.int (4 : Int32)), .val (.ref nb5), .unset, .unset, .unset] [])
  refine own_st (fun t_ k_ => XS.aload X16.here hx rfl (hb hby d8_86) rfl rfl k_) ?_
  show own_Go p e below _ T16 (mkF m 88 #[.val (.ref d), .val (.int (1 : Int32)), .val (.int (2 : Int32)), .val (.int (6 : Int32)), .val (.int (4 : Int32)), .val (.ref nb5), .unset, .unset, .unset] [(.ref nb5)])
  refine own_st (fun t_ k_ => XS.aloadN X16.here hx rfl (hb hby d8_88) rfl rfl k_) ?_
  show own_Go p e below _ T16 (mkF m 89 #[.val (.ref d), .val (.int (1 : Int32)), .val (.int (2 : Int32)), .val (.int (6 : Int32)), .val (.int (4 : Int32)), .val (.ref nb5), .unset, .unset, .unset] [(.ref d), (.ref nb5)])
  obtain ⟨T17, X17, e17, st17⟩ := getF X16 hx hZ hown (host := "") (Or.inl (hw _ (List.mem_of_getElem? (i := 77) rfl))) Via.refl e16 f13 (g := (mkF m 89 #[.val (.ref d), .val (.int (1 : Int32)), .val (.int (2 : Int32)), .val (.int (6 : Int32)), .val (.int (4 : Int32)), .val (.ref nb5), .unset, .unset, .unset] [(.ref d), (.ref nb5)])) rfl rfl (hb hby d8_89)
  refine own_st st17 ?_
  show own_Go p e below _ T17 (mkF m 92 #[.val (.ref d), .val (.int (1 : Int32)), .val (.int (2 : Int32)), .val (.int (6 : Int32)), .val (.int (4 : Int32)), .val (.ref nb5), .unset, .unset, .unset] [(.int (0 : Int32)), (.ref nb5)])
  have ne19 : d ≠ nb5 := (Nat.ne_of_lt (Nat.lt_of_lt_of_le Ed.lt (Nat.le_of_eq g5.symm)))
  have f20 := (A5.other W6 (Ne.symm ne19))
  obtain ⟨cl18, Ar18, q18, S18, N18', H18, G18⟩ := id f20
  have hin18 : ¬ ((0 : Int32) < 0 ∨ cl18.slots.size ≤ ((0 : Int32)).toNatClampNeg) := inb_of S18 ⟨by decide, by decide⟩
  refine own_st (fun t_ k_ => X17.aaload hx (j := (0 : Int32)) (v := (.ref u0)) (by rw [e17]; exact Ar18.1) (State.isArrayOf_alike hZ.alike Ar18.2.1) rfl Ar18.2.2 hin18 (Has.at H18 hin18 rfl) (g := (mkF m 92 #[.val (.ref d), .val (.int (1 : Int32)), .val (.int (2 : Int32)), .val (.int (6 : Int32)), .val (.int (4 : Int32)), .val (.ref nb5), .unset, .unset, .unset] [(.int (0 : Int32)), (.ref nb5)])) rfl rfl (hb hby d8_92) t_ k_) ?_
  show own_Go p e below _ T17 (mkF m 93 #[.val (.ref d), .val (.int (1 : Int32)), .val (.int (2 : Int32)), .val (.int (6 : Int32)), .val (.int (4 : Int32)), .val (.ref nb5), .unset, .unset, .unset] [(.ref u0)])
  refine own_st (fun t_ k_ => XS.ifnullNo X17.here hx rfl (hb hby d8_93) rfl k_) ?_
  show own_Go p e below _ T17 (mkF m 96 #[.val (.ref d), .val (.int (1 : Int32)), .val (.int (2 : Int32)), .val (.int (6 : Int32)), .val (.int (4 : Int32)), .val (.ref nb5), .unset, .unset, .unset] [])
  refine own_st (fun t_ k_ => XS.iloadN X17.here hx rfl (hb hby d8_96) rfl k_) ?_
  show own_Go p e below _ T17 (mkF m 97 #[.val (.ref d), .val (.int (1 : Int32)), .val (.int (2 : Int32)), .val (.int (6 : Int32)), .val (.int (4 : Int32)), .val (.ref nb5), .unset, .unset, .unset] [(.int (6 : Int32))])
  refine own_st (fun t_ k_ => XS.iloadN X17.here hx rfl (hb hby d8_97) rfl k_) ?_
  show own_Go p e below _ T17 (mkF m 98 #[.val (.ref d), .val (.int (1 : Int32)), .val (.int (2 : Int32)), .val (.int (6 : Int32)), .val (.int (4 : Int32)), .val (.ref nb5), .unset, .unset, .unset] [(.int (2 : Int32)), (.int (6 : Int32))])
  refine own_st (fun t_ k_ => XS.isub X17.here hx rfl (hb hby d8_98) rfl k_) ?_
  show own_Go p e below _ T17 (mkF m 99 #[.val (.ref d), .val (.int (1 : Int32)), .val (.int (2 : Int32)), .val (.int (6 : Int32)), .val (.int (4 : Int32)), .val (.ref nb5), .unset, .unset, .unset] [(.int (4 : Int32))])
  refine own_st (fun t_ k_ => XS.istore X17.here hx rfl (hb hby d8_99) rfl (l' := #[.val (.ref d), .val (.int (1 : Int32)), .val (.int (2 : Int32)), .val (.int (6 : Int32)), .val (.int (4 : Int32)), .val (.ref nb5), .val (.int (4 : Int32)), .unset, .unset]) rfl k_) ?_
  show own_Go p e below _ T17 (mkF m 101 #[.val (.ref d), .val (.int (1 : Int32)), .val (.int (2 : Int32)), .val (.int (6 : Int32)), .val (.int (4 : Int32)), .val (.ref nb5), .val (.int (4 : Int32)), .unset, .unset] [])
  refine own_st (fun t_ k_ => XS.aload X17.here hx rfl (hb hby d8_101) rfl rfl k_) ?_
  show own_Go p e below _ T17 (mkF m 103 #[.val (.ref d), .val (.int (1 : Int32)), .val (.int (2 : Int32)), .val (.int (6 : Int32)), .val (.int (4 : Int32)), .val (.ref nb5), .val (.int (4 : Int32)), .unset, .unset] [(.ref nb5)])
  refine own_st (fun t_ k_ => XS.aloadN X17.here hx rfl (hb hby d8_103) rfl rfl k_) ?_
  show own_Go p e below _ T17 (mkF m 104 #[.val (.ref d), .val (.int (1 : Int32)), .val (.int (2 : Int32)), .val (.int (6 : Int32)), .val (.int (4 : Int32)), .val (.ref nb5), .val (.int (4 : Int32)), .unset, .unset] [(.ref d), (.ref nb5)])
  obtain ⟨T21, X21, e21, st21⟩ := getF X17 hx hZ hown (host := "") (Or.inl (hw _ (List.mem_of_getElem? (i := 77) rfl))) Via.refl e17 f13 (g := (mkF m 104 #[.val (.ref d), .val (.int (1 : Int32)), .val (.int (2 : Int32)), .val (.int (6 : Int32)), .val (.int (4 : Int32)), .val (.ref nb5), .val (.int (4 : Int32)), .unset, .unset] [(.ref d), (.ref nb5)])) rfl rfl (hb hby d8_104)
  refine own_st st21 ?_
  show own_Go p e below _ T21 (mkF m 107 #[.val (.ref d), .val (.int (1 : Int32)), .val (.int (2 : Int32)), .val (.int (6 : Int32)), .val (.int (4 : Int32)), .val (.ref nb5), .val (.int (4 : Int32)), .unset, .unset] [(.int (0 : Int32)), (.ref nb5)])
  refine own_st (fun t_ k_ => XS.aload X21.here hx rfl (hb hby d8_107) rfl rfl k_) ?_
  show own_Go p e below _ T21 (mkF m 109 #[.val (.ref d), .val (.int (1 : Int32)), .val (.int (2 : Int32)), .val (.int (6 : Int32)), .val (.int (4 : Int32)), .val (.ref nb5), .val (.int (4 : Int32)), .unset, .unset] [(.ref nb5), (.int (0 : Int32)), (.ref nb5)])
  refine own_st (fun t_ k_ => XS.aloadN X21.here hx rfl (hb hby d8_109) rfl rfl k_) ?_
  show own_Go p e below _ T21 (mkF m 110 #[.val (.ref d), .val (.int (1 : Int32)), .val (.int (2 : Int32)), .val (.int (6 : Int32)), .val (.int (4 : Int32)), .val (.ref nb5), .val (.int (4 : Int32)), .unset, .unset] [(.ref d), (.ref nb5), (.int (0 : Int32)), (.ref nb5)])
  obtain ⟨T22, X22, e22, st22⟩ := getF X21 hx hZ hown (host := "") (Or.inl (hw _ (List.mem_of_getElem? (i := 77) rfl))) Via.refl e21 f13 (g := (mkF m 110 #[.val (.ref d), .val (.int (1 : Int32)), .val (.int (2 : Int32)), .val (.int (6 : Int32)), .val (.int (4 : Int32)), .val (.ref nb5), .val (.int (4 : Int32)), .unset, .unset] [(.ref d), (.ref nb5), (.int (0 : Int32)), (.ref nb5)])) rfl rfl (hb hby d8_110)
  refine own_st st22 ?_
  show own_Go p e below _ T22 (mkF m 113 #[.val (.ref d), .val (.int (1 : Int32)), .val (.int (2 : Int32)), .val (.int (6 : Int32)), .val (.int (4 : Int32)), .val (.ref nb5), .val (.int (4 : Int32)), .unset, .unset] [(.int (0 : Int32)), (.ref nb5), (.int (0 : Int32)), (.ref nb5)])
  refine own_st (fun t_ k_ => XS.iload X22.here hx rfl (hb hby d8_113) rfl k_) ?_
  show own_Go p e below _ T22 (mkF m 115 #[.val (.ref d), .val (.int (1 : Int32)), .val (.int (2 : Int32)), .val (.int (6 : Int32)), .val (.int (4 : Int32)), .val (.ref nb5), .val (.int (4 : Int32)), .unset, .unset] [(.int (4 : Int32)), (.int (0 : Int32)), (.ref nb5), (.int (0 : Int32)), (.ref nb5)])
  refine own_st (fun t_ k_ => XS.iadd X22.here hx rfl (hb hby d8_115) rfl k_) ?_
  show own_Go p e below _ T22 (mkF m 116 #[.val (.ref d), .val (.int (1 : Int32)), .val (.int (2 : Int32)), .val (.int (6 : Int32)), .val (.int (4 : Int32)), .val (.ref nb5), .val (.int (4 : Int32)), .unset, .unset] [(.int (4 : Int32)), (.ref nb5), (.int (0 : Int32)), (.ref nb5)])
  refine own_st (fun t_ k_ => XS.iloadN X22.here hx rfl (hb hby d8_116) rfl k_) ?_
  show own_Go p e below _ T22 (mkF m 117 #[.val (.ref d), .val (.int (1 : Int32)), .val (.int (2 : Int32)), .val (.int (6 : Int32)), .val (.int (4 : Int32)), .val (.ref nb5), .val (.int (4 : Int32)), .unset, .unset] [(.int (2 : Int32)), (.int (4 : Int32)), (.ref nb5), (.int (0 : Int32)), (.ref nb5)])
  refine own_st (fun t_ k_ => XS.aloadN X22.here hx rfl (hb hby d8_117) rfl rfl k_) ?_
  show own_Go p e below _ T22 (mkF m 118 #[.val (.ref d), .val (.int (1 : Int32)), .val (.int (2 : Int32)), .val (.int (6 : Int32)), .val (.int (4 : Int32)), .val (.ref nb5), .val (.int (4 : Int32)), .unset, .unset] [(.ref d), (.int (2 : Int32)), (.int (4 : Int32)), (.ref nb5), (.int (0 : Int32)), (.ref nb5)])
  obtain ⟨T23, X23, e23, st23⟩ := getF X22 hx hZ hown (host := "") (Or.inl (hw _ (List.mem_of_getElem? (i := 77) rfl))) Via.refl e22 f13 (g := (mkF m 118 #[.val (.ref d), .val (.int (1 : Int32)), .val (.int (2 : Int32)), .val (.int (6 : Int32)), .val (.int (4 : Int32)), .val (.ref nb5), .val (.int (4 : Int32)), .unset, .unset] [(.ref d), (.int (2 : Int32)), (.int (4 : Int32)), (.ref nb5), (.int (0 : Int32)), (.ref nb5)])) rfl rfl (hb hby d8_118)
  refine own_st st23 ?_
  show own_Go p e below _ T23 (mkF m 121 #[.val (.ref d), .val (.int (1 : Int32)), .val (.int (2 : Int32)), .val (.int (6 : Int32)), .val (.int (4 : Int32)), .val (.ref nb5), .val (.int (4 : Int32)), .unset, .unset] [(.int (0 : Int32)), (.int (2 : Int32)), (.int (4 : Int32)), (.ref nb5), (.int (0 : Int32)), (.ref nb5)])
  refine own_st (fun t_ k_ => XS.isub X23.here hx rfl (hb hby d8_121) rfl k_) ?_
  show own_Go p e below _ T23 (mkF m 122 #[.val (.ref d), .val (.int (1 : Int32)), .val (.int (2 : Int32)), .val (.int (6 : Int32)), .val (.int (4 : Int32)), .val (.ref nb5), .val (.int (4 : Int32)), .unset, .unset] [(.int (2 : Int32)), (.int (4 : Int32)), (.ref nb5), (.int (0 : Int32)), (.ref nb5)])
  obtain ⟨cl24, Ar24, q24, -, -, -, -⟩ := id f20
  have f25 := (Exa.ext E5 E0)
  have f26 := (Exa.wr W6 f25)
  have f27 := (Exa.ext E5 E1)
  have f28 := (Exa.wr W6 f27)
  obtain ⟨T29, h29, L29, X29, e29, N29, Kq29, A29, st29⟩ := cpA X23 hx hZ hown (hw _ (List.mem_of_getElem? (i := 112) rfl)) (hw _ (List.mem_of_getElem? (i := 111) rfl)) (hw _ (List.mem_of_getElem? (i := 109) rfl)) (hw _ (List.mem_of_getElem? (i := 110) rfl)) e23 f20 f20 (us := [(.ref u0), (.ref u1)]) (sp := (0 : Int32)) (dp := (4 : Int32)) (nn := (2 : Int32)) (Or.inr ⟨rfl, rfl, ⟨Sto.ofV Ar24 q24 Ov (Ins.of_exa f26 (hw _ (List.mem_of_getElem? (i := 76) rfl))), Sto.ofV Ar24 q24 Ov (Ins.of_exa f28 (hw _ (List.mem_of_getElem? (i := 76) rfl))), trivial⟩⟩) (by decide) (by decide) (by decide) (by decide) (by decide) rfl (Nat.le_of_ble_eq_true rfl) N6 g_nb5 (g := (mkF m 122 #[.val (.ref d), .val (.int (1 : Int32)), .val (.int (2 : Int32)), .val (.int (6 : Int32)), .val (.int (4 : Int32)), .val (.ref nb5), .val (.int (4 : Int32)), .unset, .unset] [(.int (2 : Int32)), (.int (4 : Int32)), (.ref nb5), (.int (0 : Int32)), (.ref nb5)])) rfl (by rw [hml]; rfl) rfl (hb hby d8_122) (by decide) (W := 0) (by show 2 * 0 + _ ≤ _; exact Nat.le_of_eq rfl) (by decide)
  refine own_st st29 ?_
  have K29 : Keep h0 h29 [d] := K6.trans Kq29 (allS (Or.inr sz_nb5) all0)
  have V29 : Arv Z h29 nb5 k (.object "java/lang/Object") (6 : Int32) [(.ref u0), (.ref u1), .null, .null, (.ref u0), (.ref u1)] .null := A29
  show own_Go p e below _ T29 (mkF m 125 #[.val (.ref d), .val (.int (1 : Int32)), .val (.int (2 : Int32)), .val (.int (6 : Int32)), .val (.int (4 : Int32)), .val (.ref nb5), .val (.int (4 : Int32)), .unset, .unset] [])
  refine own_st (fun t_ k_ => XS.aloadN X29.here hx rfl (hb hby d8_125) rfl rfl k_) ?_
  show own_Go p e below _ T29 (mkF m 126 #[.val (.ref d), .val (.int (1 : Int32)), .val (.int (2 : Int32)), .val (.int (6 : Int32)), .val (.int (4 : Int32)), .val (.ref nb5), .val (.int (4 : Int32)), .unset, .unset] [(.ref d)])
  have f30 := (f13.keep Kq29 (ninS ne19 nin0))
  obtain ⟨T31, X31, e31, st31⟩ := getF X29 hx hZ hown (host := "") (Or.inl (hw _ (List.mem_of_getElem? (i := 77) rfl))) Via.refl e29 f30 (g := (mkF m 126 #[.val (.ref d), .val (.int (1 : Int32)), .val (.int (2 : Int32)), .val (.int (6 : Int32)), .val (.int (4 : Int32)), .val (.ref nb5), .val (.int (4 : Int32)), .unset, .unset] [(.ref d)])) rfl rfl (hb hby d8_126)
  refine own_st st31 ?_
  show own_Go p e below _ T31 (mkF m 129 #[.val (.ref d), .val (.int (1 : Int32)), .val (.int (2 : Int32)), .val (.int (6 : Int32)), .val (.int (4 : Int32)), .val (.ref nb5), .val (.int (4 : Int32)), .unset, .unset] [(.int (0 : Int32))])
  refine own_st (fun t_ k_ => XS.istore X31.here hx rfl (hb hby d8_129) rfl (l' := #[.val (.ref d), .val (.int (1 : Int32)), .val (.int (2 : Int32)), .val (.int (6 : Int32)), .val (.int (4 : Int32)), .val (.ref nb5), .val (.int (4 : Int32)), .val (.int (0 : Int32)), .unset]) rfl k_) ?_
  show own_Go p e below _ T31 (mkF m 131 #[.val (.ref d), .val (.int (1 : Int32)), .val (.int (2 : Int32)), .val (.int (6 : Int32)), .val (.int (4 : Int32)), .val (.ref nb5), .val (.int (4 : Int32)), .val (.int (0 : Int32)), .unset] [])
  refine own_st (fun t_ k_ => XS.aloadN X31.here hx rfl (hb hby d8_131) rfl rfl k_) ?_
  show own_Go p e below _ T31 (mkF m 132 #[.val (.ref d), .val (.int (1 : Int32)), .val (.int (2 : Int32)), .val (.int (6 : Int32)), .val (.int (4 : Int32)), .val (.ref nb5), .val (.int (4 : Int32)), .val (.int (0 : Int32)), .unset] [(.ref d)])
  refine own_st (fun t_ k_ => XS.dup X31.here hx rfl (hb hby d8_132) rfl rfl k_) ?_
  show own_Go p e below _ T31 (mkF m 133 #[.val (.ref d), .val (.int (1 : Int32)), .val (.int (2 : Int32)), .val (.int (6 : Int32)), .val (.int (4 : Int32)), .val (.ref nb5), .val (.int (4 : Int32)), .val (.int (0 : Int32)), .unset] [(.ref d), (.ref d)])
  obtain ⟨T32, X32, e32, st32⟩ := getF X31 hx hZ hown (host := "") (Or.inl (hw _ (List.mem_of_getElem? (i := 77) rfl))) Via.refl e31 f30 (g := (mkF m 133 #[.val (.ref d), .val (.int (1 : Int32)), .val (.int (2 : Int32)), .val (.int (6 : Int32)), .val (.int (4 : Int32)), .val (.ref nb5), .val (.int (4 : Int32)), .val (.int (0 : Int32)), .unset] [(.ref d), (.ref d)])) rfl rfl (hb hby d8_133)
  refine own_st st32 ?_
  show own_Go p e below _ T32 (mkF m 136 #[.val (.ref d), .val (.int (1 : Int32)), .val (.int (2 : Int32)), .val (.int (6 : Int32)), .val (.int (4 : Int32)), .val (.ref nb5), .val (.int (4 : Int32)), .val (.int (0 : Int32)), .unset] [(.int (0 : Int32)), (.ref d)])
  refine own_st (fun t_ k_ => XS.iload X32.here hx rfl (hb hby d8_136) rfl k_) ?_
  show own_Go p e below _ T32 (mkF m 138 #[.val (.ref d), .val (.int (1 : Int32)), .val (.int (2 : Int32)), .val (.int (6 : Int32)), .val (.int (4 : Int32)), .val (.ref nb5), .val (.int (4 : Int32)), .val (.int (0 : Int32)), .unset] [(.int (4 : Int32)), (.int (0 : Int32)), (.ref d)])
  refine own_st (fun t_ k_ => XS.iadd X32.here hx rfl (hb hby d8_138) rfl k_) ?_
  show own_Go p e below _ T32 (mkF m 139 #[.val (.ref d), .val (.int (1 : Int32)), .val (.int (2 : Int32)), .val (.int (6 : Int32)), .val (.int (4 : Int32)), .val (.ref nb5), .val (.int (4 : Int32)), .val (.int (0 : Int32)), .unset] [(.int (4 : Int32)), (.ref d)])
  refine own_st (fun t_ k_ => XS.dupX1 X32.here hx rfl (hb hby d8_139) rfl rfl rfl k_) ?_
  show own_Go p e below _ T32 (mkF m 140 #[.val (.ref d), .val (.int (1 : Int32)), .val (.int (2 : Int32)), .val (.int (6 : Int32)), .val (.int (4 : Int32)), .val (.ref nb5), .val (.int (4 : Int32)), .val (.int (0 : Int32)), .unset] [(.int (4 : Int32)), (.ref d), (.int (4 : Int32))])
  have f34 := (Exa.wr W6 f8)
  have f35 := (f34.keep Kq29)
  obtain ⟨T33, h33, X33, e33, W33, st33⟩ := putF X32 hx hZ hown (host := "") (Or.inl (hw _ (List.mem_of_getElem? (i := 77) rfl))) Via.refl e32 f30 f35 (Or.inl (hw _ (List.mem_of_getElem? (i := 78) rfl))) (hw _ (List.mem_of_getElem? (i := 12) rfl)) (ty := .int) (by decide) rfl rfl (g := (mkF m 140 #[.val (.ref d), .val (.int (1 : Int32)), .val (.int (2 : Int32)), .val (.int (6 : Int32)), .val (.int (4 : Int32)), .val (.ref nb5), .val (.int (4 : Int32)), .val (.int (0 : Int32)), .unset] [(.int (4 : Int32)), (.ref d), (.int (4 : Int32))])) rfl rfl (hb hby d8_140)
  refine own_st st33 ?_
  have N33 := Fr.snoc X33 N29 g_d
  have K33 : Keep h0 h33 [d] := K29.wr W33 (Or.inl (List.mem_of_getElem? (i := 0) rfl))
  have Fw33 := Fld.same W33 f30
  show own_Go p e below _ T33 (mkF m 143 #[.val (.ref d), .val (.int (1 : Int32)), .val (.int (2 : Int32)), .val (.int (6 : Int32)), .val (.int (4 : Int32)), .val (.ref nb5), .val (.int (4 : Int32)), .val (.int (0 : Int32)), .unset] [(.int (4 : Int32))])
  refine own_st (fun t_ k_ => XS.istore X33.here hx rfl (hb hby d8_143) rfl (l' := #[.val (.ref d), .val (.int (1 : Int32)), .val (.int (2 : Int32)), .val (.int (6 : Int32)), .val (.int (4 : Int32)), .val (.ref nb5), .val (.int (4 : Int32)), .val (.int (0 : Int32)), .val (.int (4 : Int32))]) rfl k_) ?_
  show own_Go p e below _ T33 (mkF m 145 #[.val (.ref d), .val (.int (1 : Int32)), .val (.int (2 : Int32)), .val (.int (6 : Int32)), .val (.int (4 : Int32)), .val (.ref nb5), .val (.int (4 : Int32)), .val (.int (0 : Int32)), .val (.int (4 : Int32))] [])
  refine own_st (fun t_ k_ => XS.iload X33.here hx rfl (hb hby d8_145) rfl k_) ?_
  show own_Go p e below _ T33 (mkF m 147 #[.val (.ref d), .val (.int (1 : Int32)), .val (.int (2 : Int32)), .val (.int (6 : Int32)), .val (.int (4 : Int32)), .val (.ref nb5), .val (.int (4 : Int32)), .val (.int (0 : Int32)), .val (.int (4 : Int32))] [(.int (0 : Int32))])
  refine own_st (fun t_ k_ => XS.iload X33.here hx rfl (hb hby d8_147) rfl k_) ?_
  show own_Go p e below _ T33 (mkF m 149 #[.val (.ref d), .val (.int (1 : Int32)), .val (.int (2 : Int32)), .val (.int (6 : Int32)), .val (.int (4 : Int32)), .val (.ref nb5), .val (.int (4 : Int32)), .val (.int (0 : Int32)), .val (.int (4 : Int32))] [(.int (4 : Int32)), (.int (0 : Int32))])
  refine own_st (fun t_ k_ => XS.icmpNo X33.here hx rfl (hb hby d8_149) rfl (by decide) k_) ?_
  show own_Go p e below _ T33 (mkF m 152 #[.val (.ref d), .val (.int (1 : Int32)), .val (.int (2 : Int32)), .val (.int (6 : Int32)), .val (.int (4 : Int32)), .val (.ref nb5), .val (.int (4 : Int32)), .val (.int (0 : Int32)), .val (.int (4 : Int32))] [])
  refine own_st (fun t_ k_ => XS.aload X33.here hx rfl (hb hby d8_152) rfl rfl k_) ?_
  show own_Go p e below _ T33 (mkF m 154 #[.val (.ref d), .val (.int (1 : Int32)), .val (.int (2 : Int32)), .val (.int (6 : Int32)), .val (.int (4 : Int32)), .val (.ref nb5), .val (.int (4 : Int32)), .val (.int (0 : Int32)), .val (.int (4 : Int32))] [(.ref nb5)])
  refine own_st (fun t_ k_ => XS.iload X33.here hx rfl (hb hby d8_154) rfl k_) ?_
  show own_Go p e below _ T33 (mkF m 156 #[.val (.ref d), .val (.int (1 : Int32)), .val (.int (2 : Int32)), .val (.int (6 : Int32)), .val (.int (4 : Int32)), .val (.ref nb5), .val (.int (4 : Int32)), .val (.int (0 : Int32)), .val (.int (4 : Int32))] [(.int (0 : Int32)), (.ref nb5)])
  refine own_st (fun t_ k_ => XS.aconstNull X33.here hx rfl (hb hby d8_156) k_) ?_
  show own_Go p e below _ T33 (mkF m 157 #[.val (.ref d), .val (.int (1 : Int32)), .val (.int (2 : Int32)), .val (.int (6 : Int32)), .val (.int (4 : Int32)), .val (.ref nb5), .val (.int (4 : Int32)), .val (.int (0 : Int32)), .val (.int (4 : Int32))] [.null, (.int (0 : Int32)), (.ref nb5)])
  have f37 := (V29.other W33 (Ne.symm ne19))
  obtain ⟨cl36, Ar36, q36, S36, N36', H36, G36⟩ := id f37
  have hin36 : ¬ ((0 : Int32) < 0 ∨ cl36.slots.size ≤ ((0 : Int32)).toNatClampNeg) := inb_of S36 ⟨by decide, by decide⟩
  obtain ⟨T36, h36, X36, e36, W36, st36⟩ := stR X33 hx hZ e33 Ar36 (j := (0 : Int32)) hin36 rfl (Or.inl rfl) (g := (mkF m 157 #[.val (.ref d), .val (.int (1 : Int32)), .val (.int (2 : Int32)), .val (.int (6 : Int32)), .val (.int (4 : Int32)), .val (.ref nb5), .val (.int (4 : Int32)), .val (.int (0 : Int32)), .val (.int (4 : Int32))] [.null, (.int (0 : Int32)), (.ref nb5)])) rfl rfl (hb hby d8_157)
  have V36 : Arv Z h36 nb5 k (.object "java/lang/Object") (6 : Int32) [.null, (.ref u1), .null, .null, (.ref u0), (.ref u1)] .null := Arv.set Ar36 q36 S36 N36' H36 G36 rfl W36 0 rfl (Nat.le_of_ble_eq_true rfl)
  refine own_st st36 ?_
  have N36 := Fr.snoc X36 N33 g_nb5
  have K36 : Keep h0 h36 [d] := K33.wr W36 (Or.inr sz_nb5)
  show own_Go p e below _ T36 (mkF m 158 #[.val (.ref d), .val (.int (1 : Int32)), .val (.int (2 : Int32)), .val (.int (6 : Int32)), .val (.int (4 : Int32)), .val (.ref nb5), .val (.int (4 : Int32)), .val (.int (0 : Int32)), .val (.int (4 : Int32))] [])
  refine own_st (fun t_ k_ => XS.iinc X36.here hx rfl (hb hby d8_158) rfl (l' := #[.val (.ref d), .val (.int (1 : Int32)), .val (.int (2 : Int32)), .val (.int (6 : Int32)), .val (.int (4 : Int32)), .val (.ref nb5), .val (.int (4 : Int32)), .val (.int (1 : Int32)), .val (.int (4 : Int32))]) rfl k_) ?_
  show own_Go p e below _ T36 (mkF m 161 #[.val (.ref d), .val (.int (1 : Int32)), .val (.int (2 : Int32)), .val (.int (6 : Int32)), .val (.int (4 : Int32)), .val (.ref nb5), .val (.int (4 : Int32)), .val (.int (1 : Int32)), .val (.int (4 : Int32))] [])
  refine own_st (fun t_ k_ => XS.goto X36.here hx rfl (pc0 := 161) (pc' := 145) rfl (hb hby d8_161) (by decide) (by decide) k_) ?_
  show own_Go p e below _ T36 (mkF m 145 #[.val (.ref d), .val (.int (1 : Int32)), .val (.int (2 : Int32)), .val (.int (6 : Int32)), .val (.int (4 : Int32)), .val (.ref nb5), .val (.int (4 : Int32)), .val (.int (1 : Int32)), .val (.int (4 : Int32))] [])
  refine own_st (fun t_ k_ => XS.iload X36.here hx rfl (hb hby d8_145) rfl k_) ?_
  show own_Go p e below _ T36 (mkF m 147 #[.val (.ref d), .val (.int (1 : Int32)), .val (.int (2 : Int32)), .val (.int (6 : Int32)), .val (.int (4 : Int32)), .val (.ref nb5), .val (.int (4 : Int32)), .val (.int (1 : Int32)), .val (.int (4 : Int32))] [(.int (1 : Int32))])
  refine own_st (fun t_ k_ => XS.iload X36.here hx rfl (hb hby d8_147) rfl k_) ?_
  show own_Go p e below _ T36 (mkF m 149 #[.val (.ref d), .val (.int (1 : Int32)), .val (.int (2 : Int32)), .val (.int (6 : Int32)), .val (.int (4 : Int32)), .val (.ref nb5), .val (.int (4 : Int32)), .val (.int (1 : Int32)), .val (.int (4 : Int32))] [(.int (4 : Int32)), (.int (1 : Int32))])
  refine own_st (fun t_ k_ => XS.icmpNo X36.here hx rfl (hb hby d8_149) rfl (by decide) k_) ?_
  show own_Go p e below _ T36 (mkF m 152 #[.val (.ref d), .val (.int (1 : Int32)), .val (.int (2 : Int32)), .val (.int (6 : Int32)), .val (.int (4 : Int32)), .val (.ref nb5), .val (.int (4 : Int32)), .val (.int (1 : Int32)), .val (.int (4 : Int32))] [])
  refine own_st (fun t_ k_ => XS.aload X36.here hx rfl (hb hby d8_152) rfl rfl k_) ?_
  show own_Go p e below _ T36 (mkF m 154 #[.val (.ref d), .val (.int (1 : Int32)), .val (.int (2 : Int32)), .val (.int (6 : Int32)), .val (.int (4 : Int32)), .val (.ref nb5), .val (.int (4 : Int32)), .val (.int (1 : Int32)), .val (.int (4 : Int32))] [(.ref nb5)])
  refine own_st (fun t_ k_ => XS.iload X36.here hx rfl (hb hby d8_154) rfl k_) ?_
  show own_Go p e below _ T36 (mkF m 156 #[.val (.ref d), .val (.int (1 : Int32)), .val (.int (2 : Int32)), .val (.int (6 : Int32)), .val (.int (4 : Int32)), .val (.ref nb5), .val (.int (4 : Int32)), .val (.int (1 : Int32)), .val (.int (4 : Int32))] [(.int (1 : Int32)), (.ref nb5)])
  refine own_st (fun t_ k_ => XS.aconstNull X36.here hx rfl (hb hby d8_156) k_) ?_
  show own_Go p e below _ T36 (mkF m 157 #[.val (.ref d), .val (.int (1 : Int32)), .val (.int (2 : Int32)), .val (.int (6 : Int32)), .val (.int (4 : Int32)), .val (.ref nb5), .val (.int (4 : Int32)), .val (.int (1 : Int32)), .val (.int (4 : Int32))] [.null, (.int (1 : Int32)), (.ref nb5)])
  obtain ⟨cl38, Ar38, q38, S38, N38', H38, G38⟩ := id V36
  have hin38 : ¬ ((1 : Int32) < 0 ∨ cl38.slots.size ≤ ((1 : Int32)).toNatClampNeg) := inb_of S38 ⟨by decide, by decide⟩
  obtain ⟨T38, h38, X38, e38, W38, st38⟩ := stR X36 hx hZ e36 Ar38 (j := (1 : Int32)) hin38 rfl (Or.inl rfl) (g := (mkF m 157 #[.val (.ref d), .val (.int (1 : Int32)), .val (.int (2 : Int32)), .val (.int (6 : Int32)), .val (.int (4 : Int32)), .val (.ref nb5), .val (.int (4 : Int32)), .val (.int (1 : Int32)), .val (.int (4 : Int32))] [.null, (.int (1 : Int32)), (.ref nb5)])) rfl rfl (hb hby d8_157)
  have V38 : Arv Z h38 nb5 k (.object "java/lang/Object") (6 : Int32) [.null, .null, .null, .null, (.ref u0), (.ref u1)] .null := Arv.set Ar38 q38 S38 N38' H38 G38 rfl W38 1 rfl (Nat.le_of_ble_eq_true rfl)
  refine own_st st38 ?_
  have N38 := Fr.snoc X38 N36 g_nb5
  have K38 : Keep h0 h38 [d] := K36.wr W38 (Or.inr sz_nb5)
  show own_Go p e below _ T38 (mkF m 158 #[.val (.ref d), .val (.int (1 : Int32)), .val (.int (2 : Int32)), .val (.int (6 : Int32)), .val (.int (4 : Int32)), .val (.ref nb5), .val (.int (4 : Int32)), .val (.int (1 : Int32)), .val (.int (4 : Int32))] [])
  refine own_st (fun t_ k_ => XS.iinc X38.here hx rfl (hb hby d8_158) rfl (l' := #[.val (.ref d), .val (.int (1 : Int32)), .val (.int (2 : Int32)), .val (.int (6 : Int32)), .val (.int (4 : Int32)), .val (.ref nb5), .val (.int (4 : Int32)), .val (.int (2 : Int32)), .val (.int (4 : Int32))]) rfl k_) ?_
  show own_Go p e below _ T38 (mkF m 161 #[.val (.ref d), .val (.int (1 : Int32)), .val (.int (2 : Int32)), .val (.int (6 : Int32)), .val (.int (4 : Int32)), .val (.ref nb5), .val (.int (4 : Int32)), .val (.int (2 : Int32)), .val (.int (4 : Int32))] [])
  refine own_st (fun t_ k_ => XS.goto X38.here hx rfl (pc0 := 161) (pc' := 145) rfl (hb hby d8_161) (by decide) (by decide) k_) ?_
  show own_Go p e below _ T38 (mkF m 145 #[.val (.ref d), .val (.int (1 : Int32)), .val (.int (2 : Int32)), .val (.int (6 : Int32)), .val (.int (4 : Int32)), .val (.ref nb5), .val (.int (4 : Int32)), .val (.int (2 : Int32)), .val (.int (4 : Int32))] [])
  refine own_st (fun t_ k_ => XS.iload X38.here hx rfl (hb hby d8_145) rfl k_) ?_
  show own_Go p e below _ T38 (mkF m 147 #[.val (.ref d), .val (.int (1 : Int32)), .val (.int (2 : Int32)), .val (.int (6 : Int32)), .val (.int (4 : Int32)), .val (.ref nb5), .val (.int (4 : Int32)), .val (.int (2 : Int32)), .val (.int (4 : Int32))] [(.int (2 : Int32))])
  refine own_st (fun t_ k_ => XS.iload X38.here hx rfl (hb hby d8_147) rfl k_) ?_
  show own_Go p e below _ T38 (mkF m 149 #[.val (.ref d), .val (.int (1 : Int32)), .val (.int (2 : Int32)), .val (.int (6 : Int32)), .val (.int (4 : Int32)), .val (.ref nb5), .val (.int (4 : Int32)), .val (.int (2 : Int32)), .val (.int (4 : Int32))] [(.int (4 : Int32)), (.int (2 : Int32))])
  refine own_st (fun t_ k_ => XS.icmpNo X38.here hx rfl (hb hby d8_149) rfl (by decide) k_) ?_
  show own_Go p e below _ T38 (mkF m 152 #[.val (.ref d), .val (.int (1 : Int32)), .val (.int (2 : Int32)), .val (.int (6 : Int32)), .val (.int (4 : Int32)), .val (.ref nb5), .val (.int (4 : Int32)), .val (.int (2 : Int32)), .val (.int (4 : Int32))] [])
  refine own_st (fun t_ k_ => XS.aload X38.here hx rfl (hb hby d8_152) rfl rfl k_) ?_
  show own_Go p e below _ T38 (mkF m 154 #[.val (.ref d), .val (.int (1 : Int32)), .val (.int (2 : Int32)), .val (.int (6 : Int32)), .val (.int (4 : Int32)), .val (.ref nb5), .val (.int (4 : Int32)), .val (.int (2 : Int32)), .val (.int (4 : Int32))] [(.ref nb5)])
  refine own_st (fun t_ k_ => XS.iload X38.here hx rfl (hb hby d8_154) rfl k_) ?_
  show own_Go p e below _ T38 (mkF m 156 #[.val (.ref d), .val (.int (1 : Int32)), .val (.int (2 : Int32)), .val (.int (6 : Int32)), .val (.int (4 : Int32)), .val (.ref nb5), .val (.int (4 : Int32)), .val (.int (2 : Int32)), .val (.int (4 : Int32))] [(.int (2 : Int32)), (.ref nb5)])
  refine own_st (fun t_ k_ => XS.aconstNull X38.here hx rfl (hb hby d8_156) k_) ?_
  show own_Go p e below _ T38 (mkF m 157 #[.val (.ref d), .val (.int (1 : Int32)), .val (.int (2 : Int32)), .val (.int (6 : Int32)), .val (.int (4 : Int32)), .val (.ref nb5), .val (.int (4 : Int32)), .val (.int (2 : Int32)), .val (.int (4 : Int32))] [.null, (.int (2 : Int32)), (.ref nb5)])
  obtain ⟨cl39, Ar39, q39, S39, N39', H39, G39⟩ := id V38
  have hin39 : ¬ ((2 : Int32) < 0 ∨ cl39.slots.size ≤ ((2 : Int32)).toNatClampNeg) := inb_of S39 ⟨by decide, by decide⟩
  obtain ⟨T39, h39, X39, e39, W39, st39⟩ := stR X38 hx hZ e38 Ar39 (j := (2 : Int32)) hin39 rfl (Or.inl rfl) (g := (mkF m 157 #[.val (.ref d), .val (.int (1 : Int32)), .val (.int (2 : Int32)), .val (.int (6 : Int32)), .val (.int (4 : Int32)), .val (.ref nb5), .val (.int (4 : Int32)), .val (.int (2 : Int32)), .val (.int (4 : Int32))] [.null, (.int (2 : Int32)), (.ref nb5)])) rfl rfl (hb hby d8_157)
  have V39 : Arv Z h39 nb5 k (.object "java/lang/Object") (6 : Int32) [.null, .null, .null, .null, (.ref u0), (.ref u1)] .null := Arv.set Ar39 q39 S39 N39' H39 G39 rfl W39 2 rfl (Nat.le_of_ble_eq_true rfl)
  refine own_st st39 ?_
  have N39 := Fr.snoc X39 N38 g_nb5
  have K39 : Keep h0 h39 [d] := K38.wr W39 (Or.inr sz_nb5)
  show own_Go p e below _ T39 (mkF m 158 #[.val (.ref d), .val (.int (1 : Int32)), .val (.int (2 : Int32)), .val (.int (6 : Int32)), .val (.int (4 : Int32)), .val (.ref nb5), .val (.int (4 : Int32)), .val (.int (2 : Int32)), .val (.int (4 : Int32))] [])
  refine own_st (fun t_ k_ => XS.iinc X39.here hx rfl (hb hby d8_158) rfl (l' := #[.val (.ref d), .val (.int (1 : Int32)), .val (.int (2 : Int32)), .val (.int (6 : Int32)), .val (.int (4 : Int32)), .val (.ref nb5), .val (.int (4 : Int32)), .val (.int (3 : Int32)), .val (.int (4 : Int32))]) rfl k_) ?_
  show own_Go p e below _ T39 (mkF m 161 #[.val (.ref d), .val (.int (1 : Int32)), .val (.int (2 : Int32)), .val (.int (6 : Int32)), .val (.int (4 : Int32)), .val (.ref nb5), .val (.int (4 : Int32)), .val (.int (3 : Int32)), .val (.int (4 : Int32))] [])
  refine own_st (fun t_ k_ => XS.goto X39.here hx rfl (pc0 := 161) (pc' := 145) rfl (hb hby d8_161) (by decide) (by decide) k_) ?_
  show own_Go p e below _ T39 (mkF m 145 #[.val (.ref d), .val (.int (1 : Int32)), .val (.int (2 : Int32)), .val (.int (6 : Int32)), .val (.int (4 : Int32)), .val (.ref nb5), .val (.int (4 : Int32)), .val (.int (3 : Int32)), .val (.int (4 : Int32))] [])
  refine own_st (fun t_ k_ => XS.iload X39.here hx rfl (hb hby d8_145) rfl k_) ?_
  show own_Go p e below _ T39 (mkF m 147 #[.val (.ref d), .val (.int (1 : Int32)), .val (.int (2 : Int32)), .val (.int (6 : Int32)), .val (.int (4 : Int32)), .val (.ref nb5), .val (.int (4 : Int32)), .val (.int (3 : Int32)), .val (.int (4 : Int32))] [(.int (3 : Int32))])
  refine own_st (fun t_ k_ => XS.iload X39.here hx rfl (hb hby d8_147) rfl k_) ?_
  show own_Go p e below _ T39 (mkF m 149 #[.val (.ref d), .val (.int (1 : Int32)), .val (.int (2 : Int32)), .val (.int (6 : Int32)), .val (.int (4 : Int32)), .val (.ref nb5), .val (.int (4 : Int32)), .val (.int (3 : Int32)), .val (.int (4 : Int32))] [(.int (4 : Int32)), (.int (3 : Int32))])
  refine own_st (fun t_ k_ => XS.icmpNo X39.here hx rfl (hb hby d8_149) rfl (by decide) k_) ?_
  show own_Go p e below _ T39 (mkF m 152 #[.val (.ref d), .val (.int (1 : Int32)), .val (.int (2 : Int32)), .val (.int (6 : Int32)), .val (.int (4 : Int32)), .val (.ref nb5), .val (.int (4 : Int32)), .val (.int (3 : Int32)), .val (.int (4 : Int32))] [])
  refine own_st (fun t_ k_ => XS.aload X39.here hx rfl (hb hby d8_152) rfl rfl k_) ?_
  show own_Go p e below _ T39 (mkF m 154 #[.val (.ref d), .val (.int (1 : Int32)), .val (.int (2 : Int32)), .val (.int (6 : Int32)), .val (.int (4 : Int32)), .val (.ref nb5), .val (.int (4 : Int32)), .val (.int (3 : Int32)), .val (.int (4 : Int32))] [(.ref nb5)])
  refine own_st (fun t_ k_ => XS.iload X39.here hx rfl (hb hby d8_154) rfl k_) ?_
  show own_Go p e below _ T39 (mkF m 156 #[.val (.ref d), .val (.int (1 : Int32)), .val (.int (2 : Int32)), .val (.int (6 : Int32)), .val (.int (4 : Int32)), .val (.ref nb5), .val (.int (4 : Int32)), .val (.int (3 : Int32)), .val (.int (4 : Int32))] [(.int (3 : Int32)), (.ref nb5)])
  refine own_st (fun t_ k_ => XS.aconstNull X39.here hx rfl (hb hby d8_156) k_) ?_
  show own_Go p e below _ T39 (mkF m 157 #[.val (.ref d), .val (.int (1 : Int32)), .val (.int (2 : Int32)), .val (.int (6 : Int32)), .val (.int (4 : Int32)), .val (.ref nb5), .val (.int (4 : Int32)), .val (.int (3 : Int32)), .val (.int (4 : Int32))] [.null, (.int (3 : Int32)), (.ref nb5)])
  obtain ⟨cl40, Ar40, q40, S40, N40', H40, G40⟩ := id V39
  have hin40 : ¬ ((3 : Int32) < 0 ∨ cl40.slots.size ≤ ((3 : Int32)).toNatClampNeg) := inb_of S40 ⟨by decide, by decide⟩
  obtain ⟨T40, h40, X40, e40, W40, st40⟩ := stR X39 hx hZ e39 Ar40 (j := (3 : Int32)) hin40 rfl (Or.inl rfl) (g := (mkF m 157 #[.val (.ref d), .val (.int (1 : Int32)), .val (.int (2 : Int32)), .val (.int (6 : Int32)), .val (.int (4 : Int32)), .val (.ref nb5), .val (.int (4 : Int32)), .val (.int (3 : Int32)), .val (.int (4 : Int32))] [.null, (.int (3 : Int32)), (.ref nb5)])) rfl rfl (hb hby d8_157)
  have V40 : Arv Z h40 nb5 k (.object "java/lang/Object") (6 : Int32) [.null, .null, .null, .null, (.ref u0), (.ref u1)] .null := Arv.set Ar40 q40 S40 N40' H40 G40 rfl W40 3 rfl (Nat.le_of_ble_eq_true rfl)
  refine own_st st40 ?_
  have N40 := Fr.snoc X40 N39 g_nb5
  have K40 : Keep h0 h40 [d] := K39.wr W40 (Or.inr sz_nb5)
  show own_Go p e below _ T40 (mkF m 158 #[.val (.ref d), .val (.int (1 : Int32)), .val (.int (2 : Int32)), .val (.int (6 : Int32)), .val (.int (4 : Int32)), .val (.ref nb5), .val (.int (4 : Int32)), .val (.int (3 : Int32)), .val (.int (4 : Int32))] [])
  refine own_st (fun t_ k_ => XS.iinc X40.here hx rfl (hb hby d8_158) rfl (l' := #[.val (.ref d), .val (.int (1 : Int32)), .val (.int (2 : Int32)), .val (.int (6 : Int32)), .val (.int (4 : Int32)), .val (.ref nb5), .val (.int (4 : Int32)), .val (.int (4 : Int32)), .val (.int (4 : Int32))]) rfl k_) ?_
  show own_Go p e below _ T40 (mkF m 161 #[.val (.ref d), .val (.int (1 : Int32)), .val (.int (2 : Int32)), .val (.int (6 : Int32)), .val (.int (4 : Int32)), .val (.ref nb5), .val (.int (4 : Int32)), .val (.int (4 : Int32)), .val (.int (4 : Int32))] [])
  refine own_st (fun t_ k_ => XS.goto X40.here hx rfl (pc0 := 161) (pc' := 145) rfl (hb hby d8_161) (by decide) (by decide) k_) ?_
  show own_Go p e below _ T40 (mkF m 145 #[.val (.ref d), .val (.int (1 : Int32)), .val (.int (2 : Int32)), .val (.int (6 : Int32)), .val (.int (4 : Int32)), .val (.ref nb5), .val (.int (4 : Int32)), .val (.int (4 : Int32)), .val (.int (4 : Int32))] [])
  refine own_st (fun t_ k_ => XS.iload X40.here hx rfl (hb hby d8_145) rfl k_) ?_
  show own_Go p e below _ T40 (mkF m 147 #[.val (.ref d), .val (.int (1 : Int32)), .val (.int (2 : Int32)), .val (.int (6 : Int32)), .val (.int (4 : Int32)), .val (.ref nb5), .val (.int (4 : Int32)), .val (.int (4 : Int32)), .val (.int (4 : Int32))] [(.int (4 : Int32))])
  refine own_st (fun t_ k_ => XS.iload X40.here hx rfl (hb hby d8_147) rfl k_) ?_
  show own_Go p e below _ T40 (mkF m 149 #[.val (.ref d), .val (.int (1 : Int32)), .val (.int (2 : Int32)), .val (.int (6 : Int32)), .val (.int (4 : Int32)), .val (.ref nb5), .val (.int (4 : Int32)), .val (.int (4 : Int32)), .val (.int (4 : Int32))] [(.int (4 : Int32)), (.int (4 : Int32))])
  refine own_st (fun t_ k_ => XS.icmpYes X40.here hx rfl (pc0 := 149) (pc' := 164) rfl (hb hby d8_149) rfl (by decide) (by decide) (by decide) k_) ?_
  show own_Go p e below _ T40 (mkF m 164 #[.val (.ref d), .val (.int (1 : Int32)), .val (.int (2 : Int32)), .val (.int (6 : Int32)), .val (.int (4 : Int32)), .val (.ref nb5), .val (.int (4 : Int32)), .val (.int (4 : Int32)), .val (.int (4 : Int32))] [])
  refine own_ret0 X40 hx hlk Bd.returns (hb hby d8_164) ?_ (by decide) (by decide)
  show QK [d] h0 n0 _ T40.heap _
  rw [e40]
  exact ⟨rfl, N40, K40⟩
def QA0 (Z : State) (r : Option Value) (d t u : Addr) (k : ClassId) (h0 : Heap) (n0 : Nat) (v : Option Value) (h : Heap) (L : List Loc) : Prop := v = r ∧ Fr n0 L ∧ Keep h0 h [d, t] ∧ Exa Z h d "java/util/ArrayDeque" ∧ Fld Z h d "java/util/ArrayDeque" "elements" "[Ljava/lang/Object;" (.ref t) ∧ Fld Z h d "java/util/ArrayDeque" "head" "I" (.int (0 : Int32)) ∧ Fld Z h d "java/util/ArrayDeque" "tail" "I" (.int (1 : Int32)) ∧ Arv Z h t k (.object "java/lang/Object") (2 : Int32) [(.ref u), .null] .null ∧ Exa Z h t "[Ljava/lang/Object;"
def QA1 (r : Option Value) (d t : Addr) (h0 : Heap) (n0 : Nat) (v : Option Value) (h : Heap) (L : List Loc) : Prop := v = r ∧ Fr n0 L ∧ Keep h0 h [d, t]
theorem d9_0 : decode jdk_21_method_13_code 0 = .ok (.aload_n 1, 1) := by decide +kernel
theorem d9_1 : decode jdk_21_method_13_code 1 = .ok (.ifnonnull 11, 3) := by decide +kernel
theorem d9_12 : decode jdk_21_method_13_code 12 = .ok (.aload_n 0, 1) := by decide +kernel
theorem d9_13 : decode jdk_21_method_13_code 13 = .ok (.getfield 3, 3) := by decide +kernel
theorem d9_16 : decode jdk_21_method_13_code 16 = .ok (.astore_n 2, 1) := by decide +kernel
theorem d9_17 : decode jdk_21_method_13_code 17 = .ok (.aload_n 2, 1) := by decide +kernel
theorem d9_18 : decode jdk_21_method_13_code 18 = .ok (.aload_n 0, 1) := by decide +kernel
theorem d9_19 : decode jdk_21_method_13_code 19 = .ok (.getfield 20, 3) := by decide +kernel
theorem d9_22 : decode jdk_21_method_13_code 22 = .ok (.aload_n 1, 1) := by decide +kernel
theorem d9_23 : decode jdk_21_method_13_code 23 = .ok (.aastore, 1) := by decide +kernel
theorem d9_24 : decode jdk_21_method_13_code 24 = .ok (.aload_n 0, 1) := by decide +kernel
theorem d9_25 : decode jdk_21_method_13_code 25 = .ok (.getfield 24, 3) := by decide +kernel
theorem d9_28 : decode jdk_21_method_13_code 28 = .ok (.aload_n 0, 1) := by decide +kernel
theorem d9_29 : decode jdk_21_method_13_code 29 = .ok (.aload_n 0, 1) := by decide +kernel
theorem d9_30 : decode jdk_21_method_13_code 30 = .ok (.getfield 20, 3) := by decide +kernel
theorem d9_33 : decode jdk_21_method_13_code 33 = .ok (.aload_n 2, 1) := by decide +kernel
theorem d9_34 : decode jdk_21_method_13_code 34 = .ok (.arraylength, 1) := by decide +kernel
theorem d9_35 : decode jdk_21_method_13_code 35 = .ok (.invokestatic 74, 3) := by decide +kernel
theorem pd_3 : parseMethodDescriptor "(II)I" = some ⟨[.int, .int], some .int⟩ := by decide +kernel
theorem d9_38 : decode jdk_21_method_13_code 38 = .ok (.dup_x1, 1) := by decide +kernel
theorem d9_39 : decode jdk_21_method_13_code 39 = .ok (.putfield 20, 3) := by decide +kernel
theorem d9_42 : decode jdk_21_method_13_code 42 = .ok (.if_icmp .ne 8, 3) := by decide +kernel
theorem d9_50 : decode jdk_21_method_13_code 50 = .ok (.return_, 1) := by decide +kernel
theorem ef_rmL0 (m : MethodId) (x0 : Addr) (x1 : Addr) : entryFrame m #[(.ref x0), (.ref x1)] 3 = mkF m 0 #[.val (.ref x0), .val (.ref x1), .unset] [] := by first | (simp [entryFrame, mkF, argsToLocals, Value.category]; done) | rfl
set_option maxRecDepth 65536 in
set_option maxHeartbeats 40000000 in
theorem rmL0 (l : Launch) (Z : State) (a0 : Array Value) (hw : ∀ d ∈ tables_1, d.before a0 Z = true) (ws : List Jvm.Cond) (d t u : Addr) (k : ClassId) (h0 : Heap) (n0 : Nat) (Z0 : n0 ≤ h0.size) (hmir : MirrorMade Z "[Ljava/lang/Object;") (g_d : n0 ≤ d) (g_t : n0 ≤ t) (Ed : Exa Z h0 d "java/util/ArrayDeque") (F1 : Fld Z h0 d "java/util/ArrayDeque" "elements" "[Ljava/lang/Object;" (.ref t)) (F2 : Fld Z h0 d "java/util/ArrayDeque" "head" "I" (.int (0 : Int32))) (F3 : Fld Z h0 d "java/util/ArrayDeque" "tail" "I" (.int (0 : Int32))) (Ov : Ovr Z k "java/lang/Object") (Eo : Exa Z h0 t "[Ljava/lang/Object;") (At : Arv Z h0 t k (.object "java/lang/Object") (2 : Int32) [.null, .null] .null) (Eu : Exa Z h0 u "com/example/lean_pubsub/leanpubsub/connection/HeldBack$Held") :
    MetFree l (⟨"java/util/ArrayDeque", "addLast", "(Ljava/lang/Object;)V"⟩ : MethodName) (head1 (Jvm.Cond.code (⟨"java/util/ArrayDeque", "addLast", "(Ljava/lang/Object;)V"⟩ : MethodName) jdk_21_method_13_code 3 none :: ws) ({ frames := 1, cells := 0, slots := 0, locals := 15 } : Room)) (fun a_ U_ => a_ = #[(.ref d), (.ref u)] ∧ Z.Warmed39 U_.vm ∧ U_.heap = h0) (fun _ _ _ _ _ => True) (fun _ U_ o_ U'_ => ∃ v_ L_, o_ = .returned v_ ∧ QA0 Z none d t u k h0 n0 v_ U'_.heap L_ ∧ FrameEnd U_ o_ U'_ L_ ({ frames := 1, cells := 0, slots := 0, locals := 15 } : Room).cells ({ frames := 1, cells := 0, slots := 0, locals := 15 } : Room).slots) := by
  refine MetFree.of_bodySF (plainFor_of_name pn_2) hisR ?_
  intro p e s m args below meth c s₁ Bd hml0 hP hK
  obtain ⟨rfl, hZ, hh⟩ := hP
  have hx := Bd.exec
  have hby := Bd.bytes
  have hml : c.maxLocals = 3 := hml0
  have hown : s.vm.findClass "java/util/ArrayDeque" = some m.cls := findClass_of_methodNamed Bd.named
  have hnm := (name_of_methodNamed Bd.named Bd.method).1
  have hlk := BodyLoose.notSynchronized Bd
  have X0 : Stand p l e ({ frames := 1, cells := 0, slots := 0, locals := 15 } : Room) s m #[(.ref d), (.ref u)] below meth c s₁ [] 0 0 := Stand.of_body Bd
  have e0 : s₁.heap = h0 := by rw [← hh, Bd.state]; rfl
  have N0 := Fr.nil n0
  refine own_entry (P := own_End s (QA0 Z none d t u k h0 n0) ({ frames := 1, cells := 0, slots := 0, locals := 15 } : Room).cells ({ frames := 1, cells := 0, slots := 0, locals := 15 } : Room).slots) (ef_rmL0 m d u) ?_
  show own_Go p e below _ s₁ (mkF m 0 #[.val (.ref d), .val (.ref u), .unset] [])
  refine own_st (fun t_ k_ => XS.aloadN X0.here hx rfl (hb hby d9_0) rfl rfl k_) ?_
  show own_Go p e below _ s₁ (mkF m 1 #[.val (.ref d), .val (.ref u), .unset] [(.ref u)])
  refine own_st (fun t_ k_ => XS.ifnonnullYes X0.here hx rfl (pc0 := 1) (pc' := 12) rfl (hb hby d9_1) rfl (by decide) (by decide) k_) ?_
  show own_Go p e below _ s₁ (mkF m 12 #[.val (.ref d), .val (.ref u), .unset] [])
  refine own_st (fun t_ k_ => XS.aloadN X0.here hx rfl (hb hby d9_12) rfl rfl k_) ?_
  show own_Go p e below _ s₁ (mkF m 13 #[.val (.ref d), .val (.ref u), .unset] [(.ref d)])
  obtain ⟨T1, X1, e1, st1⟩ := getF X0 hx hZ hown (host := "") (Or.inl (hw _ (List.mem_of_getElem? (i := 27) rfl))) Via.refl e0 F1 (g := (mkF m 13 #[.val (.ref d), .val (.ref u), .unset] [(.ref d)])) rfl rfl (hb hby d9_13)
  refine own_st st1 ?_
  show own_Go p e below _ T1 (mkF m 16 #[.val (.ref d), .val (.ref u), .unset] [(.ref t)])
  refine own_st (fun t_ k_ => XS.astoreN X1.here hx rfl (hb hby d9_16) rfl rfl (l' := #[.val (.ref d), .val (.ref u), .val (.ref t)]) rfl k_) ?_
  show own_Go p e below _ T1 (mkF m 17 #[.val (.ref d), .val (.ref u), .val (.ref t)] [])
  refine own_st (fun t_ k_ => XS.aloadN X1.here hx rfl (hb hby d9_17) rfl rfl k_) ?_
  show own_Go p e below _ T1 (mkF m 18 #[.val (.ref d), .val (.ref u), .val (.ref t)] [(.ref t)])
  refine own_st (fun t_ k_ => XS.aloadN X1.here hx rfl (hb hby d9_18) rfl rfl k_) ?_
  show own_Go p e below _ T1 (mkF m 19 #[.val (.ref d), .val (.ref u), .val (.ref t)] [(.ref d), (.ref t)])
  obtain ⟨T2, X2, e2, st2⟩ := getF X1 hx hZ hown (host := "") (Or.inl (hw _ (List.mem_of_getElem? (i := 74) rfl))) Via.refl e1 F3 (g := (mkF m 19 #[.val (.ref d), .val (.ref u), .val (.ref t)] [(.ref d), (.ref t)])) rfl rfl (hb hby d9_19)
  refine own_st st2 ?_
  show own_Go p e below _ T2 (mkF m 22 #[.val (.ref d), .val (.ref u), .val (.ref t)] [(.int (0 : Int32)), (.ref t)])
  refine own_st (fun t_ k_ => XS.aloadN X2.here hx rfl (hb hby d9_22) rfl rfl k_) ?_
  show own_Go p e below _ T2 (mkF m 23 #[.val (.ref d), .val (.ref u), .val (.ref t)] [(.ref u), (.int (0 : Int32)), (.ref t)])
  obtain ⟨cl3, Ar3, q3, S3, N3', H3, G3⟩ := id At
  have hin3 : ¬ ((0 : Int32) < 0 ∨ cl3.slots.size ≤ ((0 : Int32)).toNatClampNeg) := inb_of S3 ⟨by decide, by decide⟩
  obtain ⟨T3, h3, X3, e3, W3, st3⟩ := stR X2 hx hZ e2 Ar3 (j := (0 : Int32)) hin3 rfl (Sto.ofV Ar3 q3 Ov (Ins.of_exa Eu (hw _ (List.mem_of_getElem? (i := 76) rfl)))) (g := (mkF m 23 #[.val (.ref d), .val (.ref u), .val (.ref t)] [(.ref u), (.int (0 : Int32)), (.ref t)])) rfl rfl (hb hby d9_23)
  have V3 : Arv Z h3 t k (.object "java/lang/Object") (2 : Int32) [(.ref u), .null] .null := Arv.set Ar3 q3 S3 N3' H3 G3 rfl W3 0 rfl (Nat.le_of_ble_eq_true rfl)
  refine own_st st3 ?_
  have N3 := Fr.snoc X3 N0 g_t
  have K3 : Keep h0 h3 [d, t] := (Keep.refl h0 [d, t]).wr W3 (Or.inl (List.mem_of_getElem? (i := 1) rfl))
  show own_Go p e below _ T3 (mkF m 24 #[.val (.ref d), .val (.ref u), .val (.ref t)] [])
  refine own_st (fun t_ k_ => XS.aloadN X3.here hx rfl (hb hby d9_24) rfl rfl k_) ?_
  show own_Go p e below _ T3 (mkF m 25 #[.val (.ref d), .val (.ref u), .val (.ref t)] [(.ref d)])
  have ne4 : d ≠ t := (Exa.ne Ed Eo (by decide))
  have f5 := (Fld.other W3 F2 (Or.inl ne4))
  obtain ⟨T6, X6, e6, st6⟩ := getF X3 hx hZ hown (host := "") (Or.inl (hw _ (List.mem_of_getElem? (i := 77) rfl))) Via.refl e3 f5 (g := (mkF m 25 #[.val (.ref d), .val (.ref u), .val (.ref t)] [(.ref d)])) rfl rfl (hb hby d9_25)
  refine own_st st6 ?_
  show own_Go p e below _ T6 (mkF m 28 #[.val (.ref d), .val (.ref u), .val (.ref t)] [(.int (0 : Int32))])
  refine own_st (fun t_ k_ => XS.aloadN X6.here hx rfl (hb hby d9_28) rfl rfl k_) ?_
  show own_Go p e below _ T6 (mkF m 29 #[.val (.ref d), .val (.ref u), .val (.ref t)] [(.ref d), (.int (0 : Int32))])
  refine own_st (fun t_ k_ => XS.aloadN X6.here hx rfl (hb hby d9_29) rfl rfl k_) ?_
  show own_Go p e below _ T6 (mkF m 30 #[.val (.ref d), .val (.ref u), .val (.ref t)] [(.ref d), (.ref d), (.int (0 : Int32))])
  have f7 := (Fld.other W3 F3 (Or.inl ne4))
  obtain ⟨T8, X8, e8, st8⟩ := getF X6 hx hZ hown (host := "") (Or.inl (hw _ (List.mem_of_getElem? (i := 74) rfl))) Via.refl e6 f7 (g := (mkF m 30 #[.val (.ref d), .val (.ref u), .val (.ref t)] [(.ref d), (.ref d), (.int (0 : Int32))])) rfl rfl (hb hby d9_30)
  refine own_st st8 ?_
  show own_Go p e below _ T8 (mkF m 33 #[.val (.ref d), .val (.ref u), .val (.ref t)] [(.int (0 : Int32)), (.ref d), (.int (0 : Int32))])
  refine own_st (fun t_ k_ => XS.aloadN X8.here hx rfl (hb hby d9_33) rfl rfl k_) ?_
  show own_Go p e below _ T8 (mkF m 34 #[.val (.ref d), .val (.ref u), .val (.ref t)] [(.ref t), (.int (0 : Int32)), (.ref d), (.int (0 : Int32))])
  obtain ⟨cl9, Ar9, -, S9, N9', -, -⟩ := id V3
  refine own_st (fun t_ k_ => X8.arraylength hx (by rw [e8]; exact Ar9.1) (State.isArrayOf_alike hZ.alike Ar9.2.1) (g := (mkF m 34 #[.val (.ref d), .val (.ref u), .val (.ref t)] [(.ref t), (.int (0 : Int32)), (.ref d), (.int (0 : Int32))])) rfl rfl (hb hby d9_34) t_ k_) ?_
  rw [len_of S9 N9']
  show own_Go p e below _ T8 (mkF m 35 #[.val (.ref d), .val (.ref u), .val (.ref t)] [(.int (2 : Int32)), (.int (0 : Int32)), (.ref d), (.int (0 : Int32))])
  refine own_callS X8 hx (y := (⟨"java/util/ArrayDeque", "inc", "(II)I"⟩ : MethodName)) hown (mvT hZ (hw _ (List.mem_of_getElem? (i := 79) rfl))) (mvT hZ (hw _ (List.mem_of_getElem? (i := 80) rfl))) (mvT hZ (hw _ (List.mem_of_getElem? (i := 13) rfl))) (mvT hZ (hw _ (List.mem_of_getElem? (i := 81) rfl))) (by decide) (backOf (W := 2) (rmIN0 l Z a0 hw [] h3 n0 (Nat.le_trans Z0 K3.1)) hZ (hw _ (List.mem_of_getElem? (i := 81) rfl)) (hw _ (List.mem_of_getElem? (i := 13) rfl)) (by decide) (by decide)) (g := (mkF m 35 #[.val (.ref d), .val (.ref u), .val (.ref t)] [(.int (2 : Int32)), (.int (0 : Int32)), (.ref d), (.int (0 : Int32))])) rfl (by rw [hml]; rfl) (argsL := [(.int (0 : Int32)), (.int (2 : Int32))]) (rest := [(.ref d), (.int (0 : Int32))]) (lenOf pd_3 rfl) rfl (by show 2 * 0 + _ ≤ _; exact Nat.le_of_eq rfl) (hb hby d9_35) rfl e8 (by decide) (by decide) ?_
  rintro v10 T10 L10 X10 ⟨rfl, Nq10, hh10⟩
  have N10 := Fr.app N3 Nq10
  show own_Go p e below _ T10 (mkF m 38 #[.val (.ref d), .val (.ref u), .val (.ref t)] [(.int (1 : Int32)), (.ref d), (.int (0 : Int32))])
  refine own_st (fun t_ k_ => XS.dupX1 X10.here hx rfl (hb hby d9_38) rfl rfl rfl k_) ?_
  show own_Go p e below _ T10 (mkF m 39 #[.val (.ref d), .val (.ref u), .val (.ref t)] [(.int (1 : Int32)), (.ref d), (.int (1 : Int32)), (.int (0 : Int32))])
  have f12 := (Exa.wr W3 Ed)
  obtain ⟨T11, h11, X11, e11, W11, st11⟩ := putF X10 hx hZ hown (host := "") (Or.inl (hw _ (List.mem_of_getElem? (i := 74) rfl))) Via.refl hh10 f7 f12 (Or.inl (hw _ (List.mem_of_getElem? (i := 75) rfl))) (hw _ (List.mem_of_getElem? (i := 12) rfl)) (ty := .int) (by decide) rfl rfl (g := (mkF m 39 #[.val (.ref d), .val (.ref u), .val (.ref t)] [(.int (1 : Int32)), (.ref d), (.int (1 : Int32)), (.int (0 : Int32))])) rfl rfl (hb hby d9_39)
  refine own_st st11 ?_
  have N11 := Fr.snoc X11 N10 g_d
  have K11 : Keep h0 h11 [d, t] := K3.wr W11 (Or.inl (List.mem_of_getElem? (i := 0) rfl))
  have Fw11 := Fld.same W11 f7
  show own_Go p e below _ T11 (mkF m 42 #[.val (.ref d), .val (.ref u), .val (.ref t)] [(.int (1 : Int32)), (.int (0 : Int32))])
  refine own_st (fun t_ k_ => XS.icmpYes X11.here hx rfl (pc0 := 42) (pc' := 50) rfl (hb hby d9_42) rfl (by decide) (by decide) (by decide) k_) ?_
  show own_Go p e below _ T11 (mkF m 50 #[.val (.ref d), .val (.ref u), .val (.ref t)] [])
  have f13 := (Exa.wr W11 f12)
  have f14 := (Fld.other W3 F1 (Or.inl ne4))
  have f15 := (Fld.other W11 f14 (Or.inr (slot_ne (Or.inl (hw _ (List.mem_of_getElem? (i := 28) rfl))) (Or.inl (hw _ (List.mem_of_getElem? (i := 75) rfl))) (by decide) (t := (.array (.object "java/lang/Object"))) (t' := .int) (by decide) (by decide))))
  have f16 := (Fld.other W11 f5 (Or.inr (slot_ne (Or.inl (hw _ (List.mem_of_getElem? (i := 78) rfl))) (Or.inl (hw _ (List.mem_of_getElem? (i := 75) rfl))) (by decide) (t := .int) (t' := .int) (by decide) (by decide))))
  have f17 := (V3.other W11 (Ne.symm ne4))
  have f18 := (Exa.wr W3 Eo)
  have f19 := (Exa.wr W11 f18)
  refine own_ret0 X11 hx hlk Bd.returns (hb hby d9_50) ?_ (by decide) (by decide)
  show QA0 Z none d t u k h0 n0 _ T11.heap _
  rw [e11]
  exact ⟨rfl, N11, K11, f13, f15, f16, Fw11, f17, f19⟩
theorem d9_45 : decode jdk_21_method_13_code 45 = .ok (.aload_n 0, 1) := by decide +kernel
theorem d9_46 : decode jdk_21_method_13_code 46 = .ok (.iconst 1, 1) := by decide +kernel
theorem d9_47 : decode jdk_21_method_13_code 47 = .ok (.invokevirtual 71, 3) := by decide +kernel
theorem ef_rmL1 (m : MethodId) (x0 : Addr) (x1 : Addr) : entryFrame m #[(.ref x0), (.ref x1)] 3 = mkF m 0 #[.val (.ref x0), .val (.ref x1), .unset] [] := by first | (simp [entryFrame, mkF, argsToLocals, Value.category]; done) | rfl
set_option maxRecDepth 65536 in
set_option maxHeartbeats 40000000 in
theorem rmL1 (l : Launch) (Z : State) (a0 : Array Value) (hw : ∀ d ∈ tables_1, d.before a0 Z = true) (ws : List Jvm.Cond) (d t u0 u : Addr) (k : ClassId) (h0 : Heap) (n0 : Nat) (Z0 : n0 ≤ h0.size) (hmir : MirrorMade Z "[Ljava/lang/Object;") (g_d : n0 ≤ d) (g_t : n0 ≤ t) (Ed : Exa Z h0 d "java/util/ArrayDeque") (F1 : Fld Z h0 d "java/util/ArrayDeque" "elements" "[Ljava/lang/Object;" (.ref t)) (F2 : Fld Z h0 d "java/util/ArrayDeque" "head" "I" (.int (0 : Int32))) (F3 : Fld Z h0 d "java/util/ArrayDeque" "tail" "I" (.int (1 : Int32))) (Ov : Ovr Z k "java/lang/Object") (Eo : Exa Z h0 t "[Ljava/lang/Object;") (At : Arv Z h0 t k (.object "java/lang/Object") (2 : Int32) [(.ref u0), .null] .null) (E0 : Exa Z h0 u0 "com/example/lean_pubsub/leanpubsub/connection/HeldBack$Held") (Eu : Exa Z h0 u "com/example/lean_pubsub/leanpubsub/connection/HeldBack$Held") :
    MetFree l (⟨"java/util/ArrayDeque", "addLast", "(Ljava/lang/Object;)V"⟩ : MethodName) (head1 (Jvm.Cond.code (⟨"java/util/ArrayDeque", "addLast", "(Ljava/lang/Object;)V"⟩ : MethodName) jdk_21_method_13_code 3 none :: ws) ({ frames := 5, cells := 1, slots := 6, locals := 98 } : Room)) (fun a_ U_ => a_ = #[(.ref d), (.ref u)] ∧ Z.Warmed39 U_.vm ∧ U_.heap = h0) (fun _ _ _ _ _ => True) (fun _ U_ o_ U'_ => ∃ v_ L_, o_ = .returned v_ ∧ QA1 none d t h0 n0 v_ U'_.heap L_ ∧ FrameEnd U_ o_ U'_ L_ ({ frames := 5, cells := 1, slots := 6, locals := 98 } : Room).cells ({ frames := 5, cells := 1, slots := 6, locals := 98 } : Room).slots) := by
  refine MetFree.of_bodySF (plainFor_of_name pn_2) hisR ?_
  intro p e s m args below meth c s₁ Bd hml0 hP hK
  obtain ⟨rfl, hZ, hh⟩ := hP
  have hx := Bd.exec
  have hby := Bd.bytes
  have hml : c.maxLocals = 3 := hml0
  have hown : s.vm.findClass "java/util/ArrayDeque" = some m.cls := findClass_of_methodNamed Bd.named
  have hnm := (name_of_methodNamed Bd.named Bd.method).1
  have hlk := BodyLoose.notSynchronized Bd
  have X0 : Stand p l e ({ frames := 5, cells := 1, slots := 6, locals := 98 } : Room) s m #[(.ref d), (.ref u)] below meth c s₁ [] 0 0 := Stand.of_body Bd
  have e0 : s₁.heap = h0 := by rw [← hh, Bd.state]; rfl
  have N0 := Fr.nil n0
  refine own_entry (P := own_End s (QA1 none d t h0 n0) ({ frames := 5, cells := 1, slots := 6, locals := 98 } : Room).cells ({ frames := 5, cells := 1, slots := 6, locals := 98 } : Room).slots) (ef_rmL1 m d u) ?_
  show own_Go p e below _ s₁ (mkF m 0 #[.val (.ref d), .val (.ref u), .unset] [])
  refine own_st (fun t_ k_ => XS.aloadN X0.here hx rfl (hb hby d9_0) rfl rfl k_) ?_
  show own_Go p e below _ s₁ (mkF m 1 #[.val (.ref d), .val (.ref u), .unset] [(.ref u)])
  refine own_st (fun t_ k_ => XS.ifnonnullYes X0.here hx rfl (pc0 := 1) (pc' := 12) rfl (hb hby d9_1) rfl (by decide) (by decide) k_) ?_
  show own_Go p e below _ s₁ (mkF m 12 #[.val (.ref d), .val (.ref u), .unset] [])
  refine own_st (fun t_ k_ => XS.aloadN X0.here hx rfl (hb hby d9_12) rfl rfl k_) ?_
  show own_Go p e below _ s₁ (mkF m 13 #[.val (.ref d), .val (.ref u), .unset] [(.ref d)])
  obtain ⟨T1, X1, e1, st1⟩ := getF X0 hx hZ hown (host := "") (Or.inl (hw _ (List.mem_of_getElem? (i := 27) rfl))) Via.refl e0 F1 (g := (mkF m 13 #[.val (.ref d), .val (.ref u), .unset] [(.ref d)])) rfl rfl (hb hby d9_13)
  refine own_st st1 ?_
  show own_Go p e below _ T1 (mkF m 16 #[.val (.ref d), .val (.ref u), .unset] [(.ref t)])
  refine own_st (fun t_ k_ => XS.astoreN X1.here hx rfl (hb hby d9_16) rfl rfl (l' := #[.val (.ref d), .val (.ref u), .val (.ref t)]) rfl k_) ?_
  show own_Go p e below _ T1 (mkF m 17 #[.val (.ref d), .val (.ref u), .val (.ref t)] [])
  refine own_st (fun t_ k_ => XS.aloadN X1.here hx rfl (hb hby d9_17) rfl rfl k_) ?_
  show own_Go p e below _ T1 (mkF m 18 #[.val (.ref d), .val (.ref u), .val (.ref t)] [(.ref t)])
  refine own_st (fun t_ k_ => XS.aloadN X1.here hx rfl (hb hby d9_18) rfl rfl k_) ?_
  show own_Go p e below _ T1 (mkF m 19 #[.val (.ref d), .val (.ref u), .val (.ref t)] [(.ref d), (.ref t)])
  obtain ⟨T2, X2, e2, st2⟩ := getF X1 hx hZ hown (host := "") (Or.inl (hw _ (List.mem_of_getElem? (i := 74) rfl))) Via.refl e1 F3 (g := (mkF m 19 #[.val (.ref d), .val (.ref u), .val (.ref t)] [(.ref d), (.ref t)])) rfl rfl (hb hby d9_19)
  refine own_st st2 ?_
  show own_Go p e below _ T2 (mkF m 22 #[.val (.ref d), .val (.ref u), .val (.ref t)] [(.int (1 : Int32)), (.ref t)])
  refine own_st (fun t_ k_ => XS.aloadN X2.here hx rfl (hb hby d9_22) rfl rfl k_) ?_
  show own_Go p e below _ T2 (mkF m 23 #[.val (.ref d), .val (.ref u), .val (.ref t)] [(.ref u), (.int (1 : Int32)), (.ref t)])
  obtain ⟨cl3, Ar3, q3, S3, N3', H3, G3⟩ := id At
  have hin3 : ¬ ((1 : Int32) < 0 ∨ cl3.slots.size ≤ ((1 : Int32)).toNatClampNeg) := inb_of S3 ⟨by decide, by decide⟩
  obtain ⟨T3, h3, X3, e3, W3, st3⟩ := stR X2 hx hZ e2 Ar3 (j := (1 : Int32)) hin3 rfl (Sto.ofV Ar3 q3 Ov (Ins.of_exa Eu (hw _ (List.mem_of_getElem? (i := 76) rfl)))) (g := (mkF m 23 #[.val (.ref d), .val (.ref u), .val (.ref t)] [(.ref u), (.int (1 : Int32)), (.ref t)])) rfl rfl (hb hby d9_23)
  have V3 : Arv Z h3 t k (.object "java/lang/Object") (2 : Int32) [(.ref u0), (.ref u)] .null := Arv.set Ar3 q3 S3 N3' H3 G3 rfl W3 1 rfl (Nat.le_of_ble_eq_true rfl)
  refine own_st st3 ?_
  have N3 := Fr.snoc X3 N0 g_t
  have K3 : Keep h0 h3 [d, t] := (Keep.refl h0 [d, t]).wr W3 (Or.inl (List.mem_of_getElem? (i := 1) rfl))
  show own_Go p e below _ T3 (mkF m 24 #[.val (.ref d), .val (.ref u), .val (.ref t)] [])
  refine own_st (fun t_ k_ => XS.aloadN X3.here hx rfl (hb hby d9_24) rfl rfl k_) ?_
  show own_Go p e below _ T3 (mkF m 25 #[.val (.ref d), .val (.ref u), .val (.ref t)] [(.ref d)])
  have ne4 : d ≠ t := (Exa.ne Ed Eo (by decide))
  have f5 := (Fld.other W3 F2 (Or.inl ne4))
  obtain ⟨T6, X6, e6, st6⟩ := getF X3 hx hZ hown (host := "") (Or.inl (hw _ (List.mem_of_getElem? (i := 77) rfl))) Via.refl e3 f5 (g := (mkF m 25 #[.val (.ref d), .val (.ref u), .val (.ref t)] [(.ref d)])) rfl rfl (hb hby d9_25)
  refine own_st st6 ?_
  show own_Go p e below _ T6 (mkF m 28 #[.val (.ref d), .val (.ref u), .val (.ref t)] [(.int (0 : Int32))])
  refine own_st (fun t_ k_ => XS.aloadN X6.here hx rfl (hb hby d9_28) rfl rfl k_) ?_
  show own_Go p e below _ T6 (mkF m 29 #[.val (.ref d), .val (.ref u), .val (.ref t)] [(.ref d), (.int (0 : Int32))])
  refine own_st (fun t_ k_ => XS.aloadN X6.here hx rfl (hb hby d9_29) rfl rfl k_) ?_
  show own_Go p e below _ T6 (mkF m 30 #[.val (.ref d), .val (.ref u), .val (.ref t)] [(.ref d), (.ref d), (.int (0 : Int32))])
  have f7 := (Fld.other W3 F3 (Or.inl ne4))
  obtain ⟨T8, X8, e8, st8⟩ := getF X6 hx hZ hown (host := "") (Or.inl (hw _ (List.mem_of_getElem? (i := 74) rfl))) Via.refl e6 f7 (g := (mkF m 30 #[.val (.ref d), .val (.ref u), .val (.ref t)] [(.ref d), (.ref d), (.int (0 : Int32))])) rfl rfl (hb hby d9_30)
  refine own_st st8 ?_
  show own_Go p e below _ T8 (mkF m 33 #[.val (.ref d), .val (.ref u), .val (.ref t)] [(.int (1 : Int32)), (.ref d), (.int (0 : Int32))])
  refine own_st (fun t_ k_ => XS.aloadN X8.here hx rfl (hb hby d9_33) rfl rfl k_) ?_
  show own_Go p e below _ T8 (mkF m 34 #[.val (.ref d), .val (.ref u), .val (.ref t)] [(.ref t), (.int (1 : Int32)), (.ref d), (.int (0 : Int32))])
  obtain ⟨cl9, Ar9, -, S9, N9', -, -⟩ := id V3
  refine own_st (fun t_ k_ => X8.arraylength hx (by rw [e8]; exact Ar9.1) (State.isArrayOf_alike hZ.alike Ar9.2.1) (g := (mkF m 34 #[.val (.ref d), .val (.ref u), .val (.ref t)] [(.ref t), (.int (1 : Int32)), (.ref d), (.int (0 : Int32))])) rfl rfl (hb hby d9_34) t_ k_) ?_
  rw [len_of S9 N9']
  show own_Go p e below _ T8 (mkF m 35 #[.val (.ref d), .val (.ref u), .val (.ref t)] [(.int (2 : Int32)), (.int (1 : Int32)), (.ref d), (.int (0 : Int32))])
  refine own_callS X8 hx (y := (⟨"java/util/ArrayDeque", "inc", "(II)I"⟩ : MethodName)) hown (mvT hZ (hw _ (List.mem_of_getElem? (i := 79) rfl))) (mvT hZ (hw _ (List.mem_of_getElem? (i := 80) rfl))) (mvT hZ (hw _ (List.mem_of_getElem? (i := 13) rfl))) (mvT hZ (hw _ (List.mem_of_getElem? (i := 81) rfl))) (by decide) (backOf (W := 2) (rmIN1 l Z a0 hw [] h3 n0 (Nat.le_trans Z0 K3.1)) hZ (hw _ (List.mem_of_getElem? (i := 81) rfl)) (hw _ (List.mem_of_getElem? (i := 13) rfl)) (by decide) (by decide)) (g := (mkF m 35 #[.val (.ref d), .val (.ref u), .val (.ref t)] [(.int (2 : Int32)), (.int (1 : Int32)), (.ref d), (.int (0 : Int32))])) rfl (by rw [hml]; rfl) (argsL := [(.int (1 : Int32)), (.int (2 : Int32))]) (rest := [(.ref d), (.int (0 : Int32))]) (lenOf pd_3 rfl) rfl (by show 2 * 0 + _ ≤ _; exact Nat.le_of_eq rfl) (hb hby d9_35) rfl e8 (by decide) (by decide) ?_
  rintro v10 T10 L10 X10 ⟨rfl, Nq10, hh10⟩
  have N10 := Fr.app N3 Nq10
  show own_Go p e below _ T10 (mkF m 38 #[.val (.ref d), .val (.ref u), .val (.ref t)] [(.int (0 : Int32)), (.ref d), (.int (0 : Int32))])
  refine own_st (fun t_ k_ => XS.dupX1 X10.here hx rfl (hb hby d9_38) rfl rfl rfl k_) ?_
  show own_Go p e below _ T10 (mkF m 39 #[.val (.ref d), .val (.ref u), .val (.ref t)] [(.int (0 : Int32)), (.ref d), (.int (0 : Int32)), (.int (0 : Int32))])
  have f12 := (Exa.wr W3 Ed)
  obtain ⟨T11, h11, X11, e11, W11, st11⟩ := putF X10 hx hZ hown (host := "") (Or.inl (hw _ (List.mem_of_getElem? (i := 74) rfl))) Via.refl hh10 f7 f12 (Or.inl (hw _ (List.mem_of_getElem? (i := 75) rfl))) (hw _ (List.mem_of_getElem? (i := 12) rfl)) (ty := .int) (by decide) rfl rfl (g := (mkF m 39 #[.val (.ref d), .val (.ref u), .val (.ref t)] [(.int (0 : Int32)), (.ref d), (.int (0 : Int32)), (.int (0 : Int32))])) rfl rfl (hb hby d9_39)
  refine own_st st11 ?_
  have N11 := Fr.snoc X11 N10 g_d
  have K11 : Keep h0 h11 [d, t] := K3.wr W11 (Or.inl (List.mem_of_getElem? (i := 0) rfl))
  have Fw11 := Fld.same W11 f7
  show own_Go p e below _ T11 (mkF m 42 #[.val (.ref d), .val (.ref u), .val (.ref t)] [(.int (0 : Int32)), (.int (0 : Int32))])
  refine own_st (fun t_ k_ => XS.icmpNo X11.here hx rfl (hb hby d9_42) rfl (by decide) k_) ?_
  show own_Go p e below _ T11 (mkF m 45 #[.val (.ref d), .val (.ref u), .val (.ref t)] [])
  refine own_st (fun t_ k_ => XS.aloadN X11.here hx rfl (hb hby d9_45) rfl rfl k_) ?_
  show own_Go p e below _ T11 (mkF m 46 #[.val (.ref d), .val (.ref u), .val (.ref t)] [(.ref d)])
  refine own_st (fun t_ k_ => XS.iconst X11.here hx rfl (hb hby d9_46) k_) ?_
  show own_Go p e below _ T11 (mkF m 47 #[.val (.ref d), .val (.ref u), .val (.ref t)] [(.int (1 : Int32)), (.ref d)])
  have f13 := (Fld.other W3 F1 (Or.inl ne4))
  have f14 := (Fld.other W11 f13 (Or.inr (slot_ne (Or.inl (hw _ (List.mem_of_getElem? (i := 28) rfl))) (Or.inl (hw _ (List.mem_of_getElem? (i := 75) rfl))) (by decide) (t := (.array (.object "java/lang/Object"))) (t' := .int) (by decide) (by decide))))
  have f15 := (Exa.wr W11 f12)
  have f16 := (Fld.other W11 f5 (Or.inr (slot_ne (Or.inl (hw _ (List.mem_of_getElem? (i := 78) rfl))) (Or.inl (hw _ (List.mem_of_getElem? (i := 75) rfl))) (by decide) (t := .int) (t' := .int) (by decide) (by decide))))
  have f17 := (Exa.wr W3 Eo)
  have f18 := (Exa.wr W11 f17)
  have f19 := (V3.other W11 (Ne.symm ne4))
  have f20 := (Exa.wr W3 E0)
  have f21 := (Exa.wr W11 f20)
  have f22 := (Exa.wr W3 Eu)
  have f23 := (Exa.wr W11 f22)
  obtain ⟨cq25, q25, q25'⟩ := f15.cell
  refine own_callP X11 hx (y := (⟨"java/util/ArrayDeque", "grow", "(I)V"⟩ : MethodName)) hown (mvT hZ (hw _ (List.mem_of_getElem? (i := 83) rfl))) (mvT hZ (hw _ (List.mem_of_getElem? (i := 84) rfl))) (mvT hZ (hw _ (List.mem_of_getElem? (i := 86) rfl))) (Cond.privateMethod_at (mvP hZ (hw _ (List.mem_of_getElem? (i := 85) rfl)) (args := #[]))) (mvT hZ (hw _ (List.mem_of_getElem? (i := 87) rfl))) (by decide) (backOf (W := 0) (rmGR l Z a0 hw [] d t u0 u k h11 n0 (Nat.le_trans Z0 K11.1) hmir g_d g_t f15 f14 f16 Fw11 Ov f18 f19 f21 f23) hZ (hw _ (List.mem_of_getElem? (i := 87) rfl)) (hw _ (List.mem_of_getElem? (i := 13) rfl)) (by decide) (by decide)) (a := d) (by rw [e11]; exact q25) q25' (g := (mkF m 47 #[.val (.ref d), .val (.ref u), .val (.ref t)] [(.int (1 : Int32)), (.ref d)])) rfl (by rw [hml]; rfl) (argsL := [(.int (1 : Int32))]) (rest := []) (lenOf pd_1 rfl) rfl (by show 2 * 0 + _ ≤ _; exact Nat.le_of_eq rfl) (hb hby d9_47) rfl e11 (by decide) (by decide) ?_
  rintro v24 T24 L24 X24 ⟨rfl, Nq24, Kq24⟩
  have N24 := Fr.app N11 Nq24
  have K24 : Keep h0 T24.heap [d, t] := K11.trans Kq24 (allS (Or.inl (List.mem_of_getElem? (i := 0) rfl)) all0)
  show own_Go p e below _ T24 (mkF m 50 #[.val (.ref d), .val (.ref u), .val (.ref t)] [])
  refine own_ret0 X24 hx hlk Bd.returns (hb hby d9_50) ?_ (by decide) (by decide)
  show QA1 none d t h0 n0 _ T24.heap _
  exact ⟨rfl, N24, K24⟩
theorem d10_0 : decode jdk_21_method_28_code 0 = .ok (.aload_n 0, 1) := by decide +kernel
theorem d10_1 : decode jdk_21_method_28_code 1 = .ok (.aload_n 1, 1) := by decide +kernel
theorem d10_2 : decode jdk_21_method_28_code 2 = .ok (.invokevirtual 90, 3) := by decide +kernel
theorem pd_4 : parseMethodDescriptor "(Ljava/lang/Object;)V" = some ⟨[(.object "java/lang/Object")], none⟩ := by decide +kernel
theorem d10_5 : decode jdk_21_method_28_code 5 = .ok (.iconst 1, 1) := by decide +kernel
theorem d10_6 : decode jdk_21_method_28_code 6 = .ok (.ireturn, 1) := by decide +kernel
theorem ef_rmA0 (m : MethodId) (x0 : Addr) (x1 : Addr) : entryFrame m #[(.ref x0), (.ref x1)] 2 = mkF m 0 #[.val (.ref x0), .val (.ref x1)] [] := by first | (simp [entryFrame, mkF, argsToLocals, Value.category]; done) | rfl
set_option maxRecDepth 65536 in
set_option maxHeartbeats 40000000 in
theorem rmA0 (l : Launch) (Z : State) (a0 : Array Value) (hw : ∀ d ∈ tables_1, d.before a0 Z = true) (ws : List Jvm.Cond) (d t u : Addr) (k : ClassId) (h0 : Heap) (n0 : Nat) (Z0 : n0 ≤ h0.size) (hmir : MirrorMade Z "[Ljava/lang/Object;") (g_d : n0 ≤ d) (g_t : n0 ≤ t) (Ed : Exa Z h0 d "java/util/ArrayDeque") (F1 : Fld Z h0 d "java/util/ArrayDeque" "elements" "[Ljava/lang/Object;" (.ref t)) (F2 : Fld Z h0 d "java/util/ArrayDeque" "head" "I" (.int (0 : Int32))) (F3 : Fld Z h0 d "java/util/ArrayDeque" "tail" "I" (.int (0 : Int32))) (Ov : Ovr Z k "java/lang/Object") (Eo : Exa Z h0 t "[Ljava/lang/Object;") (At : Arv Z h0 t k (.object "java/lang/Object") (2 : Int32) [.null, .null] .null) (Eu : Exa Z h0 u "com/example/lean_pubsub/leanpubsub/connection/HeldBack$Held") :
    MetFree l (⟨"java/util/ArrayDeque", "add", "(Ljava/lang/Object;)Z"⟩ : MethodName) (head1 (Jvm.Cond.code (⟨"java/util/ArrayDeque", "add", "(Ljava/lang/Object;)Z"⟩ : MethodName) jdk_21_method_28_code 2 (some .boolean) :: ws) ({ frames := 2, cells := 0, slots := 0, locals := 29 } : Room)) (fun a_ U_ => a_ = #[(.ref d), (.ref u)] ∧ Z.Warmed39 U_.vm ∧ U_.heap = h0) (fun _ _ _ _ _ => True) (fun _ U_ o_ U'_ => ∃ v_ L_, o_ = .returned v_ ∧ QA0 Z (some (.int 1)) d t u k h0 n0 v_ U'_.heap L_ ∧ FrameEnd U_ o_ U'_ L_ ({ frames := 2, cells := 0, slots := 0, locals := 29 } : Room).cells ({ frames := 2, cells := 0, slots := 0, locals := 29 } : Room).slots) := by
  refine MetFree.of_bodySF (plainFor_of_name pn_2) hisR ?_
  intro p e s m args below meth c s₁ Bd hml0 hP hK
  obtain ⟨rfl, hZ, hh⟩ := hP
  have hx := Bd.exec
  have hby := Bd.bytes
  have hml : c.maxLocals = 2 := hml0
  have hown : s.vm.findClass "java/util/ArrayDeque" = some m.cls := findClass_of_methodNamed Bd.named
  have hnm := (name_of_methodNamed Bd.named Bd.method).1
  have hlk := BodyLoose.notSynchronized Bd
  have X0 : Stand p l e ({ frames := 2, cells := 0, slots := 0, locals := 29 } : Room) s m #[(.ref d), (.ref u)] below meth c s₁ [] 0 0 := Stand.of_body Bd
  have e0 : s₁.heap = h0 := by rw [← hh, Bd.state]; rfl
  have N0 := Fr.nil n0
  refine own_entry (P := own_End s (QA0 Z (some (.int 1)) d t u k h0 n0) ({ frames := 2, cells := 0, slots := 0, locals := 29 } : Room).cells ({ frames := 2, cells := 0, slots := 0, locals := 29 } : Room).slots) (ef_rmA0 m d u) ?_
  show own_Go p e below _ s₁ (mkF m 0 #[.val (.ref d), .val (.ref u)] [])
  refine own_st (fun t_ k_ => XS.aloadN X0.here hx rfl (hb hby d10_0) rfl rfl k_) ?_
  show own_Go p e below _ s₁ (mkF m 1 #[.val (.ref d), .val (.ref u)] [(.ref d)])
  refine own_st (fun t_ k_ => XS.aloadN X0.here hx rfl (hb hby d10_1) rfl rfl k_) ?_
  show own_Go p e below _ s₁ (mkF m 2 #[.val (.ref d), .val (.ref u)] [(.ref u), (.ref d)])
  obtain ⟨cq2, kq2, q2a, q2b, q2c⟩ := isOf hZ e0 Ed
  refine own_callV X0 hx (y := (⟨"java/util/ArrayDeque", "addLast", "(Ljava/lang/Object;)V"⟩ : MethodName)) (z := (⟨"java/util/ArrayDeque", "addLast", "(Ljava/lang/Object;)V"⟩ : MethodName)) hown (mvT hZ (hw _ (List.mem_of_getElem? (i := 69) rfl))) (mvT hZ (hw _ (List.mem_of_getElem? (i := 70) rfl))) (notFace_of_selects (args := #[]) (mvT hZ (hw _ (List.mem_of_getElem? (i := 72) rfl)))) (mvT hZ (hw _ (List.mem_of_getElem? (i := 72) rfl))) (mvT hZ (hw _ (List.mem_of_getElem? (i := 71) rfl))) (by decide) (backOf (W := 0) (rmL0 l Z a0 hw [] d t u k h0 n0 (Nat.le_trans Z0 (Keep.refl h0 [d, t]).1) hmir g_d g_t Ed F1 F2 F3 Ov Eo At Eu) hZ (hw _ (List.mem_of_getElem? (i := 73) rfl)) (hw _ (List.mem_of_getElem? (i := 13) rfl)) (by decide) (by decide)) q2a q2c (g := (mkF m 2 #[.val (.ref d), .val (.ref u)] [(.ref u), (.ref d)])) rfl (by rw [hml]; rfl) (argsL := [(.ref u)]) (rest := []) (lenOf pd_4 rfl) rfl (by show 2 * 0 + _ ≤ _; exact Nat.le_of_eq rfl) (hb hby d10_2) rfl e0 (by decide) (by decide) ?_
  rintro v1 T1 L1 X1 ⟨rfl, Nq1, Kq1, Eq1, F1_1, F2_1, F3_1, Aq1, Eo1⟩
  have N1 := Fr.app N0 Nq1
  have K1 : Keep h0 T1.heap [d, t] := (Keep.refl h0 [d, t]).trans Kq1 (allS (Or.inl (List.mem_of_getElem? (i := 0) rfl)) (allS (Or.inl (List.mem_of_getElem? (i := 1) rfl)) all0))
  show own_Go p e below _ T1 (mkF m 5 #[.val (.ref d), .val (.ref u)] [])
  refine own_st (fun t_ k_ => XS.iconst X1.here hx rfl (hb hby d10_5) k_) ?_
  show own_Go p e below _ T1 (mkF m 6 #[.val (.ref d), .val (.ref u)] [(.int (1 : Int32))])
  refine own_retN X1 hx hlk (t := .boolean) Bd.returns (by simp) (hb hby d10_6) ?_ (by decide) (by decide)
  show QA0 Z (some (.int 1)) d t u k h0 n0 _ T1.heap _
  exact ⟨rfl, N1, K1, Eq1, F1_1, F2_1, F3_1, Aq1, Eo1⟩
theorem ef_rmA1 (m : MethodId) (x0 : Addr) (x1 : Addr) : entryFrame m #[(.ref x0), (.ref x1)] 2 = mkF m 0 #[.val (.ref x0), .val (.ref x1)] [] := by first | (simp [entryFrame, mkF, argsToLocals, Value.category]; done) | rfl
set_option maxRecDepth 65536 in
set_option maxHeartbeats 40000000 in
theorem rmA1 (l : Launch) (Z : State) (a0 : Array Value) (hw : ∀ d ∈ tables_1, d.before a0 Z = true) (ws : List Jvm.Cond) (d t u0 u : Addr) (k : ClassId) (h0 : Heap) (n0 : Nat) (Z0 : n0 ≤ h0.size) (hmir : MirrorMade Z "[Ljava/lang/Object;") (g_d : n0 ≤ d) (g_t : n0 ≤ t) (Ed : Exa Z h0 d "java/util/ArrayDeque") (F1 : Fld Z h0 d "java/util/ArrayDeque" "elements" "[Ljava/lang/Object;" (.ref t)) (F2 : Fld Z h0 d "java/util/ArrayDeque" "head" "I" (.int (0 : Int32))) (F3 : Fld Z h0 d "java/util/ArrayDeque" "tail" "I" (.int (1 : Int32))) (Ov : Ovr Z k "java/lang/Object") (Eo : Exa Z h0 t "[Ljava/lang/Object;") (At : Arv Z h0 t k (.object "java/lang/Object") (2 : Int32) [(.ref u0), .null] .null) (E0 : Exa Z h0 u0 "com/example/lean_pubsub/leanpubsub/connection/HeldBack$Held") (Eu : Exa Z h0 u "com/example/lean_pubsub/leanpubsub/connection/HeldBack$Held") :
    MetFree l (⟨"java/util/ArrayDeque", "add", "(Ljava/lang/Object;)Z"⟩ : MethodName) (head1 (Jvm.Cond.code (⟨"java/util/ArrayDeque", "add", "(Ljava/lang/Object;)Z"⟩ : MethodName) jdk_21_method_28_code 2 (some .boolean) :: ws) ({ frames := 6, cells := 1, slots := 6, locals := 112 } : Room)) (fun a_ U_ => a_ = #[(.ref d), (.ref u)] ∧ Z.Warmed39 U_.vm ∧ U_.heap = h0) (fun _ _ _ _ _ => True) (fun _ U_ o_ U'_ => ∃ v_ L_, o_ = .returned v_ ∧ QA1 (some (.int 1)) d t h0 n0 v_ U'_.heap L_ ∧ FrameEnd U_ o_ U'_ L_ ({ frames := 6, cells := 1, slots := 6, locals := 112 } : Room).cells ({ frames := 6, cells := 1, slots := 6, locals := 112 } : Room).slots) := by
  refine MetFree.of_bodySF (plainFor_of_name pn_2) hisR ?_
  intro p e s m args below meth c s₁ Bd hml0 hP hK
  obtain ⟨rfl, hZ, hh⟩ := hP
  have hx := Bd.exec
  have hby := Bd.bytes
  have hml : c.maxLocals = 2 := hml0
  have hown : s.vm.findClass "java/util/ArrayDeque" = some m.cls := findClass_of_methodNamed Bd.named
  have hnm := (name_of_methodNamed Bd.named Bd.method).1
  have hlk := BodyLoose.notSynchronized Bd
  have X0 : Stand p l e ({ frames := 6, cells := 1, slots := 6, locals := 112 } : Room) s m #[(.ref d), (.ref u)] below meth c s₁ [] 0 0 := Stand.of_body Bd
  have e0 : s₁.heap = h0 := by rw [← hh, Bd.state]; rfl
  have N0 := Fr.nil n0
  refine own_entry (P := own_End s (QA1 (some (.int 1)) d t h0 n0) ({ frames := 6, cells := 1, slots := 6, locals := 112 } : Room).cells ({ frames := 6, cells := 1, slots := 6, locals := 112 } : Room).slots) (ef_rmA1 m d u) ?_
  show own_Go p e below _ s₁ (mkF m 0 #[.val (.ref d), .val (.ref u)] [])
  refine own_st (fun t_ k_ => XS.aloadN X0.here hx rfl (hb hby d10_0) rfl rfl k_) ?_
  show own_Go p e below _ s₁ (mkF m 1 #[.val (.ref d), .val (.ref u)] [(.ref d)])
  refine own_st (fun t_ k_ => XS.aloadN X0.here hx rfl (hb hby d10_1) rfl rfl k_) ?_
  show own_Go p e below _ s₁ (mkF m 2 #[.val (.ref d), .val (.ref u)] [(.ref u), (.ref d)])
  obtain ⟨cq2, kq2, q2a, q2b, q2c⟩ := isOf hZ e0 Ed
  refine own_callV X0 hx (y := (⟨"java/util/ArrayDeque", "addLast", "(Ljava/lang/Object;)V"⟩ : MethodName)) (z := (⟨"java/util/ArrayDeque", "addLast", "(Ljava/lang/Object;)V"⟩ : MethodName)) hown (mvT hZ (hw _ (List.mem_of_getElem? (i := 69) rfl))) (mvT hZ (hw _ (List.mem_of_getElem? (i := 70) rfl))) (notFace_of_selects (args := #[]) (mvT hZ (hw _ (List.mem_of_getElem? (i := 72) rfl)))) (mvT hZ (hw _ (List.mem_of_getElem? (i := 72) rfl))) (mvT hZ (hw _ (List.mem_of_getElem? (i := 71) rfl))) (by decide) (backOf (W := 0) (rmL1 l Z a0 hw [] d t u0 u k h0 n0 (Nat.le_trans Z0 (Keep.refl h0 [d, t]).1) hmir g_d g_t Ed F1 F2 F3 Ov Eo At E0 Eu) hZ (hw _ (List.mem_of_getElem? (i := 73) rfl)) (hw _ (List.mem_of_getElem? (i := 13) rfl)) (by decide) (by decide)) q2a q2c (g := (mkF m 2 #[.val (.ref d), .val (.ref u)] [(.ref u), (.ref d)])) rfl (by rw [hml]; rfl) (argsL := [(.ref u)]) (rest := []) (lenOf pd_4 rfl) rfl (by show 2 * 0 + _ ≤ _; exact Nat.le_of_eq rfl) (hb hby d10_2) rfl e0 (by decide) (by decide) ?_
  rintro v1 T1 L1 X1 ⟨rfl, Nq1, Kq1⟩
  have N1 := Fr.app N0 Nq1
  have K1 : Keep h0 T1.heap [d, t] := (Keep.refl h0 [d, t]).trans Kq1 (allS (Or.inl (List.mem_of_getElem? (i := 0) rfl)) (allS (Or.inl (List.mem_of_getElem? (i := 1) rfl)) all0))
  show own_Go p e below _ T1 (mkF m 5 #[.val (.ref d), .val (.ref u)] [])
  refine own_st (fun t_ k_ => XS.iconst X1.here hx rfl (hb hby d10_5) k_) ?_
  show own_Go p e below _ T1 (mkF m 6 #[.val (.ref d), .val (.ref u)] [(.int (1 : Int32))])
  refine own_retN X1 hx hlk (t := .boolean) Bd.returns (by simp) (hb hby d10_6) ?_ (by decide) (by decide)
  show QA1 (some (.int 1)) d t h0 n0 _ T1.heap _
  exact ⟨rfl, N1, K1⟩
def QB0 (Z : State) (a d t : Addr) (k : ClassId) (nb : Int64) (h0 : Heap) (n0 : Nat) (v : Option Value) (h : Heap) (L : List Loc) : Prop := ∃ u : Addr, v = some (.int (own_full nb)) ∧ Fr n0 L ∧ Keep h0 h [a, d, t] ∧ Exa Z h a "com/example/lean_pubsub/leanpubsub/connection/HeldBack" ∧ Fld Z h a "com/example/lean_pubsub/leanpubsub/connection/HeldBack" "held" "Ljava/util/Queue;" (.ref d) ∧ Fld Z h a "com/example/lean_pubsub/leanpubsub/connection/HeldBack" "bytes" "J" (.long nb) ∧ Exa Z h u "com/example/lean_pubsub/leanpubsub/connection/HeldBack$Held" ∧ Exa Z h d "java/util/ArrayDeque" ∧ Fld Z h d "java/util/ArrayDeque" "elements" "[Ljava/lang/Object;" (.ref t) ∧ Fld Z h d "java/util/ArrayDeque" "head" "I" (.int (0 : Int32)) ∧ Fld Z h d "java/util/ArrayDeque" "tail" "I" (.int (1 : Int32)) ∧ Arv Z h t k (.object "java/lang/Object") (2 : Int32) [(.ref u), .null] .null ∧ Exa Z h t "[Ljava/lang/Object;"
def QB1 (Z : State) (a d t : Addr) (nb : Int64) (h0 : Heap) (n0 : Nat) (v : Option Value) (h : Heap) (L : List Loc) : Prop := v = some (.int (own_full nb)) ∧ Fr n0 L ∧ Keep h0 h [a, d, t] ∧ Exa Z h a "com/example/lean_pubsub/leanpubsub/connection/HeldBack" ∧ Fld Z h a "com/example/lean_pubsub/leanpubsub/connection/HeldBack" "bytes" "J" (.long nb)
theorem own_nf (b : Int64) : nar .boolean (own_full b) = own_full b := by unfold own_full; split <;> rfl
theorem d11_0 : decode prog_34_method_2_code 0 = .ok (.aload_n 0, 1) := by decide +kernel
theorem d11_1 : decode prog_34_method_2_code 1 = .ok (.getfield 12, 3) := by decide +kernel
theorem d11_4 : decode prog_34_method_2_code 4 = .ok (.new 18, 3) := by decide +kernel
theorem d11_7 : decode prog_34_method_2_code 7 = .ok (.dup, 1) := by decide +kernel
theorem d11_8 : decode prog_34_method_2_code 8 = .ok (.iload_n 1, 1) := by decide +kernel
theorem d11_9 : decode prog_34_method_2_code 9 = .ok (.aload_n 2, 1) := by decide +kernel
theorem d11_10 : decode prog_34_method_2_code 10 = .ok (.invokespecial 20, 3) := by decide +kernel
theorem pd_5 : parseMethodDescriptor "(ILjava/lang/Runnable;)V" = some ⟨[.int, (.object "java/lang/Runnable")], none⟩ := by decide +kernel
theorem d11_13 : decode prog_34_method_2_code 13 = .ok (.invokeinterface 23 2, 5) := by decide +kernel
theorem pd_6 : parseMethodDescriptor "(Ljava/lang/Object;)Z" = some ⟨[(.object "java/lang/Object")], some .boolean⟩ := by decide +kernel
theorem d11_18 : decode prog_34_method_2_code 18 = .ok (.pop, 1) := by decide +kernel
theorem d11_19 : decode prog_34_method_2_code 19 = .ok (.aload_n 0, 1) := by decide +kernel
theorem d11_20 : decode prog_34_method_2_code 20 = .ok (.dup, 1) := by decide +kernel
theorem d11_21 : decode prog_34_method_2_code 21 = .ok (.getfield 29, 3) := by decide +kernel
theorem d11_24 : decode prog_34_method_2_code 24 = .ok (.iload_n 1, 1) := by decide +kernel
theorem d11_25 : decode prog_34_method_2_code 25 = .ok (.i2l, 1) := by decide +kernel
theorem d11_26 : decode prog_34_method_2_code 26 = .ok (.ladd, 1) := by decide +kernel
theorem d11_27 : decode prog_34_method_2_code 27 = .ok (.putfield 29, 3) := by decide +kernel
theorem d11_30 : decode prog_34_method_2_code 30 = .ok (.aload_n 0, 1) := by decide +kernel
theorem d11_31 : decode prog_34_method_2_code 31 = .ok (.invokevirtual 33, 3) := by decide +kernel
theorem pd_7 : parseMethodDescriptor "()Z" = some ⟨[], some .boolean⟩ := by decide +kernel
theorem d11_34 : decode prog_34_method_2_code 34 = .ok (.ireturn, 1) := by decide +kernel
theorem ef_rmB0 (m : MethodId) (x0 : Addr) (x1 : Int32) : entryFrame m #[(.ref x0), (.int x1), .null] 3 = mkF m 0 #[.val (.ref x0), .val (.int x1), .val .null] [] := by first | (simp [entryFrame, mkF, argsToLocals, Value.category]; done) | rfl
set_option maxRecDepth 65536 in
set_option maxHeartbeats 40000000 in
theorem rmB0 (l : Launch) (Z : State) (a0 : Array Value) (hw : ∀ d ∈ tables_1, d.before a0 Z = true) (ws : List Jvm.Cond) (a d t : Addr) (k : ClassId) (x : Int32) (b nb : Int64) (h0 : Heap) (n0 : Nat) (Z0 : n0 ≤ h0.size) (g_a : n0 ≤ a) (Ea : Exa Z h0 a "com/example/lean_pubsub/leanpubsub/connection/HeldBack") (Fq : Fld Z h0 a "com/example/lean_pubsub/leanpubsub/connection/HeldBack" "held" "Ljava/util/Queue;" (.ref d)) (Fb : Fld Z h0 a "com/example/lean_pubsub/leanpubsub/connection/HeldBack" "bytes" "J" (.long b)) (hnb : nb = b + x.toInt64) (hmir : MirrorMade Z "[Ljava/lang/Object;") (g_d : n0 ≤ d) (g_t : n0 ≤ t) (Ed : Exa Z h0 d "java/util/ArrayDeque") (F1 : Fld Z h0 d "java/util/ArrayDeque" "elements" "[Ljava/lang/Object;" (.ref t)) (F2 : Fld Z h0 d "java/util/ArrayDeque" "head" "I" (.int (0 : Int32))) (F3 : Fld Z h0 d "java/util/ArrayDeque" "tail" "I" (.int (0 : Int32))) (Ov : Ovr Z k "java/lang/Object") (Eo : Exa Z h0 t "[Ljava/lang/Object;") (At : Arv Z h0 t k (.object "java/lang/Object") (2 : Int32) [.null, .null] .null) :
    MetFree l (⟨"com/example/lean_pubsub/leanpubsub/connection/HeldBack", "add", "(ILjava/lang/Runnable;)Z"⟩ : MethodName) (head1 (Jvm.Cond.code (⟨"com/example/lean_pubsub/leanpubsub/connection/HeldBack", "add", "(ILjava/lang/Runnable;)Z"⟩ : MethodName) prog_34_method_2_code 3 (some .boolean) :: ws) ({ frames := 3, cells := 1, slots := 2, locals := 42 } : Room)) (fun a_ U_ => a_ = #[(.ref a), (.int x), .null] ∧ Z.Warmed39 U_.vm ∧ U_.heap = h0) (fun _ _ _ _ _ => True) (fun _ U_ o_ U'_ => ∃ v_ L_, o_ = .returned v_ ∧ QB0 Z a d t k nb h0 n0 v_ U'_.heap L_ ∧ FrameEnd U_ o_ U'_ L_ ({ frames := 3, cells := 1, slots := 2, locals := 42 } : Room).cells ({ frames := 3, cells := 1, slots := 2, locals := 42 } : Room).slots) := by
  refine MetFree.of_bodySF (plainFor_of_name pn_3) hisR ?_
  intro p e s m args below meth c s₁ Bd hml0 hP hK
  obtain ⟨rfl, hZ, hh⟩ := hP
  have hx := Bd.exec
  have hby := Bd.bytes
  have hml : c.maxLocals = 3 := hml0
  have hown : s.vm.findClass "com/example/lean_pubsub/leanpubsub/connection/HeldBack" = some m.cls := findClass_of_methodNamed Bd.named
  have hnm := (name_of_methodNamed Bd.named Bd.method).1
  have hlk := BodyLoose.notSynchronized Bd
  have X0 : Stand p l e ({ frames := 3, cells := 1, slots := 2, locals := 42 } : Room) s m #[(.ref a), (.int x), .null] below meth c s₁ [] 0 0 := Stand.of_body Bd
  have e0 : s₁.heap = h0 := by rw [← hh, Bd.state]; rfl
  have N0 := Fr.nil n0
  refine own_entry (P := own_End s (QB0 Z a d t k nb h0 n0) ({ frames := 3, cells := 1, slots := 2, locals := 42 } : Room).cells ({ frames := 3, cells := 1, slots := 2, locals := 42 } : Room).slots) (ef_rmB0 m a x) ?_
  show own_Go p e below _ s₁ (mkF m 0 #[.val (.ref a), .val (.int x), .val .null] [])
  refine own_st (fun t_ k_ => XS.aloadN X0.here hx rfl (hb hby d11_0) rfl rfl k_) ?_
  show own_Go p e below _ s₁ (mkF m 1 #[.val (.ref a), .val (.int x), .val .null] [(.ref a)])
  obtain ⟨T1, X1, e1, st1⟩ := getF X0 hx hZ hown (host := "") (Or.inl (hw _ (List.mem_of_getElem? (i := 29) rfl))) Via.refl e0 Fq (g := (mkF m 1 #[.val (.ref a), .val (.int x), .val .null] [(.ref a)])) rfl rfl (hb hby d11_1)
  refine own_st st1 ?_
  show own_Go p e below _ T1 (mkF m 4 #[.val (.ref a), .val (.int x), .val .null] [(.ref d)])
  obtain ⟨T2, h2, X2, e2, E2, A2, D2, cel2, st2⟩ := newO X1 hx hZ hown (hw _ (List.mem_of_getElem? (i := 44) rfl)) (hw _ (List.mem_of_getElem? (i := 45) rfl)) (hw _ (List.mem_of_getElem? (i := 46) rfl)) e1 (g := (mkF m 4 #[.val (.ref a), .val (.int x), .val .null] [(.ref d)])) rfl (hb hby d11_4) (by decide) (by decide)
  obtain ⟨nb2, g2⟩ : ∃ z, z = h0.size := ⟨_, rfl⟩
  rw [← g2] at A2 D2 cel2 st2
  refine own_st st2 ?_
  have g_nb2 : n0 ≤ nb2 := Nat.le_trans (Nat.le_trans Z0 (Keep.refl h0 [a, d, t]).1) (Nat.le_of_eq g2.symm)
  have K2 : Keep h0 h2 [a, d, t] := (Keep.refl h0 [a, d, t]).ext E2
  have sz_nb2 : h0.size ≤ nb2 := Nat.le_trans (Keep.refl h0 [a, d, t]).1 (Nat.le_of_eq g2.symm)
  have F2_bytes : Fld Z h2 nb2 "com/example/lean_pubsub/leanpubsub/connection/HeldBack$Held" "bytes" "I" (.int (0 : Int32)) := D2 (Or.inr (hw _ (List.mem_of_getElem? (i := 57) rfl))) (ty := .int) (by decide)
  have F2_taking : Fld Z h2 nb2 "com/example/lean_pubsub/leanpubsub/connection/HeldBack$Held" "taking" "Ljava/lang/Runnable;" .null := D2 (Or.inr (hw _ (List.mem_of_getElem? (i := 59) rfl))) (ty := (.object "java/lang/Runnable")) (by decide)
  show own_Go p e below _ T2 (mkF m 7 #[.val (.ref a), .val (.int x), .val .null] [(.ref nb2), (.ref d)])
  refine own_st (fun t_ k_ => XS.dup X2.here hx rfl (hb hby d11_7) rfl rfl k_) ?_
  show own_Go p e below _ T2 (mkF m 8 #[.val (.ref a), .val (.int x), .val .null] [(.ref nb2), (.ref nb2), (.ref d)])
  refine own_st (fun t_ k_ => XS.iloadN X2.here hx rfl (hb hby d11_8) rfl k_) ?_
  show own_Go p e below _ T2 (mkF m 9 #[.val (.ref a), .val (.int x), .val .null] [(.int x), (.ref nb2), (.ref nb2), (.ref d)])
  refine own_st (fun t_ k_ => XS.aloadN X2.here hx rfl (hb hby d11_9) rfl rfl k_) ?_
  show own_Go p e below _ T2 (mkF m 10 #[.val (.ref a), .val (.int x), .val .null] [.null, (.int x), (.ref nb2), (.ref nb2), (.ref d)])
  refine own_callNR X2 hx hZ (y := (⟨"com/example/lean_pubsub/leanpubsub/connection/HeldBack$Held", "<init>", "(ILjava/lang/Runnable;)V"⟩ : MethodName)) rfl hown (hw _ (List.mem_of_getElem? (i := 47) rfl)) (mvT hZ (hw _ (List.mem_of_getElem? (i := 48) rfl))) (mvT hZ (hw _ (List.mem_of_getElem? (i := 49) rfl))) (by decide) (backOf (W := 2) (rmHD l Z a0 hw [] nb2 x h2 n0 (Nat.le_trans Z0 K2.1) g_nb2 A2 F2_bytes F2_taking) hZ (hw _ (List.mem_of_getElem? (i := 49) rfl)) (hw _ (List.mem_of_getElem? (i := 46) rfl)) (by decide) (by decide)) (a := nb2) (g := (mkF m 10 #[.val (.ref a), .val (.int x), .val .null] [.null, (.int x), (.ref nb2), (.ref nb2), (.ref d)])) rfl (by rw [hml]; rfl) (argsL := [(.int x), .null]) (rest := [(.ref nb2), (.ref d)]) (lenOf pd_5 rfl) rfl (by show 2 * 0 + _ ≤ _; exact Nat.le_of_eq rfl) (hb hby d11_10) rfl e2 (by decide) (by decide) ?_
  rintro v3 T3 L3 X3 ⟨rfl, Nq3, Kq3, Eq3⟩
  have N3 := Fr.app N0 Nq3
  have K3 : Keep h0 T3.heap [a, d, t] := K2.trans Kq3 (allS (Or.inr sz_nb2) all0)
  show own_Go p e below _ T3 (mkF m 13 #[.val (.ref a), .val (.int x), .val .null] [(.ref nb2), (.ref d)])
  have f4 := (Fld.ext E2 F1)
  have ne5 : d ≠ nb2 := (Nat.ne_of_lt (Nat.lt_of_lt_of_le Ed.lt (Nat.le_of_eq g2.symm)))
  have f6 := (f4.keep Kq3 (ninS ne5 nin0))
  have f7 := (Exa.ext E2 Ed)
  have f8 := (f7.keep Kq3)
  have f9 := (Fld.ext E2 F2)
  have f10 := (f9.keep Kq3 (ninS ne5 nin0))
  have f11 := (Fld.ext E2 F3)
  have f12 := (f11.keep Kq3 (ninS ne5 nin0))
  have f13 := (Exa.ext E2 Eo)
  have f14 := (f13.keep Kq3)
  have f15 := (At.ext E2)
  have ne16 : t ≠ nb2 := (Nat.ne_of_lt (Nat.lt_of_lt_of_le At.lt (Nat.le_of_eq g2.symm)))
  have f17 := (f15.keep Kq3 (ninS ne16 nin0))
  obtain ⟨cq19, kq19, q19a, q19b, q19c⟩ := isOf hZ rfl f8
  refine own_callI X3 hx (xi := (⟨"java/util/Queue", "add", "(Ljava/lang/Object;)Z"⟩ : MethodName)) (y := (⟨"java/util/ArrayDeque", "add", "(Ljava/lang/Object;)Z"⟩ : MethodName)) hown (mvT hZ (hw _ (List.mem_of_getElem? (i := 60) rfl))) (mvT hZ (hw _ (List.mem_of_getElem? (i := 61) rfl))) (mvT hZ (hw _ (List.mem_of_getElem? (i := 62) rfl))) (mvT hZ (hw _ (List.mem_of_getElem? (i := 63) rfl))) (mvT hZ (hw _ (List.mem_of_getElem? (i := 64) rfl))) (mvT hZ (hw _ (List.mem_of_getElem? (i := 65) rfl))) (mvT hZ (hw _ (List.mem_of_getElem? (i := 66) rfl))) (mvT hZ (hw _ (List.mem_of_getElem? (i := 67) rfl))) (by decide) (backOf (W := 0) (rmA0 l Z a0 hw [] d t nb2 k T3.heap n0 (Nat.le_trans Z0 K3.1) hmir g_d g_t f8 f6 f10 f12 Ov f14 f17 Eq3) hZ (hw _ (List.mem_of_getElem? (i := 68) rfl)) (hw _ (List.mem_of_getElem? (i := 13) rfl)) (by decide) (by decide)) q19a q19b q19c (g := (mkF m 13 #[.val (.ref a), .val (.int x), .val .null] [(.ref nb2), (.ref d)])) rfl (by rw [hml]; rfl) (argsL := [(.ref nb2)]) (rest := []) (lenOf pd_6 rfl) rfl (by show 2 * 0 + _ ≤ _; exact Nat.le_of_eq rfl) (hb hby d11_13) rfl rfl (by decide) (by decide) ?_
  rintro v18 T18 L18 X18 ⟨rfl, Nq18, Kq18, Eq18, F1_18, F2_18, F3_18, Aq18, Eo18⟩
  have N18 := Fr.app N3 Nq18
  have K18 : Keep h0 T18.heap [a, d, t] := K3.trans Kq18 (allS (Or.inl (List.mem_of_getElem? (i := 1) rfl)) (allS (Or.inl (List.mem_of_getElem? (i := 2) rfl)) all0))
  show own_Go p e below _ T18 (mkF m 18 #[.val (.ref a), .val (.int x), .val .null] [(.int (1 : Int32))])
  refine own_st (fun t_ k_ => XS.pop X18.here hx rfl (hb hby d11_18) rfl rfl k_) ?_
  show own_Go p e below _ T18 (mkF m 19 #[.val (.ref a), .val (.int x), .val .null] [])
  refine own_st (fun t_ k_ => XS.aloadN X18.here hx rfl (hb hby d11_19) rfl rfl k_) ?_
  show own_Go p e below _ T18 (mkF m 20 #[.val (.ref a), .val (.int x), .val .null] [(.ref a)])
  refine own_st (fun t_ k_ => XS.dup X18.here hx rfl (hb hby d11_20) rfl rfl k_) ?_
  show own_Go p e below _ T18 (mkF m 21 #[.val (.ref a), .val (.int x), .val .null] [(.ref a), (.ref a)])
  have f20 := (Fld.ext E2 Fb)
  have ne21 : a ≠ nb2 := (Nat.ne_of_lt (Nat.lt_of_lt_of_le Ea.lt (Nat.le_of_eq g2.symm)))
  have f22 := (f20.keep Kq3 (ninS ne21 nin0))
  have ne23 : a ≠ t := (Exa.ne Ea Eo (by decide))
  have ne24 : a ≠ d := (Exa.ne Ea Ed (by decide))
  have f25 := (f22.keep Kq18 (ninS ne24 (ninS ne23 nin0)))
  obtain ⟨T26, X26, e26, st26⟩ := getF X18 hx hZ hown (host := "") (Or.inl (hw _ (List.mem_of_getElem? (i := 36) rfl))) Via.refl rfl f25 (g := (mkF m 21 #[.val (.ref a), .val (.int x), .val .null] [(.ref a), (.ref a)])) rfl rfl (hb hby d11_21)
  refine own_st st26 ?_
  show own_Go p e below _ T26 (mkF m 24 #[.val (.ref a), .val (.int x), .val .null] [(.long b), (.ref a)])
  refine own_st (fun t_ k_ => XS.iloadN X26.here hx rfl (hb hby d11_24) rfl k_) ?_
  show own_Go p e below _ T26 (mkF m 25 #[.val (.ref a), .val (.int x), .val .null] [(.int x), (.long b), (.ref a)])
  refine own_st (fun t_ k_ => XS.i2l X26.here hx rfl (hb hby d11_25) rfl k_) ?_
  show own_Go p e below _ T26 (mkF m 26 #[.val (.ref a), .val (.int x), .val .null] [(.long (x.toInt64)), (.long b), (.ref a)])
  refine own_st (fun t_ k_ => XS.ladd X26.here hx rfl (hb hby d11_26) rfl k_) ?_
  show own_Go p e below _ T26 (mkF m 27 #[.val (.ref a), .val (.int x), .val .null] [(.long (b + (x.toInt64))), (.ref a)])
  have f28 := (Exa.ext E2 Ea)
  have f29 := (f28.keep Kq3)
  have f30 := (f29.keep Kq18)
  obtain ⟨T27, h27, X27, e27, W27, st27⟩ := putF X26 hx hZ hown (host := "") (Or.inl (hw _ (List.mem_of_getElem? (i := 36) rfl))) Via.refl e26 f25 f30 (Or.inl (hw _ (List.mem_of_getElem? (i := 37) rfl))) (hw _ (List.mem_of_getElem? (i := 3) rfl)) (ty := .long) (by decide) rfl rfl (g := (mkF m 27 #[.val (.ref a), .val (.int x), .val .null] [(.long (b + (x.toInt64))), (.ref a)])) rfl rfl (hb hby d11_27)
  refine own_st st27 ?_
  have N27 := Fr.snoc X27 N18 g_a
  have K27 : Keep h0 h27 [a, d, t] := K18.wr W27 (Or.inl (List.mem_of_getElem? (i := 0) rfl))
  have Fw27 := Fld.same W27 f25
  show own_Go p e below _ T27 (mkF m 30 #[.val (.ref a), .val (.int x), .val .null] [])
  refine own_st (fun t_ k_ => XS.aloadN X27.here hx rfl (hb hby d11_30) rfl rfl k_) ?_
  show own_Go p e below _ T27 (mkF m 31 #[.val (.ref a), .val (.int x), .val .null] [(.ref a)])
  have f33 := (Exa.wr W27 f30)
  obtain ⟨cq32, kq32, q32a, q32b, q32c⟩ := isOf hZ e27 f33
  refine own_callV X27 hx (y := (⟨"com/example/lean_pubsub/leanpubsub/connection/HeldBack", "isFull", "()Z"⟩ : MethodName)) (z := (⟨"com/example/lean_pubsub/leanpubsub/connection/HeldBack", "isFull", "()Z"⟩ : MethodName)) hown (mvT hZ (hw _ (List.mem_of_getElem? (i := 82) rfl))) (mvT hZ (hw _ (List.mem_of_getElem? (i := 32) rfl))) (notFace_of_selects (args := #[]) (mvT hZ (hw _ (List.mem_of_getElem? (i := 34) rfl)))) (mvT hZ (hw _ (List.mem_of_getElem? (i := 34) rfl))) (mvT hZ (hw _ (List.mem_of_getElem? (i := 33) rfl))) (by decide) (backOf (W := 0) (rmIF l Z a0 hw [] a (b + (x.toInt64)) h27 n0 (Nat.le_trans Z0 K27.1) Fw27) hZ (hw _ (List.mem_of_getElem? (i := 35) rfl)) (hw _ (List.mem_of_getElem? (i := 4) rfl)) (by decide) (by decide)) q32a q32c (g := (mkF m 31 #[.val (.ref a), .val (.int x), .val .null] [(.ref a)])) rfl (by rw [hml]; rfl) (argsL := []) (rest := []) (lenOf pd_7 rfl) rfl (by show 2 * 0 + _ ≤ _; exact Nat.le_of_eq rfl) (hb hby d11_31) rfl e27 (by decide) (by decide) ?_
  rintro v31 T31 L31 X31 ⟨rfl, Nq31, hh31⟩
  have N31 := Fr.app N27 Nq31
  show own_Go p e below _ T31 (mkF m 34 #[.val (.ref a), .val (.int x), .val .null] [(.int (own_full (b + (x.toInt64))))])
  subst hnb
  have f34 := (Fld.ext E2 Fq)
  have f35 := (f34.keep Kq3 (ninS ne21 nin0))
  have f36 := (f35.keep Kq18 (ninS ne24 (ninS ne23 nin0)))
  have f37 := (Fld.other W27 f36 (Or.inr (slot_ne (Or.inr (hw _ (List.mem_of_getElem? (i := 30) rfl))) (Or.inl (hw _ (List.mem_of_getElem? (i := 37) rfl))) (by decide) (t := (.object "java/util/Queue")) (t' := .long) (by decide) (by decide))))
  have f38 := (Eq3.keep Kq18)
  have f39 := (Exa.wr W27 f38)
  have f40 := (Exa.wr W27 Eq18)
  have f41 := (Fld.other W27 F1_18 (Or.inl (Ne.symm ne24)))
  have f42 := (Fld.other W27 F2_18 (Or.inl (Ne.symm ne24)))
  have f43 := (Fld.other W27 F3_18 (Or.inl (Ne.symm ne24)))
  have f44 := (Aq18.other W27 (Ne.symm ne23))
  have f45 := (Exa.wr W27 Eo18)
  refine own_retN X31 hx hlk (t := .boolean) Bd.returns (by simp) (hb hby d11_34) ?_ (by decide) (by decide)
  show QB0 Z a d t k (b + x.toInt64) h0 n0 _ T31.heap _
  rw [hh31]
  exact ⟨nb2, by rw [own_nf], N31, K27, f33, f37, Fw27, f39, f40, f41, f42, f43, f44, f45⟩
theorem ef_rmB1 (m : MethodId) (x0 : Addr) (x1 : Int32) : entryFrame m #[(.ref x0), (.int x1), .null] 3 = mkF m 0 #[.val (.ref x0), .val (.int x1), .val .null] [] := by first | (simp [entryFrame, mkF, argsToLocals, Value.category]; done) | rfl
set_option maxRecDepth 65536 in
set_option maxHeartbeats 40000000 in
theorem rmB1 (l : Launch) (Z : State) (a0 : Array Value) (hw : ∀ d ∈ tables_1, d.before a0 Z = true) (ws : List Jvm.Cond) (a d t u0 : Addr) (k : ClassId) (x : Int32) (b nb : Int64) (h0 : Heap) (n0 : Nat) (Z0 : n0 ≤ h0.size) (g_a : n0 ≤ a) (Ea : Exa Z h0 a "com/example/lean_pubsub/leanpubsub/connection/HeldBack") (Fq : Fld Z h0 a "com/example/lean_pubsub/leanpubsub/connection/HeldBack" "held" "Ljava/util/Queue;" (.ref d)) (Fb : Fld Z h0 a "com/example/lean_pubsub/leanpubsub/connection/HeldBack" "bytes" "J" (.long b)) (hnb : nb = b + x.toInt64) (hmir : MirrorMade Z "[Ljava/lang/Object;") (g_d : n0 ≤ d) (g_t : n0 ≤ t) (Ed : Exa Z h0 d "java/util/ArrayDeque") (F1 : Fld Z h0 d "java/util/ArrayDeque" "elements" "[Ljava/lang/Object;" (.ref t)) (F2 : Fld Z h0 d "java/util/ArrayDeque" "head" "I" (.int (0 : Int32))) (F3 : Fld Z h0 d "java/util/ArrayDeque" "tail" "I" (.int (1 : Int32))) (Ov : Ovr Z k "java/lang/Object") (Eo : Exa Z h0 t "[Ljava/lang/Object;") (At : Arv Z h0 t k (.object "java/lang/Object") (2 : Int32) [(.ref u0), .null] .null) (E0 : Exa Z h0 u0 "com/example/lean_pubsub/leanpubsub/connection/HeldBack$Held") :
    MetFree l (⟨"com/example/lean_pubsub/leanpubsub/connection/HeldBack", "add", "(ILjava/lang/Runnable;)Z"⟩ : MethodName) (head1 (Jvm.Cond.code (⟨"com/example/lean_pubsub/leanpubsub/connection/HeldBack", "add", "(ILjava/lang/Runnable;)Z"⟩ : MethodName) prog_34_method_2_code 3 (some .boolean) :: ws) ({ frames := 7, cells := 2, slots := 8, locals := 125 } : Room)) (fun a_ U_ => a_ = #[(.ref a), (.int x), .null] ∧ Z.Warmed39 U_.vm ∧ U_.heap = h0) (fun _ _ _ _ _ => True) (fun _ U_ o_ U'_ => ∃ v_ L_, o_ = .returned v_ ∧ QB1 Z a d t nb h0 n0 v_ U'_.heap L_ ∧ FrameEnd U_ o_ U'_ L_ ({ frames := 7, cells := 2, slots := 8, locals := 125 } : Room).cells ({ frames := 7, cells := 2, slots := 8, locals := 125 } : Room).slots) := by
  refine MetFree.of_bodySF (plainFor_of_name pn_3) hisR ?_
  intro p e s m args below meth c s₁ Bd hml0 hP hK
  obtain ⟨rfl, hZ, hh⟩ := hP
  have hx := Bd.exec
  have hby := Bd.bytes
  have hml : c.maxLocals = 3 := hml0
  have hown : s.vm.findClass "com/example/lean_pubsub/leanpubsub/connection/HeldBack" = some m.cls := findClass_of_methodNamed Bd.named
  have hnm := (name_of_methodNamed Bd.named Bd.method).1
  have hlk := BodyLoose.notSynchronized Bd
  have X0 : Stand p l e ({ frames := 7, cells := 2, slots := 8, locals := 125 } : Room) s m #[(.ref a), (.int x), .null] below meth c s₁ [] 0 0 := Stand.of_body Bd
  have e0 : s₁.heap = h0 := by rw [← hh, Bd.state]; rfl
  have N0 := Fr.nil n0
  refine own_entry (P := own_End s (QB1 Z a d t nb h0 n0) ({ frames := 7, cells := 2, slots := 8, locals := 125 } : Room).cells ({ frames := 7, cells := 2, slots := 8, locals := 125 } : Room).slots) (ef_rmB1 m a x) ?_
  show own_Go p e below _ s₁ (mkF m 0 #[.val (.ref a), .val (.int x), .val .null] [])
  refine own_st (fun t_ k_ => XS.aloadN X0.here hx rfl (hb hby d11_0) rfl rfl k_) ?_
  show own_Go p e below _ s₁ (mkF m 1 #[.val (.ref a), .val (.int x), .val .null] [(.ref a)])
  obtain ⟨T1, X1, e1, st1⟩ := getF X0 hx hZ hown (host := "") (Or.inl (hw _ (List.mem_of_getElem? (i := 29) rfl))) Via.refl e0 Fq (g := (mkF m 1 #[.val (.ref a), .val (.int x), .val .null] [(.ref a)])) rfl rfl (hb hby d11_1)
  refine own_st st1 ?_
  show own_Go p e below _ T1 (mkF m 4 #[.val (.ref a), .val (.int x), .val .null] [(.ref d)])
  obtain ⟨T2, h2, X2, e2, E2, A2, D2, cel2, st2⟩ := newO X1 hx hZ hown (hw _ (List.mem_of_getElem? (i := 44) rfl)) (hw _ (List.mem_of_getElem? (i := 45) rfl)) (hw _ (List.mem_of_getElem? (i := 46) rfl)) e1 (g := (mkF m 4 #[.val (.ref a), .val (.int x), .val .null] [(.ref d)])) rfl (hb hby d11_4) (by decide) (by decide)
  obtain ⟨nb2, g2⟩ : ∃ z, z = h0.size := ⟨_, rfl⟩
  rw [← g2] at A2 D2 cel2 st2
  refine own_st st2 ?_
  have g_nb2 : n0 ≤ nb2 := Nat.le_trans (Nat.le_trans Z0 (Keep.refl h0 [a, d, t]).1) (Nat.le_of_eq g2.symm)
  have K2 : Keep h0 h2 [a, d, t] := (Keep.refl h0 [a, d, t]).ext E2
  have sz_nb2 : h0.size ≤ nb2 := Nat.le_trans (Keep.refl h0 [a, d, t]).1 (Nat.le_of_eq g2.symm)
  have F2_bytes : Fld Z h2 nb2 "com/example/lean_pubsub/leanpubsub/connection/HeldBack$Held" "bytes" "I" (.int (0 : Int32)) := D2 (Or.inr (hw _ (List.mem_of_getElem? (i := 57) rfl))) (ty := .int) (by decide)
  have F2_taking : Fld Z h2 nb2 "com/example/lean_pubsub/leanpubsub/connection/HeldBack$Held" "taking" "Ljava/lang/Runnable;" .null := D2 (Or.inr (hw _ (List.mem_of_getElem? (i := 59) rfl))) (ty := (.object "java/lang/Runnable")) (by decide)
  show own_Go p e below _ T2 (mkF m 7 #[.val (.ref a), .val (.int x), .val .null] [(.ref nb2), (.ref d)])
  refine own_st (fun t_ k_ => XS.dup X2.here hx rfl (hb hby d11_7) rfl rfl k_) ?_
  show own_Go p e below _ T2 (mkF m 8 #[.val (.ref a), .val (.int x), .val .null] [(.ref nb2), (.ref nb2), (.ref d)])
  refine own_st (fun t_ k_ => XS.iloadN X2.here hx rfl (hb hby d11_8) rfl k_) ?_
  show own_Go p e below _ T2 (mkF m 9 #[.val (.ref a), .val (.int x), .val .null] [(.int x), (.ref nb2), (.ref nb2), (.ref d)])
  refine own_st (fun t_ k_ => XS.aloadN X2.here hx rfl (hb hby d11_9) rfl rfl k_) ?_
  show own_Go p e below _ T2 (mkF m 10 #[.val (.ref a), .val (.int x), .val .null] [.null, (.int x), (.ref nb2), (.ref nb2), (.ref d)])
  refine own_callNR X2 hx hZ (y := (⟨"com/example/lean_pubsub/leanpubsub/connection/HeldBack$Held", "<init>", "(ILjava/lang/Runnable;)V"⟩ : MethodName)) rfl hown (hw _ (List.mem_of_getElem? (i := 47) rfl)) (mvT hZ (hw _ (List.mem_of_getElem? (i := 48) rfl))) (mvT hZ (hw _ (List.mem_of_getElem? (i := 49) rfl))) (by decide) (backOf (W := 2) (rmHD l Z a0 hw [] nb2 x h2 n0 (Nat.le_trans Z0 K2.1) g_nb2 A2 F2_bytes F2_taking) hZ (hw _ (List.mem_of_getElem? (i := 49) rfl)) (hw _ (List.mem_of_getElem? (i := 46) rfl)) (by decide) (by decide)) (a := nb2) (g := (mkF m 10 #[.val (.ref a), .val (.int x), .val .null] [.null, (.int x), (.ref nb2), (.ref nb2), (.ref d)])) rfl (by rw [hml]; rfl) (argsL := [(.int x), .null]) (rest := [(.ref nb2), (.ref d)]) (lenOf pd_5 rfl) rfl (by show 2 * 0 + _ ≤ _; exact Nat.le_of_eq rfl) (hb hby d11_10) rfl e2 (by decide) (by decide) ?_
  rintro v3 T3 L3 X3 ⟨rfl, Nq3, Kq3, Eq3⟩
  have N3 := Fr.app N0 Nq3
  have K3 : Keep h0 T3.heap [a, d, t] := K2.trans Kq3 (allS (Or.inr sz_nb2) all0)
  show own_Go p e below _ T3 (mkF m 13 #[.val (.ref a), .val (.int x), .val .null] [(.ref nb2), (.ref d)])
  have f4 := (Fld.ext E2 F1)
  have ne5 : d ≠ nb2 := (Nat.ne_of_lt (Nat.lt_of_lt_of_le Ed.lt (Nat.le_of_eq g2.symm)))
  have f6 := (f4.keep Kq3 (ninS ne5 nin0))
  have f7 := (Exa.ext E2 Ed)
  have f8 := (f7.keep Kq3)
  have f9 := (Fld.ext E2 F2)
  have f10 := (f9.keep Kq3 (ninS ne5 nin0))
  have f11 := (Fld.ext E2 F3)
  have f12 := (f11.keep Kq3 (ninS ne5 nin0))
  have f13 := (Exa.ext E2 Eo)
  have f14 := (f13.keep Kq3)
  have f15 := (At.ext E2)
  have ne16 : t ≠ nb2 := (Nat.ne_of_lt (Nat.lt_of_lt_of_le At.lt (Nat.le_of_eq g2.symm)))
  have f17 := (f15.keep Kq3 (ninS ne16 nin0))
  have f18 := (Exa.ext E2 E0)
  have f19 := (f18.keep Kq3)
  obtain ⟨cq21, kq21, q21a, q21b, q21c⟩ := isOf hZ rfl f8
  refine own_callI X3 hx (xi := (⟨"java/util/Queue", "add", "(Ljava/lang/Object;)Z"⟩ : MethodName)) (y := (⟨"java/util/ArrayDeque", "add", "(Ljava/lang/Object;)Z"⟩ : MethodName)) hown (mvT hZ (hw _ (List.mem_of_getElem? (i := 60) rfl))) (mvT hZ (hw _ (List.mem_of_getElem? (i := 61) rfl))) (mvT hZ (hw _ (List.mem_of_getElem? (i := 62) rfl))) (mvT hZ (hw _ (List.mem_of_getElem? (i := 63) rfl))) (mvT hZ (hw _ (List.mem_of_getElem? (i := 64) rfl))) (mvT hZ (hw _ (List.mem_of_getElem? (i := 65) rfl))) (mvT hZ (hw _ (List.mem_of_getElem? (i := 66) rfl))) (mvT hZ (hw _ (List.mem_of_getElem? (i := 67) rfl))) (by decide) (backOf (W := 0) (rmA1 l Z a0 hw [] d t u0 nb2 k T3.heap n0 (Nat.le_trans Z0 K3.1) hmir g_d g_t f8 f6 f10 f12 Ov f14 f17 f19 Eq3) hZ (hw _ (List.mem_of_getElem? (i := 68) rfl)) (hw _ (List.mem_of_getElem? (i := 13) rfl)) (by decide) (by decide)) q21a q21b q21c (g := (mkF m 13 #[.val (.ref a), .val (.int x), .val .null] [(.ref nb2), (.ref d)])) rfl (by rw [hml]; rfl) (argsL := [(.ref nb2)]) (rest := []) (lenOf pd_6 rfl) rfl (by show 2 * 0 + _ ≤ _; exact Nat.le_of_eq rfl) (hb hby d11_13) rfl rfl (by decide) (by decide) ?_
  rintro v20 T20 L20 X20 ⟨rfl, Nq20, Kq20⟩
  have N20 := Fr.app N3 Nq20
  have K20 : Keep h0 T20.heap [a, d, t] := K3.trans Kq20 (allS (Or.inl (List.mem_of_getElem? (i := 1) rfl)) (allS (Or.inl (List.mem_of_getElem? (i := 2) rfl)) all0))
  show own_Go p e below _ T20 (mkF m 18 #[.val (.ref a), .val (.int x), .val .null] [(.int (1 : Int32))])
  refine own_st (fun t_ k_ => XS.pop X20.here hx rfl (hb hby d11_18) rfl rfl k_) ?_
  show own_Go p e below _ T20 (mkF m 19 #[.val (.ref a), .val (.int x), .val .null] [])
  refine own_st (fun t_ k_ => XS.aloadN X20.here hx rfl (hb hby d11_19) rfl rfl k_) ?_
  show own_Go p e below _ T20 (mkF m 20 #[.val (.ref a), .val (.int x), .val .null] [(.ref a)])
  refine own_st (fun t_ k_ => XS.dup X20.here hx rfl (hb hby d11_20) rfl rfl k_) ?_
  show own_Go p e below _ T20 (mkF m 21 #[.val (.ref a), .val (.int x), .val .null] [(.ref a), (.ref a)])
  have f22 := (Fld.ext E2 Fb)
  have ne23 : a ≠ nb2 := (Nat.ne_of_lt (Nat.lt_of_lt_of_le Ea.lt (Nat.le_of_eq g2.symm)))
  have f24 := (f22.keep Kq3 (ninS ne23 nin0))
  have ne25 : a ≠ t := (Exa.ne Ea Eo (by decide))
  have ne26 : a ≠ d := (Exa.ne Ea Ed (by decide))
  have f27 := (f24.keep Kq20 (ninS ne26 (ninS ne25 nin0)))
  obtain ⟨T28, X28, e28, st28⟩ := getF X20 hx hZ hown (host := "") (Or.inl (hw _ (List.mem_of_getElem? (i := 36) rfl))) Via.refl rfl f27 (g := (mkF m 21 #[.val (.ref a), .val (.int x), .val .null] [(.ref a), (.ref a)])) rfl rfl (hb hby d11_21)
  refine own_st st28 ?_
  show own_Go p e below _ T28 (mkF m 24 #[.val (.ref a), .val (.int x), .val .null] [(.long b), (.ref a)])
  refine own_st (fun t_ k_ => XS.iloadN X28.here hx rfl (hb hby d11_24) rfl k_) ?_
  show own_Go p e below _ T28 (mkF m 25 #[.val (.ref a), .val (.int x), .val .null] [(.int x), (.long b), (.ref a)])
  refine own_st (fun t_ k_ => XS.i2l X28.here hx rfl (hb hby d11_25) rfl k_) ?_
  show own_Go p e below _ T28 (mkF m 26 #[.val (.ref a), .val (.int x), .val .null] [(.long (x.toInt64)), (.long b), (.ref a)])
  refine own_st (fun t_ k_ => XS.ladd X28.here hx rfl (hb hby d11_26) rfl k_) ?_
  show own_Go p e below _ T28 (mkF m 27 #[.val (.ref a), .val (.int x), .val .null] [(.long (b + (x.toInt64))), (.ref a)])
  have f30 := (Exa.ext E2 Ea)
  have f31 := (f30.keep Kq3)
  have f32 := (f31.keep Kq20)
  obtain ⟨T29, h29, X29, e29, W29, st29⟩ := putF X28 hx hZ hown (host := "") (Or.inl (hw _ (List.mem_of_getElem? (i := 36) rfl))) Via.refl e28 f27 f32 (Or.inl (hw _ (List.mem_of_getElem? (i := 37) rfl))) (hw _ (List.mem_of_getElem? (i := 3) rfl)) (ty := .long) (by decide) rfl rfl (g := (mkF m 27 #[.val (.ref a), .val (.int x), .val .null] [(.long (b + (x.toInt64))), (.ref a)])) rfl rfl (hb hby d11_27)
  refine own_st st29 ?_
  have N29 := Fr.snoc X29 N20 g_a
  have K29 : Keep h0 h29 [a, d, t] := K20.wr W29 (Or.inl (List.mem_of_getElem? (i := 0) rfl))
  have Fw29 := Fld.same W29 f27
  show own_Go p e below _ T29 (mkF m 30 #[.val (.ref a), .val (.int x), .val .null] [])
  refine own_st (fun t_ k_ => XS.aloadN X29.here hx rfl (hb hby d11_30) rfl rfl k_) ?_
  show own_Go p e below _ T29 (mkF m 31 #[.val (.ref a), .val (.int x), .val .null] [(.ref a)])
  have f35 := (Exa.wr W29 f32)
  obtain ⟨cq34, kq34, q34a, q34b, q34c⟩ := isOf hZ e29 f35
  refine own_callV X29 hx (y := (⟨"com/example/lean_pubsub/leanpubsub/connection/HeldBack", "isFull", "()Z"⟩ : MethodName)) (z := (⟨"com/example/lean_pubsub/leanpubsub/connection/HeldBack", "isFull", "()Z"⟩ : MethodName)) hown (mvT hZ (hw _ (List.mem_of_getElem? (i := 82) rfl))) (mvT hZ (hw _ (List.mem_of_getElem? (i := 32) rfl))) (notFace_of_selects (args := #[]) (mvT hZ (hw _ (List.mem_of_getElem? (i := 34) rfl)))) (mvT hZ (hw _ (List.mem_of_getElem? (i := 34) rfl))) (mvT hZ (hw _ (List.mem_of_getElem? (i := 33) rfl))) (by decide) (backOf (W := 0) (rmIF l Z a0 hw [] a (b + (x.toInt64)) h29 n0 (Nat.le_trans Z0 K29.1) Fw29) hZ (hw _ (List.mem_of_getElem? (i := 35) rfl)) (hw _ (List.mem_of_getElem? (i := 4) rfl)) (by decide) (by decide)) q34a q34c (g := (mkF m 31 #[.val (.ref a), .val (.int x), .val .null] [(.ref a)])) rfl (by rw [hml]; rfl) (argsL := []) (rest := []) (lenOf pd_7 rfl) rfl (by show 2 * 0 + _ ≤ _; exact Nat.le_of_eq rfl) (hb hby d11_31) rfl e29 (by decide) (by decide) ?_
  rintro v33 T33 L33 X33 ⟨rfl, Nq33, hh33⟩
  have N33 := Fr.app N29 Nq33
  show own_Go p e below _ T33 (mkF m 34 #[.val (.ref a), .val (.int x), .val .null] [(.int (own_full (b + (x.toInt64))))])
  subst hnb
  refine own_retN X33 hx hlk (t := .boolean) Bd.returns (by simp) (hb hby d11_34) ?_ (by decide) (by decide)
  show QB1 Z a d t (b + x.toInt64) h0 n0 _ T33.heap _
  rw [hh33]
  exact ⟨by rw [own_nf], N33, K29, f35, Fw29⟩
def Q0 (n0 : Nat) (v : Option Value) (h : Heap) (L : List Loc) : Prop := v = some (.int 1) ∧ Fr n0 L
theorem pd_8 : parseMethodDescriptor "(ILjava/lang/Runnable;)Z" = some ⟨[.int, (.object "java/lang/Runnable")], some .boolean⟩ := by decide +kernel
theorem pn_5 : plainName "com/example/lean_pubsub/leanpubsub/connection/HeldBackIsFullPinLaw" = true := by first | (simp [plainName, overriddenIn]; done) | decide +kernel
theorem ef_rm0 (m : MethodId) (x0 : Int32) (x1 : Int32) (x2 : Int32) : entryFrame m #[(.int x0), (.int x1), (.int x2)] maxLocals = mkF m 0 #[.val (.int x0), .val (.int x1), .val (.int x2), .unset, .unset, .unset, .unset, .unset, .unset, .unset, .unset, .unset, .unset, .unset, .unset, .unset, .unset, .unset] [] := by first | (simp [entryFrame, mkF, argsToLocals, Value.category, maxLocals]; done) | rfl
set_option maxRecDepth 65536 in
set_option maxHeartbeats 40000000 in
theorem rm0 (l : Launch) (Z : State) (a0 : Array Value) (hw : ∀ d ∈ tables_1, d.before a0 Z = true) (ws : List Jvm.Cond) (ai bi di : Int32) (h0 : Heap) (n0 : Nat) (Z0 : n0 ≤ h0.size) (hmir : MirrorMade Z "[Ljava/lang/Object;") :
    MetFree l x (head1 (Jvm.Cond.code x code maxLocals ret :: ws) room_1) (fun a_ U_ => a_ = #[(.int ai), (.int bi), (.int di)] ∧ Z.Warmed39 U_.vm ∧ U_.heap = h0) (fun _ _ _ _ _ => True) (fun _ U_ o_ U'_ => ∃ v_ L_, o_ = .returned v_ ∧ Q0 n0 v_ U'_.heap L_ ∧ FrameEnd U_ o_ U'_ L_ 24 128) := by
  refine MetFree.of_bodySF (plainFor_of_name pn_5) hisR ?_
  intro p e s m args below meth c s₁ Bd hml0 hP hK
  obtain ⟨rfl, hZ, hh⟩ := hP
  have hx := Bd.exec
  have hby := Bd.bytes
  have hml : c.maxLocals = 18 := hml0
  have hown : s.vm.findClass "com/example/lean_pubsub/leanpubsub/connection/HeldBackIsFullPinLaw" = some m.cls := findClass_of_methodNamed Bd.named
  have hnm := (name_of_methodNamed Bd.named Bd.method).1
  have hlk := BodyLoose.notSynchronized Bd
  have X0 : Stand p l e room_1 s m #[(.int ai), (.int bi), (.int di)] below meth c s₁ [] 0 0 := Stand.of_body Bd
  have e0 : s₁.heap = h0 := by rw [← hh, Bd.state]; rfl
  have N0 := Fr.nil n0
  refine own_entry (P := own_End s (Q0 n0) 24 128) (ef_rm0 m ai bi di) ?_
  show own_Go p e below _ s₁ (mkF m 0 #[.val (.int ai), .val (.int bi), .val (.int di), .unset, .unset, .unset, .unset, .unset, .unset, .unset, .unset, .unset, .unset, .unset, .unset, .unset, .unset, .unset] [])
  refine own_st (fun t_ k_ => XS.iloadN X0.here hx rfl (hb hby at_0) rfl k_) ?_
  show own_Go p e below _ s₁ (mkF m 1 #[.val (.int ai), .val (.int bi), .val (.int di), .unset, .unset, .unset, .unset, .unset, .unset, .unset, .unset, .unset, .unset, .unset, .unset, .unset, .unset, .unset] [(.int di)])
  refine own_st (fun t_ k_ => XS.iconst X0.here hx rfl (hb hby at_1) k_) ?_
  show own_Go p e below _ s₁ (mkF m 2 #[.val (.int ai), .val (.int bi), .val (.int di), .unset, .unset, .unset, .unset, .unset, .unset, .unset, .unset, .unset, .unset, .unset, .unset, .unset, .unset, .unset] [(.int (1 : Int32)), (.int di)])
  refine own_st (fun t_ k_ => XS.iand X0.here hx rfl (hb hby at_2) rfl k_) ?_
  show own_Go p e below _ s₁ (mkF m 3 #[.val (.int ai), .val (.int bi), .val (.int di), .unset, .unset, .unset, .unset, .unset, .unset, .unset, .unset, .unset, .unset, .unset, .unset, .unset, .unset, .unset] [(.int (di &&& (1 : Int32)))])
  refine own_join (α := Int32) (F := fun wd => wd = (0 : Int32) ∨ wd = (1 : Int32)) (T' := s₁) (g' := fun wd => (mkF m 11 #[.val (.int ai), .val (.int bi), .val (.int di), .unset, .unset, .unset, .unset, .unset, .unset, .unset, .unset, .unset, .unset, .unset, .unset, .unset, .unset, .unset] [(.int wd)])) (fun wd h_wd => ?_) (fun J_wd => ?_)
  · show own_Go p e below _ s₁ (mkF m 11 #[.val (.int ai), .val (.int bi), .val (.int di), .unset, .unset, .unset, .unset, .unset, .unset, .unset, .unset, .unset, .unset, .unset, .unset, .unset, .unset, .unset] [(.int wd)])
    refine own_st (fun t_ k_ => XS.istoreN X0.here hx rfl (hb hby at_11) rfl (l' := #[.val (.int ai), .val (.int bi), .val (.int di), .val (.int wd), .unset, .unset, .unset, .unset, .unset, .unset, .unset, .unset, .unset, .unset, .unset, .unset, .unset, .unset]) rfl k_) ?_
    show own_Go p e below _ s₁ (mkF m 12 #[.val (.int ai), .val (.int bi), .val (.int di), .val (.int wd), .unset, .unset, .unset, .unset, .unset, .unset, .unset, .unset, .unset, .unset, .unset, .unset, .unset, .unset] [])
    refine own_st (fun t_ k_ => XS.iloadN X0.here hx rfl (hb hby at_12) rfl k_) ?_
    show own_Go p e below _ s₁ (mkF m 13 #[.val (.int ai), .val (.int bi), .val (.int di), .val (.int wd), .unset, .unset, .unset, .unset, .unset, .unset, .unset, .unset, .unset, .unset, .unset, .unset, .unset, .unset] [(.int wd)])
    refine own_join (α := Int32) (F := fun xx => True) (T' := s₁) (g' := fun xx => (mkF m 24 #[.val (.int ai), .val (.int bi), .val (.int di), .val (.int wd), .unset, .unset, .unset, .unset, .unset, .unset, .unset, .unset, .unset, .unset, .unset, .unset, .unset, .unset] [(.int xx)])) (fun xx h_xx => ?_) (fun J_xx => ?_)
    · show own_Go p e below _ s₁ (mkF m 24 #[.val (.int ai), .val (.int bi), .val (.int di), .val (.int wd), .unset, .unset, .unset, .unset, .unset, .unset, .unset, .unset, .unset, .unset, .unset, .unset, .unset, .unset] [(.int xx)])
      refine own_st (fun t_ k_ => XS.istore X0.here hx rfl (hb hby at_24) rfl (l' := #[.val (.int ai), .val (.int bi), .val (.int di), .val (.int wd), .val (.int xx), .unset, .unset, .unset, .unset, .unset, .unset, .unset, .unset, .unset, .unset, .unset, .unset, .unset]) rfl k_) ?_
      show own_Go p e below _ s₁ (mkF m 26 #[.val (.int ai), .val (.int bi), .val (.int di), .val (.int wd), .val (.int xx), .unset, .unset, .unset, .unset, .unset, .unset, .unset, .unset, .unset, .unset, .unset, .unset, .unset] [])
      refine own_st (fun t_ k_ => XS.iloadN X0.here hx rfl (hb hby at_26) rfl k_) ?_
      show own_Go p e below _ s₁ (mkF m 27 #[.val (.int ai), .val (.int bi), .val (.int di), .val (.int wd), .val (.int xx), .unset, .unset, .unset, .unset, .unset, .unset, .unset, .unset, .unset, .unset, .unset, .unset, .unset] [(.int wd)])
      refine own_join (α := Int32) (F := fun yy => True) (T' := s₁) (g' := fun yy => (mkF m 46 #[.val (.int ai), .val (.int bi), .val (.int di), .val (.int wd), .val (.int xx), .unset, .unset, .unset, .unset, .unset, .unset, .unset, .unset, .unset, .unset, .unset, .unset, .unset] [(.int yy)])) (fun yy h_yy => ?_) (fun J_yy => ?_)
      · show own_Go p e below _ s₁ (mkF m 46 #[.val (.int ai), .val (.int bi), .val (.int di), .val (.int wd), .val (.int xx), .unset, .unset, .unset, .unset, .unset, .unset, .unset, .unset, .unset, .unset, .unset, .unset, .unset] [(.int yy)])
        refine own_st (fun t_ k_ => XS.istore X0.here hx rfl (hb hby at_46) rfl (l' := #[.val (.int ai), .val (.int bi), .val (.int di), .val (.int wd), .val (.int xx), .val (.int yy), .unset, .unset, .unset, .unset, .unset, .unset, .unset, .unset, .unset, .unset, .unset, .unset]) rfl k_) ?_
        show own_Go p e below _ s₁ (mkF m 48 #[.val (.int ai), .val (.int bi), .val (.int di), .val (.int wd), .val (.int xx), .val (.int yy), .unset, .unset, .unset, .unset, .unset, .unset, .unset, .unset, .unset, .unset, .unset, .unset] [])
        obtain ⟨T4, h4, X4, e4, E4, A4, D4, cel4, st4⟩ := newO X0 hx hZ hown (hw _ (List.mem_of_getElem? (i := 2) rfl)) (hw _ (List.mem_of_getElem? (i := 3) rfl)) (hw _ (List.mem_of_getElem? (i := 4) rfl)) e0 (g := (mkF m 48 #[.val (.int ai), .val (.int bi), .val (.int di), .val (.int wd), .val (.int xx), .val (.int yy), .unset, .unset, .unset, .unset, .unset, .unset, .unset, .unset, .unset, .unset, .unset, .unset] [])) rfl (hb hby at_48) (by decide) (by decide)
        obtain ⟨nb4, g4⟩ : ∃ z, z = h0.size := ⟨_, rfl⟩
        rw [← g4] at A4 D4 cel4 st4
        refine own_st st4 ?_
        have g_nb4 : n0 ≤ nb4 := Nat.le_trans (Nat.le_trans Z0 (Keep.refl h0 []).1) (Nat.le_of_eq g4.symm)
        have K4 : Keep h0 h4 [] := (Keep.refl h0 []).ext E4
        have sz_nb4 : h0.size ≤ nb4 := Nat.le_trans (Keep.refl h0 []).1 (Nat.le_of_eq g4.symm)
        have F4_held : Fld Z h4 nb4 "com/example/lean_pubsub/leanpubsub/connection/HeldBack" "held" "Ljava/util/Queue;" .null := D4 (Or.inr (hw _ (List.mem_of_getElem? (i := 30) rfl))) (ty := (.object "java/util/Queue")) (by decide)
        have F4_bytes : Fld Z h4 nb4 "com/example/lean_pubsub/leanpubsub/connection/HeldBack" "bytes" "J" (.long (0 : Int64)) := D4 (Or.inl (hw _ (List.mem_of_getElem? (i := 37) rfl))) (ty := .long) (by decide)
        show own_Go p e below _ T4 (mkF m 51 #[.val (.int ai), .val (.int bi), .val (.int di), .val (.int wd), .val (.int xx), .val (.int yy), .unset, .unset, .unset, .unset, .unset, .unset, .unset, .unset, .unset, .unset, .unset, .unset] [(.ref nb4)])
        refine own_st (fun t_ k_ => XS.dup X4.here hx rfl (hb hby at_51) rfl rfl k_) ?_
        show own_Go p e below _ T4 (mkF m 52 #[.val (.int ai), .val (.int bi), .val (.int di), .val (.int wd), .val (.int xx), .val (.int yy), .unset, .unset, .unset, .unset, .unset, .unset, .unset, .unset, .unset, .unset, .unset, .unset] [(.ref nb4), (.ref nb4)])
        refine own_callN X4 hx (y := (⟨"com/example/lean_pubsub/leanpubsub/connection/HeldBack", "<init>", "()V"⟩ : MethodName)) rfl hown (mvT hZ (hw _ (List.mem_of_getElem? (i := 5) rfl))) (mvT hZ (hw _ (List.mem_of_getElem? (i := 6) rfl))) (mvT hZ (hw _ (List.mem_of_getElem? (i := 7) rfl))) (by decide) (backOf (W := 1) (rmHB l Z a0 hw [] nb4 h4 n0 (Nat.le_trans Z0 K4.1) g_nb4 A4 F4_held F4_bytes) hZ (hw _ (List.mem_of_getElem? (i := 7) rfl)) (hw _ (List.mem_of_getElem? (i := 4) rfl)) (by decide) (by decide)) (a := nb4) (g := (mkF m 52 #[.val (.int ai), .val (.int bi), .val (.int di), .val (.int wd), .val (.int xx), .val (.int yy), .unset, .unset, .unset, .unset, .unset, .unset, .unset, .unset, .unset, .unset, .unset, .unset] [(.ref nb4), (.ref nb4)])) rfl (by rw [hml]; rfl) (argsL := []) (rest := [(.ref nb4)]) (lenOf pd_0 rfl) rfl (by show 2 * 0 + _ ≤ _; exact Nat.le_of_eq rfl) (hb hby at_52) rfl e4 (by decide) (by decide) ?_
        rintro v5 T5 L5 X5 ⟨d5, t5, k5, rfl, Nq5, Kq5, gd5, g_d5, gt5, g_t5, Eq5, Fq5, Fb5, Ed5, F1_5, F2_5, F3_5, Aq5, Oq5, Eo5⟩
        have N5 := Fr.app N0 Nq5
        have K5 : Keep h0 T5.heap [] := K4.trans Kq5 (allS (Or.inr sz_nb4) all0)
        show own_Go p e below _ T5 (mkF m 55 #[.val (.int ai), .val (.int bi), .val (.int di), .val (.int wd), .val (.int xx), .val (.int yy), .unset, .unset, .unset, .unset, .unset, .unset, .unset, .unset, .unset, .unset, .unset, .unset] [(.ref nb4)])
        have sz_d5 : h0.size ≤ d5 := Nat.le_trans K4.1 gd5
        have sz_t5 : h0.size ≤ t5 := Nat.le_trans K4.1 gt5
        refine own_st (fun t_ k_ => XS.astore X5.here hx rfl (hb hby at_55) rfl rfl (l' := #[.val (.int ai), .val (.int bi), .val (.int di), .val (.int wd), .val (.int xx), .val (.int yy), .val (.ref nb4), .unset, .unset, .unset, .unset, .unset, .unset, .unset, .unset, .unset, .unset, .unset]) rfl k_) ?_
        show own_Go p e below _ T5 (mkF m 57 #[.val (.int ai), .val (.int bi), .val (.int di), .val (.int wd), .val (.int xx), .val (.int yy), .val (.ref nb4), .unset, .unset, .unset, .unset, .unset, .unset, .unset, .unset, .unset, .unset, .unset] [])
        refine own_st (fun t_ k_ => XS.aload X5.here hx rfl (hb hby at_57) rfl rfl k_) ?_
        show own_Go p e below _ T5 (mkF m 59 #[.val (.int ai), .val (.int bi), .val (.int di), .val (.int wd), .val (.int xx), .val (.int yy), .val (.ref nb4), .unset, .unset, .unset, .unset, .unset, .unset, .unset, .unset, .unset, .unset, .unset] [(.ref nb4)])
        obtain ⟨cq7, kq7, q7a, q7b, q7c⟩ := isOf hZ rfl Eq5
        refine own_callV X5 hx (y := (⟨"com/example/lean_pubsub/leanpubsub/connection/HeldBack", "isFull", "()Z"⟩ : MethodName)) (z := (⟨"com/example/lean_pubsub/leanpubsub/connection/HeldBack", "isFull", "()Z"⟩ : MethodName)) hown (mvT hZ (hw _ (List.mem_of_getElem? (i := 31) rfl))) (mvT hZ (hw _ (List.mem_of_getElem? (i := 32) rfl))) (notFace_of_selects (args := #[]) (mvT hZ (hw _ (List.mem_of_getElem? (i := 34) rfl)))) (mvT hZ (hw _ (List.mem_of_getElem? (i := 34) rfl))) (mvT hZ (hw _ (List.mem_of_getElem? (i := 33) rfl))) (by decide) (backOf (W := 0) (rmIF l Z a0 hw [] nb4 (0 : Int64) T5.heap n0 (Nat.le_trans Z0 K5.1) Fb5) hZ (hw _ (List.mem_of_getElem? (i := 35) rfl)) (hw _ (List.mem_of_getElem? (i := 4) rfl)) (by decide) (by decide)) q7a q7c (g := (mkF m 59 #[.val (.int ai), .val (.int bi), .val (.int di), .val (.int wd), .val (.int xx), .val (.int yy), .val (.ref nb4), .unset, .unset, .unset, .unset, .unset, .unset, .unset, .unset, .unset, .unset, .unset] [(.ref nb4)])) rfl (by rw [hml]; rfl) (argsL := []) (rest := []) (lenOf pd_7 rfl) rfl (by show 2 * 0 + _ ≤ _; exact Nat.le_of_eq rfl) (hb hby at_59) rfl rfl (by decide) (by decide) ?_
        rintro v6 T6 L6 X6 ⟨rfl, Nq6, hh6⟩
        have N6 := Fr.app N5 Nq6
        show own_Go p e below _ T6 (mkF m 62 #[.val (.int ai), .val (.int bi), .val (.int di), .val (.int wd), .val (.int xx), .val (.int yy), .val (.ref nb4), .unset, .unset, .unset, .unset, .unset, .unset, .unset, .unset, .unset, .unset, .unset] [(.int (own_full (0 : Int64)))])
        refine own_st (fun t_ k_ => XS.istore X6.here hx rfl (hb hby at_62) rfl (l' := #[.val (.int ai), .val (.int bi), .val (.int di), .val (.int wd), .val (.int xx), .val (.int yy), .val (.ref nb4), .val (.int (own_full (0 : Int64))), .unset, .unset, .unset, .unset, .unset, .unset, .unset, .unset, .unset, .unset]) rfl k_) ?_
        show own_Go p e below _ T6 (mkF m 64 #[.val (.int ai), .val (.int bi), .val (.int di), .val (.int wd), .val (.int xx), .val (.int yy), .val (.ref nb4), .val (.int (own_full (0 : Int64))), .unset, .unset, .unset, .unset, .unset, .unset, .unset, .unset, .unset, .unset] [])
        refine own_st (fun t_ k_ => XS.aload X6.here hx rfl (hb hby at_64) rfl rfl k_) ?_
        show own_Go p e below _ T6 (mkF m 66 #[.val (.int ai), .val (.int bi), .val (.int di), .val (.int wd), .val (.int xx), .val (.int yy), .val (.ref nb4), .val (.int (own_full (0 : Int64))), .unset, .unset, .unset, .unset, .unset, .unset, .unset, .unset, .unset, .unset] [(.ref nb4)])
        refine own_st (fun t_ k_ => XS.iload X6.here hx rfl (hb hby at_66) rfl k_) ?_
        show own_Go p e below _ T6 (mkF m 68 #[.val (.int ai), .val (.int bi), .val (.int di), .val (.int wd), .val (.int xx), .val (.int yy), .val (.ref nb4), .val (.int (own_full (0 : Int64))), .unset, .unset, .unset, .unset, .unset, .unset, .unset, .unset, .unset, .unset] [(.int xx), (.ref nb4)])
        refine own_st (fun t_ k_ => XS.aconstNull X6.here hx rfl (hb hby at_68) k_) ?_
        show own_Go p e below _ T6 (mkF m 69 #[.val (.int ai), .val (.int bi), .val (.int di), .val (.int wd), .val (.int xx), .val (.int yy), .val (.ref nb4), .val (.int (own_full (0 : Int64))), .unset, .unset, .unset, .unset, .unset, .unset, .unset, .unset, .unset, .unset] [.null, (.int xx), (.ref nb4)])
        obtain ⟨cq9, kq9, q9a, q9b, q9c⟩ := isOf hZ hh6 Eq5
        refine own_callV X6 hx (y := (⟨"com/example/lean_pubsub/leanpubsub/connection/HeldBack", "add", "(ILjava/lang/Runnable;)Z"⟩ : MethodName)) (z := (⟨"com/example/lean_pubsub/leanpubsub/connection/HeldBack", "add", "(ILjava/lang/Runnable;)Z"⟩ : MethodName)) hown (mvT hZ (hw _ (List.mem_of_getElem? (i := 39) rfl))) (mvT hZ (hw _ (List.mem_of_getElem? (i := 40) rfl))) (notFace_of_selects (args := #[]) (mvT hZ (hw _ (List.mem_of_getElem? (i := 42) rfl)))) (mvT hZ (hw _ (List.mem_of_getElem? (i := 42) rfl))) (mvT hZ (hw _ (List.mem_of_getElem? (i := 41) rfl))) (by decide) (backOf (W := 0) (rmB0 l Z a0 hw [] nb4 d5 t5 k5 xx (0 : Int64) (xx.toInt64) T5.heap n0 (Nat.le_trans Z0 K5.1) g_nb4 Eq5 Fq5 Fb5 (Int64.zero_add _).symm hmir g_d5 g_t5 Ed5 F1_5 F2_5 F3_5 Oq5 Eo5 Aq5) hZ (hw _ (List.mem_of_getElem? (i := 43) rfl)) (hw _ (List.mem_of_getElem? (i := 4) rfl)) (by decide) (by decide)) q9a q9c (g := (mkF m 69 #[.val (.int ai), .val (.int bi), .val (.int di), .val (.int wd), .val (.int xx), .val (.int yy), .val (.ref nb4), .val (.int (own_full (0 : Int64))), .unset, .unset, .unset, .unset, .unset, .unset, .unset, .unset, .unset, .unset] [.null, (.int xx), (.ref nb4)])) rfl (by rw [hml]; rfl) (argsL := [(.int xx), .null]) (rest := []) (lenOf pd_8 rfl) rfl (by show 2 * 0 + _ ≤ _; exact Nat.le_of_eq rfl) (hb hby at_69) rfl hh6 (by decide) (by decide) ?_
        rintro v8 T8 L8 X8 ⟨u8, rfl, Nq8, Kq8, Eq8, Fq8, Fb8, Eu8, Ed8, F1_8, F2_8, F3_8, Aq8, Eo8⟩
        have N8 := Fr.app N6 Nq8
        have K8 : Keep h0 T8.heap [] := K5.trans Kq8 (allS (Or.inr sz_nb4) (allS (Or.inr sz_d5) (allS (Or.inr sz_t5) all0)))
        show own_Go p e below _ T8 (mkF m 72 #[.val (.int ai), .val (.int bi), .val (.int di), .val (.int wd), .val (.int xx), .val (.int yy), .val (.ref nb4), .val (.int (own_full (0 : Int64))), .unset, .unset, .unset, .unset, .unset, .unset, .unset, .unset, .unset, .unset] [(.int (own_full (xx.toInt64)))])
        refine own_st (fun t_ k_ => XS.istore X8.here hx rfl (hb hby at_72) rfl (l' := #[.val (.int ai), .val (.int bi), .val (.int di), .val (.int wd), .val (.int xx), .val (.int yy), .val (.ref nb4), .val (.int (own_full (0 : Int64))), .val (.int (own_full (xx.toInt64))), .unset, .unset, .unset, .unset, .unset, .unset, .unset, .unset, .unset]) rfl k_) ?_
        show own_Go p e below _ T8 (mkF m 74 #[.val (.int ai), .val (.int bi), .val (.int di), .val (.int wd), .val (.int xx), .val (.int yy), .val (.ref nb4), .val (.int (own_full (0 : Int64))), .val (.int (own_full (xx.toInt64))), .unset, .unset, .unset, .unset, .unset, .unset, .unset, .unset, .unset] [])
        refine own_st (fun t_ k_ => XS.aload X8.here hx rfl (hb hby at_74) rfl rfl k_) ?_
        show own_Go p e below _ T8 (mkF m 76 #[.val (.int ai), .val (.int bi), .val (.int di), .val (.int wd), .val (.int xx), .val (.int yy), .val (.ref nb4), .val (.int (own_full (0 : Int64))), .val (.int (own_full (xx.toInt64))), .unset, .unset, .unset, .unset, .unset, .unset, .unset, .unset, .unset] [(.ref nb4)])
        obtain ⟨cq11, kq11, q11a, q11b, q11c⟩ := isOf hZ rfl Eq8
        refine own_callV X8 hx (y := (⟨"com/example/lean_pubsub/leanpubsub/connection/HeldBack", "isFull", "()Z"⟩ : MethodName)) (z := (⟨"com/example/lean_pubsub/leanpubsub/connection/HeldBack", "isFull", "()Z"⟩ : MethodName)) hown (mvT hZ (hw _ (List.mem_of_getElem? (i := 31) rfl))) (mvT hZ (hw _ (List.mem_of_getElem? (i := 32) rfl))) (notFace_of_selects (args := #[]) (mvT hZ (hw _ (List.mem_of_getElem? (i := 34) rfl)))) (mvT hZ (hw _ (List.mem_of_getElem? (i := 34) rfl))) (mvT hZ (hw _ (List.mem_of_getElem? (i := 33) rfl))) (by decide) (backOf (W := 0) (rmIF l Z a0 hw [] nb4 (xx.toInt64) T8.heap n0 (Nat.le_trans Z0 K8.1) Fb8) hZ (hw _ (List.mem_of_getElem? (i := 35) rfl)) (hw _ (List.mem_of_getElem? (i := 4) rfl)) (by decide) (by decide)) q11a q11c (g := (mkF m 76 #[.val (.int ai), .val (.int bi), .val (.int di), .val (.int wd), .val (.int xx), .val (.int yy), .val (.ref nb4), .val (.int (own_full (0 : Int64))), .val (.int (own_full (xx.toInt64))), .unset, .unset, .unset, .unset, .unset, .unset, .unset, .unset, .unset] [(.ref nb4)])) rfl (by rw [hml]; rfl) (argsL := []) (rest := []) (lenOf pd_7 rfl) rfl (by show 2 * 0 + _ ≤ _; exact Nat.le_of_eq rfl) (hb hby at_76) rfl rfl (by decide) (by decide) ?_
        rintro v10 T10 L10 X10 ⟨rfl, Nq10, hh10⟩
        have N10 := Fr.app N8 Nq10
        show own_Go p e below _ T10 (mkF m 79 #[.val (.int ai), .val (.int bi), .val (.int di), .val (.int wd), .val (.int xx), .val (.int yy), .val (.ref nb4), .val (.int (own_full (0 : Int64))), .val (.int (own_full (xx.toInt64))), .unset, .unset, .unset, .unset, .unset, .unset, .unset, .unset, .unset] [(.int (own_full (xx.toInt64)))])
        refine own_st (fun t_ k_ => XS.istore X10.here hx rfl (hb hby at_79) rfl (l' := #[.val (.int ai), .val (.int bi), .val (.int di), .val (.int wd), .val (.int xx), .val (.int yy), .val (.ref nb4), .val (.int (own_full (0 : Int64))), .val (.int (own_full (xx.toInt64))), .val (.int (own_full (xx.toInt64))), .unset, .unset, .unset, .unset, .unset, .unset, .unset, .unset]) rfl k_) ?_
        show own_Go p e below _ T10 (mkF m 81 #[.val (.int ai), .val (.int bi), .val (.int di), .val (.int wd), .val (.int xx), .val (.int yy), .val (.ref nb4), .val (.int (own_full (0 : Int64))), .val (.int (own_full (xx.toInt64))), .val (.int (own_full (xx.toInt64))), .unset, .unset, .unset, .unset, .unset, .unset, .unset, .unset] [])
        refine own_st (fun t_ k_ => XS.aload X10.here hx rfl (hb hby at_81) rfl rfl k_) ?_
        show own_Go p e below _ T10 (mkF m 83 #[.val (.int ai), .val (.int bi), .val (.int di), .val (.int wd), .val (.int xx), .val (.int yy), .val (.ref nb4), .val (.int (own_full (0 : Int64))), .val (.int (own_full (xx.toInt64))), .val (.int (own_full (xx.toInt64))), .unset, .unset, .unset, .unset, .unset, .unset, .unset, .unset] [(.ref nb4)])
        refine own_st (fun t_ k_ => XS.iload X10.here hx rfl (hb hby at_83) rfl k_) ?_
        show own_Go p e below _ T10 (mkF m 85 #[.val (.int ai), .val (.int bi), .val (.int di), .val (.int wd), .val (.int xx), .val (.int yy), .val (.ref nb4), .val (.int (own_full (0 : Int64))), .val (.int (own_full (xx.toInt64))), .val (.int (own_full (xx.toInt64))), .unset, .unset, .unset, .unset, .unset, .unset, .unset, .unset] [(.int yy), (.ref nb4)])
        refine own_st (fun t_ k_ => XS.aconstNull X10.here hx rfl (hb hby at_85) k_) ?_
        show own_Go p e below _ T10 (mkF m 86 #[.val (.int ai), .val (.int bi), .val (.int di), .val (.int wd), .val (.int xx), .val (.int yy), .val (.ref nb4), .val (.int (own_full (0 : Int64))), .val (.int (own_full (xx.toInt64))), .val (.int (own_full (xx.toInt64))), .unset, .unset, .unset, .unset, .unset, .unset, .unset, .unset] [.null, (.int yy), (.ref nb4)])
        obtain ⟨cq13, kq13, q13a, q13b, q13c⟩ := isOf hZ hh10 Eq8
        refine own_callV X10 hx (y := (⟨"com/example/lean_pubsub/leanpubsub/connection/HeldBack", "add", "(ILjava/lang/Runnable;)Z"⟩ : MethodName)) (z := (⟨"com/example/lean_pubsub/leanpubsub/connection/HeldBack", "add", "(ILjava/lang/Runnable;)Z"⟩ : MethodName)) hown (mvT hZ (hw _ (List.mem_of_getElem? (i := 39) rfl))) (mvT hZ (hw _ (List.mem_of_getElem? (i := 40) rfl))) (notFace_of_selects (args := #[]) (mvT hZ (hw _ (List.mem_of_getElem? (i := 42) rfl)))) (mvT hZ (hw _ (List.mem_of_getElem? (i := 42) rfl))) (mvT hZ (hw _ (List.mem_of_getElem? (i := 41) rfl))) (by decide) (backOf (W := 0) (rmB1 l Z a0 hw [] nb4 d5 t5 u8 k5 yy (xx.toInt64) ((xx.toInt64) + yy.toInt64) T8.heap n0 (Nat.le_trans Z0 K8.1) g_nb4 Eq8 Fq8 Fb8 rfl hmir g_d5 g_t5 Ed8 F1_8 F2_8 F3_8 Oq5 Eo8 Aq8 Eu8) hZ (hw _ (List.mem_of_getElem? (i := 43) rfl)) (hw _ (List.mem_of_getElem? (i := 4) rfl)) (by decide) (by decide)) q13a q13c (g := (mkF m 86 #[.val (.int ai), .val (.int bi), .val (.int di), .val (.int wd), .val (.int xx), .val (.int yy), .val (.ref nb4), .val (.int (own_full (0 : Int64))), .val (.int (own_full (xx.toInt64))), .val (.int (own_full (xx.toInt64))), .unset, .unset, .unset, .unset, .unset, .unset, .unset, .unset] [.null, (.int yy), (.ref nb4)])) rfl (by rw [hml]; rfl) (argsL := [(.int yy), .null]) (rest := []) (lenOf pd_8 rfl) rfl (by show 2 * 0 + _ ≤ _; exact Nat.le_of_eq rfl) (hb hby at_86) rfl hh10 (by decide) (by decide) ?_
        rintro v12 T12 L12 X12 ⟨rfl, Nq12, Kq12, Eq12, Fb12⟩
        have N12 := Fr.app N10 Nq12
        have K12 : Keep h0 T12.heap [] := K8.trans Kq12 (allS (Or.inr sz_nb4) (allS (Or.inr sz_d5) (allS (Or.inr sz_t5) all0)))
        show own_Go p e below _ T12 (mkF m 89 #[.val (.int ai), .val (.int bi), .val (.int di), .val (.int wd), .val (.int xx), .val (.int yy), .val (.ref nb4), .val (.int (own_full (0 : Int64))), .val (.int (own_full (xx.toInt64))), .val (.int (own_full (xx.toInt64))), .unset, .unset, .unset, .unset, .unset, .unset, .unset, .unset] [(.int (own_full ((xx.toInt64) + yy.toInt64)))])
        refine own_st (fun t_ k_ => XS.istore X12.here hx rfl (hb hby at_89) rfl (l' := #[.val (.int ai), .val (.int bi), .val (.int di), .val (.int wd), .val (.int xx), .val (.int yy), .val (.ref nb4), .val (.int (own_full (0 : Int64))), .val (.int (own_full (xx.toInt64))), .val (.int (own_full (xx.toInt64))), .val (.int (own_full ((xx.toInt64) + yy.toInt64))), .unset, .unset, .unset, .unset, .unset, .unset, .unset]) rfl k_) ?_
        show own_Go p e below _ T12 (mkF m 91 #[.val (.int ai), .val (.int bi), .val (.int di), .val (.int wd), .val (.int xx), .val (.int yy), .val (.ref nb4), .val (.int (own_full (0 : Int64))), .val (.int (own_full (xx.toInt64))), .val (.int (own_full (xx.toInt64))), .val (.int (own_full ((xx.toInt64) + yy.toInt64))), .unset, .unset, .unset, .unset, .unset, .unset, .unset] [])
        refine own_st (fun t_ k_ => XS.aload X12.here hx rfl (hb hby at_91) rfl rfl k_) ?_
        show own_Go p e below _ T12 (mkF m 93 #[.val (.int ai), .val (.int bi), .val (.int di), .val (.int wd), .val (.int xx), .val (.int yy), .val (.ref nb4), .val (.int (own_full (0 : Int64))), .val (.int (own_full (xx.toInt64))), .val (.int (own_full (xx.toInt64))), .val (.int (own_full ((xx.toInt64) + yy.toInt64))), .unset, .unset, .unset, .unset, .unset, .unset, .unset] [(.ref nb4)])
        obtain ⟨cq15, kq15, q15a, q15b, q15c⟩ := isOf hZ rfl Eq12
        refine own_callV X12 hx (y := (⟨"com/example/lean_pubsub/leanpubsub/connection/HeldBack", "isFull", "()Z"⟩ : MethodName)) (z := (⟨"com/example/lean_pubsub/leanpubsub/connection/HeldBack", "isFull", "()Z"⟩ : MethodName)) hown (mvT hZ (hw _ (List.mem_of_getElem? (i := 31) rfl))) (mvT hZ (hw _ (List.mem_of_getElem? (i := 32) rfl))) (notFace_of_selects (args := #[]) (mvT hZ (hw _ (List.mem_of_getElem? (i := 34) rfl)))) (mvT hZ (hw _ (List.mem_of_getElem? (i := 34) rfl))) (mvT hZ (hw _ (List.mem_of_getElem? (i := 33) rfl))) (by decide) (backOf (W := 0) (rmIF l Z a0 hw [] nb4 ((xx.toInt64) + yy.toInt64) T12.heap n0 (Nat.le_trans Z0 K12.1) Fb12) hZ (hw _ (List.mem_of_getElem? (i := 35) rfl)) (hw _ (List.mem_of_getElem? (i := 4) rfl)) (by decide) (by decide)) q15a q15c (g := (mkF m 93 #[.val (.int ai), .val (.int bi), .val (.int di), .val (.int wd), .val (.int xx), .val (.int yy), .val (.ref nb4), .val (.int (own_full (0 : Int64))), .val (.int (own_full (xx.toInt64))), .val (.int (own_full (xx.toInt64))), .val (.int (own_full ((xx.toInt64) + yy.toInt64))), .unset, .unset, .unset, .unset, .unset, .unset, .unset] [(.ref nb4)])) rfl (by rw [hml]; rfl) (argsL := []) (rest := []) (lenOf pd_7 rfl) rfl (by show 2 * 0 + _ ≤ _; exact Nat.le_of_eq rfl) (hb hby at_93) rfl rfl (by decide) (by decide) ?_
        rintro v14 T14 L14 X14 ⟨rfl, Nq14, hh14⟩
        have N14 := Fr.app N12 Nq14
        show own_Go p e below _ T14 (mkF m 96 #[.val (.int ai), .val (.int bi), .val (.int di), .val (.int wd), .val (.int xx), .val (.int yy), .val (.ref nb4), .val (.int (own_full (0 : Int64))), .val (.int (own_full (xx.toInt64))), .val (.int (own_full (xx.toInt64))), .val (.int (own_full ((xx.toInt64) + yy.toInt64))), .unset, .unset, .unset, .unset, .unset, .unset, .unset] [(.int (own_full ((xx.toInt64) + yy.toInt64)))])
        refine own_st (fun t_ k_ => XS.istore X14.here hx rfl (hb hby at_96) rfl (l' := #[.val (.int ai), .val (.int bi), .val (.int di), .val (.int wd), .val (.int xx), .val (.int yy), .val (.ref nb4), .val (.int (own_full (0 : Int64))), .val (.int (own_full (xx.toInt64))), .val (.int (own_full (xx.toInt64))), .val (.int (own_full ((xx.toInt64) + yy.toInt64))), .val (.int (own_full ((xx.toInt64) + yy.toInt64))), .unset, .unset, .unset, .unset, .unset, .unset]) rfl k_) ?_
        show own_Go p e below _ T14 (mkF m 98 #[.val (.int ai), .val (.int bi), .val (.int di), .val (.int wd), .val (.int xx), .val (.int yy), .val (.ref nb4), .val (.int (own_full (0 : Int64))), .val (.int (own_full (xx.toInt64))), .val (.int (own_full (xx.toInt64))), .val (.int (own_full ((xx.toInt64) + yy.toInt64))), .val (.int (own_full ((xx.toInt64) + yy.toInt64))), .unset, .unset, .unset, .unset, .unset, .unset] [])
        refine own_st (fun t_ k_ => XS.iload X14.here hx rfl (hb hby at_98) rfl k_) ?_
        show own_Go p e below _ T14 (mkF m 100 #[.val (.int ai), .val (.int bi), .val (.int di), .val (.int wd), .val (.int xx), .val (.int yy), .val (.ref nb4), .val (.int (own_full (0 : Int64))), .val (.int (own_full (xx.toInt64))), .val (.int (own_full (xx.toInt64))), .val (.int (own_full ((xx.toInt64) + yy.toInt64))), .val (.int (own_full ((xx.toInt64) + yy.toInt64))), .unset, .unset, .unset, .unset, .unset, .unset] [(.int xx)])
        refine own_st (fun t_ k_ => XS.i2l X14.here hx rfl (hb hby at_100) rfl k_) ?_
        show own_Go p e below _ T14 (mkF m 101 #[.val (.int ai), .val (.int bi), .val (.int di), .val (.int wd), .val (.int xx), .val (.int yy), .val (.ref nb4), .val (.int (own_full (0 : Int64))), .val (.int (own_full (xx.toInt64))), .val (.int (own_full (xx.toInt64))), .val (.int (own_full ((xx.toInt64) + yy.toInt64))), .val (.int (own_full ((xx.toInt64) + yy.toInt64))), .unset, .unset, .unset, .unset, .unset, .unset] [(.long (xx.toInt64))])
        refine own_st (fun t_ k_ => XS.lstore X14.here hx rfl (hb hby at_101) rfl (l' := #[.val (.int ai), .val (.int bi), .val (.int di), .val (.int wd), .val (.int xx), .val (.int yy), .val (.ref nb4), .val (.int (own_full (0 : Int64))), .val (.int (own_full (xx.toInt64))), .val (.int (own_full (xx.toInt64))), .val (.int (own_full ((xx.toInt64) + yy.toInt64))), .val (.int (own_full ((xx.toInt64) + yy.toInt64))), .val (.long (xx.toInt64)), .second, .unset, .unset, .unset, .unset]) rfl k_) ?_
        show own_Go p e below _ T14 (mkF m 103 #[.val (.int ai), .val (.int bi), .val (.int di), .val (.int wd), .val (.int xx), .val (.int yy), .val (.ref nb4), .val (.int (own_full (0 : Int64))), .val (.int (own_full (xx.toInt64))), .val (.int (own_full (xx.toInt64))), .val (.int (own_full ((xx.toInt64) + yy.toInt64))), .val (.int (own_full ((xx.toInt64) + yy.toInt64))), .val (.long (xx.toInt64)), .second, .unset, .unset, .unset, .unset] [])
        refine own_st (fun t_ k_ => XS.lload X14.here hx rfl (hb hby at_103) rfl k_) ?_
        show own_Go p e below _ T14 (mkF m 105 #[.val (.int ai), .val (.int bi), .val (.int di), .val (.int wd), .val (.int xx), .val (.int yy), .val (.ref nb4), .val (.int (own_full (0 : Int64))), .val (.int (own_full (xx.toInt64))), .val (.int (own_full (xx.toInt64))), .val (.int (own_full ((xx.toInt64) + yy.toInt64))), .val (.int (own_full ((xx.toInt64) + yy.toInt64))), .val (.long (xx.toInt64)), .second, .unset, .unset, .unset, .unset] [(.long (xx.toInt64))])
        refine own_st (fun t_ k_ => XS.iload X14.here hx rfl (hb hby at_105) rfl k_) ?_
        show own_Go p e below _ T14 (mkF m 107 #[.val (.int ai), .val (.int bi), .val (.int di), .val (.int wd), .val (.int xx), .val (.int yy), .val (.ref nb4), .val (.int (own_full (0 : Int64))), .val (.int (own_full (xx.toInt64))), .val (.int (own_full (xx.toInt64))), .val (.int (own_full ((xx.toInt64) + yy.toInt64))), .val (.int (own_full ((xx.toInt64) + yy.toInt64))), .val (.long (xx.toInt64)), .second, .unset, .unset, .unset, .unset] [(.int yy), (.long (xx.toInt64))])
        refine own_st (fun t_ k_ => XS.i2l X14.here hx rfl (hb hby at_107) rfl k_) ?_
        show own_Go p e below _ T14 (mkF m 108 #[.val (.int ai), .val (.int bi), .val (.int di), .val (.int wd), .val (.int xx), .val (.int yy), .val (.ref nb4), .val (.int (own_full (0 : Int64))), .val (.int (own_full (xx.toInt64))), .val (.int (own_full (xx.toInt64))), .val (.int (own_full ((xx.toInt64) + yy.toInt64))), .val (.int (own_full ((xx.toInt64) + yy.toInt64))), .val (.long (xx.toInt64)), .second, .unset, .unset, .unset, .unset] [(.long (yy.toInt64)), (.long (xx.toInt64))])
        refine own_st (fun t_ k_ => XS.ladd X14.here hx rfl (hb hby at_108) rfl k_) ?_
        show own_Go p e below _ T14 (mkF m 109 #[.val (.int ai), .val (.int bi), .val (.int di), .val (.int wd), .val (.int xx), .val (.int yy), .val (.ref nb4), .val (.int (own_full (0 : Int64))), .val (.int (own_full (xx.toInt64))), .val (.int (own_full (xx.toInt64))), .val (.int (own_full ((xx.toInt64) + yy.toInt64))), .val (.int (own_full ((xx.toInt64) + yy.toInt64))), .val (.long (xx.toInt64)), .second, .unset, .unset, .unset, .unset] [(.long ((xx.toInt64) + (yy.toInt64)))])
        refine own_st (fun t_ k_ => XS.lstore X14.here hx rfl (hb hby at_109) rfl (l' := #[.val (.int ai), .val (.int bi), .val (.int di), .val (.int wd), .val (.int xx), .val (.int yy), .val (.ref nb4), .val (.int (own_full (0 : Int64))), .val (.int (own_full (xx.toInt64))), .val (.int (own_full (xx.toInt64))), .val (.int (own_full ((xx.toInt64) + yy.toInt64))), .val (.int (own_full ((xx.toInt64) + yy.toInt64))), .val (.long (xx.toInt64)), .second, .val (.long ((xx.toInt64) + (yy.toInt64))), .second, .unset, .unset]) rfl k_) ?_
        show own_Go p e below _ T14 (mkF m 111 #[.val (.int ai), .val (.int bi), .val (.int di), .val (.int wd), .val (.int xx), .val (.int yy), .val (.ref nb4), .val (.int (own_full (0 : Int64))), .val (.int (own_full (xx.toInt64))), .val (.int (own_full (xx.toInt64))), .val (.int (own_full ((xx.toInt64) + yy.toInt64))), .val (.int (own_full ((xx.toInt64) + yy.toInt64))), .val (.long (xx.toInt64)), .second, .val (.long ((xx.toInt64) + (yy.toInt64))), .second, .unset, .unset] [])
        refine own_st (fun t_ k_ => XS.lload X14.here hx rfl (hb hby at_111) rfl k_) ?_
        show own_Go p e below _ T14 (mkF m 113 #[.val (.int ai), .val (.int bi), .val (.int di), .val (.int wd), .val (.int xx), .val (.int yy), .val (.ref nb4), .val (.int (own_full (0 : Int64))), .val (.int (own_full (xx.toInt64))), .val (.int (own_full (xx.toInt64))), .val (.int (own_full ((xx.toInt64) + yy.toInt64))), .val (.int (own_full ((xx.toInt64) + yy.toInt64))), .val (.long (xx.toInt64)), .second, .val (.long ((xx.toInt64) + (yy.toInt64))), .second, .unset, .unset] [(.long (xx.toInt64))])
        refine own_st (fun t_ k_ => X14.ldc2J hx hown (mvT hZ (hw _ (List.mem_of_getElem? (i := 113) rfl))) rfl (hb hby at_113) k_) ?_
        show own_Go p e below _ T14 (mkF m 116 #[.val (.int ai), .val (.int bi), .val (.int di), .val (.int wd), .val (.int xx), .val (.int yy), .val (.ref nb4), .val (.int (own_full (0 : Int64))), .val (.int (own_full (xx.toInt64))), .val (.int (own_full (xx.toInt64))), .val (.int (own_full ((xx.toInt64) + yy.toInt64))), .val (.int (own_full ((xx.toInt64) + yy.toInt64))), .val (.long (xx.toInt64)), .second, .val (.long ((xx.toInt64) + (yy.toInt64))), .second, .unset, .unset] [(.long (65536 : Int64)), (.long (xx.toInt64))])
        refine own_st (fun t_ k_ => XS.lcmp X14.here hx rfl (hb hby at_116) rfl k_) ?_
        show own_Go p e below _ T14 (mkF m 117 #[.val (.int ai), .val (.int bi), .val (.int di), .val (.int wd), .val (.int xx), .val (.int yy), .val (.ref nb4), .val (.int (own_full (0 : Int64))), .val (.int (own_full (xx.toInt64))), .val (.int (own_full (xx.toInt64))), .val (.int (own_full ((xx.toInt64) + yy.toInt64))), .val (.int (own_full ((xx.toInt64) + yy.toInt64))), .val (.long (xx.toInt64)), .second, .val (.long ((xx.toInt64) + (yy.toInt64))), .second, .unset, .unset] [(.int (lcmpW (xx.toInt64) (65536 : Int64)))])
        by_cases h1_ : (lcmpW (xx.toInt64) (65536 : Int64)) < (0 : Int32)
        · refine own_st (fun t_ k_ => XS.ifYes X14.here hx rfl (pc0 := 117) (pc' := 124) rfl (hb hby at_117) rfl ((if0 _ _).trans (tlt h1_).1) (by decide) (by decide) k_) ?_
          show own_Go p e below _ T14 (mkF m 124 #[.val (.int ai), .val (.int bi), .val (.int di), .val (.int wd), .val (.int xx), .val (.int yy), .val (.ref nb4), .val (.int (own_full (0 : Int64))), .val (.int (own_full (xx.toInt64))), .val (.int (own_full (xx.toInt64))), .val (.int (own_full ((xx.toInt64) + yy.toInt64))), .val (.int (own_full ((xx.toInt64) + yy.toInt64))), .val (.long (xx.toInt64)), .second, .val (.long ((xx.toInt64) + (yy.toInt64))), .second, .unset, .unset] [])
          have e1_ : own_full (xx.toInt64) = (0 : Int32) := if_pos h1_
          refine own_st (fun t_ k_ => XS.iconst X14.here hx rfl (hb hby at_124) k_) ?_
          show own_Go p e below _ T14 (mkF m 125 #[.val (.int ai), .val (.int bi), .val (.int di), .val (.int wd), .val (.int xx), .val (.int yy), .val (.ref nb4), .val (.int (own_full (0 : Int64))), .val (.int (own_full (xx.toInt64))), .val (.int (own_full (xx.toInt64))), .val (.int (own_full ((xx.toInt64) + yy.toInt64))), .val (.int (own_full ((xx.toInt64) + yy.toInt64))), .val (.long (xx.toInt64)), .second, .val (.long ((xx.toInt64) + (yy.toInt64))), .second, .unset, .unset] [(.int (0 : Int32))])
          refine own_st (fun t_ k_ => XS.istore X14.here hx rfl (hb hby at_125) rfl (l' := #[.val (.int ai), .val (.int bi), .val (.int di), .val (.int wd), .val (.int xx), .val (.int yy), .val (.ref nb4), .val (.int (own_full (0 : Int64))), .val (.int (own_full (xx.toInt64))), .val (.int (own_full (xx.toInt64))), .val (.int (own_full ((xx.toInt64) + yy.toInt64))), .val (.int (own_full ((xx.toInt64) + yy.toInt64))), .val (.long (xx.toInt64)), .second, .val (.long ((xx.toInt64) + (yy.toInt64))), .second, .val (.int (0 : Int32)), .unset]) rfl k_) ?_
          show own_Go p e below _ T14 (mkF m 127 #[.val (.int ai), .val (.int bi), .val (.int di), .val (.int wd), .val (.int xx), .val (.int yy), .val (.ref nb4), .val (.int (own_full (0 : Int64))), .val (.int (own_full (xx.toInt64))), .val (.int (own_full (xx.toInt64))), .val (.int (own_full ((xx.toInt64) + yy.toInt64))), .val (.int (own_full ((xx.toInt64) + yy.toInt64))), .val (.long (xx.toInt64)), .second, .val (.long ((xx.toInt64) + (yy.toInt64))), .second, .val (.int (0 : Int32)), .unset] [])
          refine own_st (fun t_ k_ => XS.lload X14.here hx rfl (hb hby at_127) rfl k_) ?_
          show own_Go p e below _ T14 (mkF m 129 #[.val (.int ai), .val (.int bi), .val (.int di), .val (.int wd), .val (.int xx), .val (.int yy), .val (.ref nb4), .val (.int (own_full (0 : Int64))), .val (.int (own_full (xx.toInt64))), .val (.int (own_full (xx.toInt64))), .val (.int (own_full ((xx.toInt64) + yy.toInt64))), .val (.int (own_full ((xx.toInt64) + yy.toInt64))), .val (.long (xx.toInt64)), .second, .val (.long ((xx.toInt64) + (yy.toInt64))), .second, .val (.int (0 : Int32)), .unset] [(.long ((xx.toInt64) + (yy.toInt64)))])
          refine own_st (fun t_ k_ => X14.ldc2J hx hown (mvT hZ (hw _ (List.mem_of_getElem? (i := 113) rfl))) rfl (hb hby at_129) k_) ?_
          show own_Go p e below _ T14 (mkF m 132 #[.val (.int ai), .val (.int bi), .val (.int di), .val (.int wd), .val (.int xx), .val (.int yy), .val (.ref nb4), .val (.int (own_full (0 : Int64))), .val (.int (own_full (xx.toInt64))), .val (.int (own_full (xx.toInt64))), .val (.int (own_full ((xx.toInt64) + yy.toInt64))), .val (.int (own_full ((xx.toInt64) + yy.toInt64))), .val (.long (xx.toInt64)), .second, .val (.long ((xx.toInt64) + (yy.toInt64))), .second, .val (.int (0 : Int32)), .unset] [(.long (65536 : Int64)), (.long ((xx.toInt64) + (yy.toInt64)))])
          refine own_st (fun t_ k_ => XS.lcmp X14.here hx rfl (hb hby at_132) rfl k_) ?_
          show own_Go p e below _ T14 (mkF m 133 #[.val (.int ai), .val (.int bi), .val (.int di), .val (.int wd), .val (.int xx), .val (.int yy), .val (.ref nb4), .val (.int (own_full (0 : Int64))), .val (.int (own_full (xx.toInt64))), .val (.int (own_full (xx.toInt64))), .val (.int (own_full ((xx.toInt64) + yy.toInt64))), .val (.int (own_full ((xx.toInt64) + yy.toInt64))), .val (.long (xx.toInt64)), .second, .val (.long ((xx.toInt64) + (yy.toInt64))), .second, .val (.int (0 : Int32)), .unset] [(.int (lcmpW ((xx.toInt64) + (yy.toInt64)) (65536 : Int64)))])
          by_cases h2_ : (lcmpW ((xx.toInt64) + (yy.toInt64)) (65536 : Int64)) < (0 : Int32)
          · refine own_st (fun t_ k_ => XS.ifYes X14.here hx rfl (pc0 := 133) (pc' := 140) rfl (hb hby at_133) rfl ((if0 _ _).trans (tlt h2_).1) (by decide) (by decide) k_) ?_
            show own_Go p e below _ T14 (mkF m 140 #[.val (.int ai), .val (.int bi), .val (.int di), .val (.int wd), .val (.int xx), .val (.int yy), .val (.ref nb4), .val (.int (own_full (0 : Int64))), .val (.int (own_full (xx.toInt64))), .val (.int (own_full (xx.toInt64))), .val (.int (own_full ((xx.toInt64) + yy.toInt64))), .val (.int (own_full ((xx.toInt64) + yy.toInt64))), .val (.long (xx.toInt64)), .second, .val (.long ((xx.toInt64) + (yy.toInt64))), .second, .val (.int (0 : Int32)), .unset] [])
            have e2_ : own_full ((xx.toInt64) + yy.toInt64) = (0 : Int32) := if_pos h2_
            have e0_ : own_full (0 : Int64) = (0 : Int32) := by decide
            refine own_st (fun t_ k_ => XS.iconst X14.here hx rfl (hb hby at_140) k_) ?_
            show own_Go p e below _ T14 (mkF m 141 #[.val (.int ai), .val (.int bi), .val (.int di), .val (.int wd), .val (.int xx), .val (.int yy), .val (.ref nb4), .val (.int (own_full (0 : Int64))), .val (.int (own_full (xx.toInt64))), .val (.int (own_full (xx.toInt64))), .val (.int (own_full ((xx.toInt64) + yy.toInt64))), .val (.int (own_full ((xx.toInt64) + yy.toInt64))), .val (.long (xx.toInt64)), .second, .val (.long ((xx.toInt64) + (yy.toInt64))), .second, .val (.int (0 : Int32)), .unset] [(.int (0 : Int32))])
            refine own_st (fun t_ k_ => XS.istore X14.here hx rfl (hb hby at_141) rfl (l' := #[.val (.int ai), .val (.int bi), .val (.int di), .val (.int wd), .val (.int xx), .val (.int yy), .val (.ref nb4), .val (.int (own_full (0 : Int64))), .val (.int (own_full (xx.toInt64))), .val (.int (own_full (xx.toInt64))), .val (.int (own_full ((xx.toInt64) + yy.toInt64))), .val (.int (own_full ((xx.toInt64) + yy.toInt64))), .val (.long (xx.toInt64)), .second, .val (.long ((xx.toInt64) + (yy.toInt64))), .second, .val (.int (0 : Int32)), .val (.int (0 : Int32))]) rfl k_) ?_
            show own_Go p e below _ T14 (mkF m 143 #[.val (.int ai), .val (.int bi), .val (.int di), .val (.int wd), .val (.int xx), .val (.int yy), .val (.ref nb4), .val (.int (own_full (0 : Int64))), .val (.int (own_full (xx.toInt64))), .val (.int (own_full (xx.toInt64))), .val (.int (own_full ((xx.toInt64) + yy.toInt64))), .val (.int (own_full ((xx.toInt64) + yy.toInt64))), .val (.long (xx.toInt64)), .second, .val (.long ((xx.toInt64) + (yy.toInt64))), .second, .val (.int (0 : Int32)), .val (.int (0 : Int32))] [])
            refine own_st (fun t_ k_ => XS.iload X14.here hx rfl (hb hby at_143) rfl k_) ?_
            show own_Go p e below _ T14 (mkF m 145 #[.val (.int ai), .val (.int bi), .val (.int di), .val (.int wd), .val (.int xx), .val (.int yy), .val (.ref nb4), .val (.int (own_full (0 : Int64))), .val (.int (own_full (xx.toInt64))), .val (.int (own_full (xx.toInt64))), .val (.int (own_full ((xx.toInt64) + yy.toInt64))), .val (.int (own_full ((xx.toInt64) + yy.toInt64))), .val (.long (xx.toInt64)), .second, .val (.long ((xx.toInt64) + (yy.toInt64))), .second, .val (.int (0 : Int32)), .val (.int (0 : Int32))] [(.int (own_full (0 : Int64)))])
            refine own_st (fun t_ k_ => XS.ifNo X14.here hx rfl (hb hby at_145) rfl ((if0 _ _).trans (teq e0_).2) k_) ?_
            show own_Go p e below _ T14 (mkF m 148 #[.val (.int ai), .val (.int bi), .val (.int di), .val (.int wd), .val (.int xx), .val (.int yy), .val (.ref nb4), .val (.int (own_full (0 : Int64))), .val (.int (own_full (xx.toInt64))), .val (.int (own_full (xx.toInt64))), .val (.int (own_full ((xx.toInt64) + yy.toInt64))), .val (.int (own_full ((xx.toInt64) + yy.toInt64))), .val (.long (xx.toInt64)), .second, .val (.long ((xx.toInt64) + (yy.toInt64))), .second, .val (.int (0 : Int32)), .val (.int (0 : Int32))] [])
            refine own_st (fun t_ k_ => XS.iload X14.here hx rfl (hb hby at_148) rfl k_) ?_
            show own_Go p e below _ T14 (mkF m 150 #[.val (.int ai), .val (.int bi), .val (.int di), .val (.int wd), .val (.int xx), .val (.int yy), .val (.ref nb4), .val (.int (own_full (0 : Int64))), .val (.int (own_full (xx.toInt64))), .val (.int (own_full (xx.toInt64))), .val (.int (own_full ((xx.toInt64) + yy.toInt64))), .val (.int (own_full ((xx.toInt64) + yy.toInt64))), .val (.long (xx.toInt64)), .second, .val (.long ((xx.toInt64) + (yy.toInt64))), .second, .val (.int (0 : Int32)), .val (.int (0 : Int32))] [(.int (own_full (xx.toInt64)))])
            refine own_st (fun t_ k_ => XS.iload X14.here hx rfl (hb hby at_150) rfl k_) ?_
            show own_Go p e below _ T14 (mkF m 152 #[.val (.int ai), .val (.int bi), .val (.int di), .val (.int wd), .val (.int xx), .val (.int yy), .val (.ref nb4), .val (.int (own_full (0 : Int64))), .val (.int (own_full (xx.toInt64))), .val (.int (own_full (xx.toInt64))), .val (.int (own_full ((xx.toInt64) + yy.toInt64))), .val (.int (own_full ((xx.toInt64) + yy.toInt64))), .val (.long (xx.toInt64)), .second, .val (.long ((xx.toInt64) + (yy.toInt64))), .second, .val (.int (0 : Int32)), .val (.int (0 : Int32))] [(.int (0 : Int32)), (.int (own_full (xx.toInt64)))])
            refine own_st (fun t_ k_ => XS.icmpNo X14.here hx rfl (hb hby at_152) rfl (teq e1_).2 k_) ?_
            show own_Go p e below _ T14 (mkF m 155 #[.val (.int ai), .val (.int bi), .val (.int di), .val (.int wd), .val (.int xx), .val (.int yy), .val (.ref nb4), .val (.int (own_full (0 : Int64))), .val (.int (own_full (xx.toInt64))), .val (.int (own_full (xx.toInt64))), .val (.int (own_full ((xx.toInt64) + yy.toInt64))), .val (.int (own_full ((xx.toInt64) + yy.toInt64))), .val (.long (xx.toInt64)), .second, .val (.long ((xx.toInt64) + (yy.toInt64))), .second, .val (.int (0 : Int32)), .val (.int (0 : Int32))] [])
            refine own_st (fun t_ k_ => XS.iload X14.here hx rfl (hb hby at_155) rfl k_) ?_
            show own_Go p e below _ T14 (mkF m 157 #[.val (.int ai), .val (.int bi), .val (.int di), .val (.int wd), .val (.int xx), .val (.int yy), .val (.ref nb4), .val (.int (own_full (0 : Int64))), .val (.int (own_full (xx.toInt64))), .val (.int (own_full (xx.toInt64))), .val (.int (own_full ((xx.toInt64) + yy.toInt64))), .val (.int (own_full ((xx.toInt64) + yy.toInt64))), .val (.long (xx.toInt64)), .second, .val (.long ((xx.toInt64) + (yy.toInt64))), .second, .val (.int (0 : Int32)), .val (.int (0 : Int32))] [(.int (own_full (xx.toInt64)))])
            refine own_st (fun t_ k_ => XS.iload X14.here hx rfl (hb hby at_157) rfl k_) ?_
            show own_Go p e below _ T14 (mkF m 159 #[.val (.int ai), .val (.int bi), .val (.int di), .val (.int wd), .val (.int xx), .val (.int yy), .val (.ref nb4), .val (.int (own_full (0 : Int64))), .val (.int (own_full (xx.toInt64))), .val (.int (own_full (xx.toInt64))), .val (.int (own_full ((xx.toInt64) + yy.toInt64))), .val (.int (own_full ((xx.toInt64) + yy.toInt64))), .val (.long (xx.toInt64)), .second, .val (.long ((xx.toInt64) + (yy.toInt64))), .second, .val (.int (0 : Int32)), .val (.int (0 : Int32))] [(.int (0 : Int32)), (.int (own_full (xx.toInt64)))])
            refine own_st (fun t_ k_ => XS.icmpNo X14.here hx rfl (hb hby at_159) rfl (teq e1_).2 k_) ?_
            show own_Go p e below _ T14 (mkF m 162 #[.val (.int ai), .val (.int bi), .val (.int di), .val (.int wd), .val (.int xx), .val (.int yy), .val (.ref nb4), .val (.int (own_full (0 : Int64))), .val (.int (own_full (xx.toInt64))), .val (.int (own_full (xx.toInt64))), .val (.int (own_full ((xx.toInt64) + yy.toInt64))), .val (.int (own_full ((xx.toInt64) + yy.toInt64))), .val (.long (xx.toInt64)), .second, .val (.long ((xx.toInt64) + (yy.toInt64))), .second, .val (.int (0 : Int32)), .val (.int (0 : Int32))] [])
            refine own_st (fun t_ k_ => XS.iload X14.here hx rfl (hb hby at_162) rfl k_) ?_
            show own_Go p e below _ T14 (mkF m 164 #[.val (.int ai), .val (.int bi), .val (.int di), .val (.int wd), .val (.int xx), .val (.int yy), .val (.ref nb4), .val (.int (own_full (0 : Int64))), .val (.int (own_full (xx.toInt64))), .val (.int (own_full (xx.toInt64))), .val (.int (own_full ((xx.toInt64) + yy.toInt64))), .val (.int (own_full ((xx.toInt64) + yy.toInt64))), .val (.long (xx.toInt64)), .second, .val (.long ((xx.toInt64) + (yy.toInt64))), .second, .val (.int (0 : Int32)), .val (.int (0 : Int32))] [(.int (own_full ((xx.toInt64) + yy.toInt64)))])
            refine own_st (fun t_ k_ => XS.iload X14.here hx rfl (hb hby at_164) rfl k_) ?_
            show own_Go p e below _ T14 (mkF m 166 #[.val (.int ai), .val (.int bi), .val (.int di), .val (.int wd), .val (.int xx), .val (.int yy), .val (.ref nb4), .val (.int (own_full (0 : Int64))), .val (.int (own_full (xx.toInt64))), .val (.int (own_full (xx.toInt64))), .val (.int (own_full ((xx.toInt64) + yy.toInt64))), .val (.int (own_full ((xx.toInt64) + yy.toInt64))), .val (.long (xx.toInt64)), .second, .val (.long ((xx.toInt64) + (yy.toInt64))), .second, .val (.int (0 : Int32)), .val (.int (0 : Int32))] [(.int (0 : Int32)), (.int (own_full ((xx.toInt64) + yy.toInt64)))])
            refine own_st (fun t_ k_ => XS.icmpNo X14.here hx rfl (hb hby at_166) rfl (teq e2_).2 k_) ?_
            show own_Go p e below _ T14 (mkF m 169 #[.val (.int ai), .val (.int bi), .val (.int di), .val (.int wd), .val (.int xx), .val (.int yy), .val (.ref nb4), .val (.int (own_full (0 : Int64))), .val (.int (own_full (xx.toInt64))), .val (.int (own_full (xx.toInt64))), .val (.int (own_full ((xx.toInt64) + yy.toInt64))), .val (.int (own_full ((xx.toInt64) + yy.toInt64))), .val (.long (xx.toInt64)), .second, .val (.long ((xx.toInt64) + (yy.toInt64))), .second, .val (.int (0 : Int32)), .val (.int (0 : Int32))] [])
            refine own_st (fun t_ k_ => XS.iload X14.here hx rfl (hb hby at_169) rfl k_) ?_
            show own_Go p e below _ T14 (mkF m 171 #[.val (.int ai), .val (.int bi), .val (.int di), .val (.int wd), .val (.int xx), .val (.int yy), .val (.ref nb4), .val (.int (own_full (0 : Int64))), .val (.int (own_full (xx.toInt64))), .val (.int (own_full (xx.toInt64))), .val (.int (own_full ((xx.toInt64) + yy.toInt64))), .val (.int (own_full ((xx.toInt64) + yy.toInt64))), .val (.long (xx.toInt64)), .second, .val (.long ((xx.toInt64) + (yy.toInt64))), .second, .val (.int (0 : Int32)), .val (.int (0 : Int32))] [(.int (own_full ((xx.toInt64) + yy.toInt64)))])
            refine own_st (fun t_ k_ => XS.iload X14.here hx rfl (hb hby at_171) rfl k_) ?_
            show own_Go p e below _ T14 (mkF m 173 #[.val (.int ai), .val (.int bi), .val (.int di), .val (.int wd), .val (.int xx), .val (.int yy), .val (.ref nb4), .val (.int (own_full (0 : Int64))), .val (.int (own_full (xx.toInt64))), .val (.int (own_full (xx.toInt64))), .val (.int (own_full ((xx.toInt64) + yy.toInt64))), .val (.int (own_full ((xx.toInt64) + yy.toInt64))), .val (.long (xx.toInt64)), .second, .val (.long ((xx.toInt64) + (yy.toInt64))), .second, .val (.int (0 : Int32)), .val (.int (0 : Int32))] [(.int (0 : Int32)), (.int (own_full ((xx.toInt64) + yy.toInt64)))])
            refine own_st (fun t_ k_ => XS.icmpNo X14.here hx rfl (hb hby at_173) rfl (teq e2_).2 k_) ?_
            show own_Go p e below _ T14 (mkF m 176 #[.val (.int ai), .val (.int bi), .val (.int di), .val (.int wd), .val (.int xx), .val (.int yy), .val (.ref nb4), .val (.int (own_full (0 : Int64))), .val (.int (own_full (xx.toInt64))), .val (.int (own_full (xx.toInt64))), .val (.int (own_full ((xx.toInt64) + yy.toInt64))), .val (.int (own_full ((xx.toInt64) + yy.toInt64))), .val (.long (xx.toInt64)), .second, .val (.long ((xx.toInt64) + (yy.toInt64))), .second, .val (.int (0 : Int32)), .val (.int (0 : Int32))] [])
            refine own_st (fun t_ k_ => XS.iconst X14.here hx rfl (hb hby at_176) k_) ?_
            show own_Go p e below _ T14 (mkF m 177 #[.val (.int ai), .val (.int bi), .val (.int di), .val (.int wd), .val (.int xx), .val (.int yy), .val (.ref nb4), .val (.int (own_full (0 : Int64))), .val (.int (own_full (xx.toInt64))), .val (.int (own_full (xx.toInt64))), .val (.int (own_full ((xx.toInt64) + yy.toInt64))), .val (.int (own_full ((xx.toInt64) + yy.toInt64))), .val (.long (xx.toInt64)), .second, .val (.long ((xx.toInt64) + (yy.toInt64))), .second, .val (.int (0 : Int32)), .val (.int (0 : Int32))] [(.int (1 : Int32))])
            refine own_st (fun t_ k_ => XS.goto X14.here hx rfl (pc0 := 177) (pc' := 181) rfl (hb hby at_177) (by decide) (by decide) k_) ?_
            show own_Go p e below _ T14 (mkF m 181 #[.val (.int ai), .val (.int bi), .val (.int di), .val (.int wd), .val (.int xx), .val (.int yy), .val (.ref nb4), .val (.int (own_full (0 : Int64))), .val (.int (own_full (xx.toInt64))), .val (.int (own_full (xx.toInt64))), .val (.int (own_full ((xx.toInt64) + yy.toInt64))), .val (.int (own_full ((xx.toInt64) + yy.toInt64))), .val (.long (xx.toInt64)), .second, .val (.long ((xx.toInt64) + (yy.toInt64))), .second, .val (.int (0 : Int32)), .val (.int (0 : Int32))] [(.int (1 : Int32))])
            refine own_retN X14 hx hlk (t := .boolean) Bd.returns (by simp) (hb hby at_181) ?_ (by decide) (by decide)
            show Q0 n0 _ T14.heap _
            rw [hh14]
            exact ⟨rfl, N14⟩
          · refine own_st (fun t_ k_ => XS.ifNo X14.here hx rfl (hb hby at_133) rfl ((if0 _ _).trans (flt h2_).1) k_) ?_
            show own_Go p e below _ T14 (mkF m 136 #[.val (.int ai), .val (.int bi), .val (.int di), .val (.int wd), .val (.int xx), .val (.int yy), .val (.ref nb4), .val (.int (own_full (0 : Int64))), .val (.int (own_full (xx.toInt64))), .val (.int (own_full (xx.toInt64))), .val (.int (own_full ((xx.toInt64) + yy.toInt64))), .val (.int (own_full ((xx.toInt64) + yy.toInt64))), .val (.long (xx.toInt64)), .second, .val (.long ((xx.toInt64) + (yy.toInt64))), .second, .val (.int (0 : Int32)), .unset] [])
            have e2_ : own_full ((xx.toInt64) + yy.toInt64) = (1 : Int32) := if_neg h2_
            have e0_ : own_full (0 : Int64) = (0 : Int32) := by decide
            refine own_st (fun t_ k_ => XS.iconst X14.here hx rfl (hb hby at_136) k_) ?_
            show own_Go p e below _ T14 (mkF m 137 #[.val (.int ai), .val (.int bi), .val (.int di), .val (.int wd), .val (.int xx), .val (.int yy), .val (.ref nb4), .val (.int (own_full (0 : Int64))), .val (.int (own_full (xx.toInt64))), .val (.int (own_full (xx.toInt64))), .val (.int (own_full ((xx.toInt64) + yy.toInt64))), .val (.int (own_full ((xx.toInt64) + yy.toInt64))), .val (.long (xx.toInt64)), .second, .val (.long ((xx.toInt64) + (yy.toInt64))), .second, .val (.int (0 : Int32)), .unset] [(.int (1 : Int32))])
            refine own_st (fun t_ k_ => XS.goto X14.here hx rfl (pc0 := 137) (pc' := 141) rfl (hb hby at_137) (by decide) (by decide) k_) ?_
            show own_Go p e below _ T14 (mkF m 141 #[.val (.int ai), .val (.int bi), .val (.int di), .val (.int wd), .val (.int xx), .val (.int yy), .val (.ref nb4), .val (.int (own_full (0 : Int64))), .val (.int (own_full (xx.toInt64))), .val (.int (own_full (xx.toInt64))), .val (.int (own_full ((xx.toInt64) + yy.toInt64))), .val (.int (own_full ((xx.toInt64) + yy.toInt64))), .val (.long (xx.toInt64)), .second, .val (.long ((xx.toInt64) + (yy.toInt64))), .second, .val (.int (0 : Int32)), .unset] [(.int (1 : Int32))])
            refine own_st (fun t_ k_ => XS.istore X14.here hx rfl (hb hby at_141) rfl (l' := #[.val (.int ai), .val (.int bi), .val (.int di), .val (.int wd), .val (.int xx), .val (.int yy), .val (.ref nb4), .val (.int (own_full (0 : Int64))), .val (.int (own_full (xx.toInt64))), .val (.int (own_full (xx.toInt64))), .val (.int (own_full ((xx.toInt64) + yy.toInt64))), .val (.int (own_full ((xx.toInt64) + yy.toInt64))), .val (.long (xx.toInt64)), .second, .val (.long ((xx.toInt64) + (yy.toInt64))), .second, .val (.int (0 : Int32)), .val (.int (1 : Int32))]) rfl k_) ?_
            show own_Go p e below _ T14 (mkF m 143 #[.val (.int ai), .val (.int bi), .val (.int di), .val (.int wd), .val (.int xx), .val (.int yy), .val (.ref nb4), .val (.int (own_full (0 : Int64))), .val (.int (own_full (xx.toInt64))), .val (.int (own_full (xx.toInt64))), .val (.int (own_full ((xx.toInt64) + yy.toInt64))), .val (.int (own_full ((xx.toInt64) + yy.toInt64))), .val (.long (xx.toInt64)), .second, .val (.long ((xx.toInt64) + (yy.toInt64))), .second, .val (.int (0 : Int32)), .val (.int (1 : Int32))] [])
            refine own_st (fun t_ k_ => XS.iload X14.here hx rfl (hb hby at_143) rfl k_) ?_
            show own_Go p e below _ T14 (mkF m 145 #[.val (.int ai), .val (.int bi), .val (.int di), .val (.int wd), .val (.int xx), .val (.int yy), .val (.ref nb4), .val (.int (own_full (0 : Int64))), .val (.int (own_full (xx.toInt64))), .val (.int (own_full (xx.toInt64))), .val (.int (own_full ((xx.toInt64) + yy.toInt64))), .val (.int (own_full ((xx.toInt64) + yy.toInt64))), .val (.long (xx.toInt64)), .second, .val (.long ((xx.toInt64) + (yy.toInt64))), .second, .val (.int (0 : Int32)), .val (.int (1 : Int32))] [(.int (own_full (0 : Int64)))])
            refine own_st (fun t_ k_ => XS.ifNo X14.here hx rfl (hb hby at_145) rfl ((if0 _ _).trans (teq e0_).2) k_) ?_
            show own_Go p e below _ T14 (mkF m 148 #[.val (.int ai), .val (.int bi), .val (.int di), .val (.int wd), .val (.int xx), .val (.int yy), .val (.ref nb4), .val (.int (own_full (0 : Int64))), .val (.int (own_full (xx.toInt64))), .val (.int (own_full (xx.toInt64))), .val (.int (own_full ((xx.toInt64) + yy.toInt64))), .val (.int (own_full ((xx.toInt64) + yy.toInt64))), .val (.long (xx.toInt64)), .second, .val (.long ((xx.toInt64) + (yy.toInt64))), .second, .val (.int (0 : Int32)), .val (.int (1 : Int32))] [])
            refine own_st (fun t_ k_ => XS.iload X14.here hx rfl (hb hby at_148) rfl k_) ?_
            show own_Go p e below _ T14 (mkF m 150 #[.val (.int ai), .val (.int bi), .val (.int di), .val (.int wd), .val (.int xx), .val (.int yy), .val (.ref nb4), .val (.int (own_full (0 : Int64))), .val (.int (own_full (xx.toInt64))), .val (.int (own_full (xx.toInt64))), .val (.int (own_full ((xx.toInt64) + yy.toInt64))), .val (.int (own_full ((xx.toInt64) + yy.toInt64))), .val (.long (xx.toInt64)), .second, .val (.long ((xx.toInt64) + (yy.toInt64))), .second, .val (.int (0 : Int32)), .val (.int (1 : Int32))] [(.int (own_full (xx.toInt64)))])
            refine own_st (fun t_ k_ => XS.iload X14.here hx rfl (hb hby at_150) rfl k_) ?_
            show own_Go p e below _ T14 (mkF m 152 #[.val (.int ai), .val (.int bi), .val (.int di), .val (.int wd), .val (.int xx), .val (.int yy), .val (.ref nb4), .val (.int (own_full (0 : Int64))), .val (.int (own_full (xx.toInt64))), .val (.int (own_full (xx.toInt64))), .val (.int (own_full ((xx.toInt64) + yy.toInt64))), .val (.int (own_full ((xx.toInt64) + yy.toInt64))), .val (.long (xx.toInt64)), .second, .val (.long ((xx.toInt64) + (yy.toInt64))), .second, .val (.int (0 : Int32)), .val (.int (1 : Int32))] [(.int (0 : Int32)), (.int (own_full (xx.toInt64)))])
            refine own_st (fun t_ k_ => XS.icmpNo X14.here hx rfl (hb hby at_152) rfl (teq e1_).2 k_) ?_
            show own_Go p e below _ T14 (mkF m 155 #[.val (.int ai), .val (.int bi), .val (.int di), .val (.int wd), .val (.int xx), .val (.int yy), .val (.ref nb4), .val (.int (own_full (0 : Int64))), .val (.int (own_full (xx.toInt64))), .val (.int (own_full (xx.toInt64))), .val (.int (own_full ((xx.toInt64) + yy.toInt64))), .val (.int (own_full ((xx.toInt64) + yy.toInt64))), .val (.long (xx.toInt64)), .second, .val (.long ((xx.toInt64) + (yy.toInt64))), .second, .val (.int (0 : Int32)), .val (.int (1 : Int32))] [])
            refine own_st (fun t_ k_ => XS.iload X14.here hx rfl (hb hby at_155) rfl k_) ?_
            show own_Go p e below _ T14 (mkF m 157 #[.val (.int ai), .val (.int bi), .val (.int di), .val (.int wd), .val (.int xx), .val (.int yy), .val (.ref nb4), .val (.int (own_full (0 : Int64))), .val (.int (own_full (xx.toInt64))), .val (.int (own_full (xx.toInt64))), .val (.int (own_full ((xx.toInt64) + yy.toInt64))), .val (.int (own_full ((xx.toInt64) + yy.toInt64))), .val (.long (xx.toInt64)), .second, .val (.long ((xx.toInt64) + (yy.toInt64))), .second, .val (.int (0 : Int32)), .val (.int (1 : Int32))] [(.int (own_full (xx.toInt64)))])
            refine own_st (fun t_ k_ => XS.iload X14.here hx rfl (hb hby at_157) rfl k_) ?_
            show own_Go p e below _ T14 (mkF m 159 #[.val (.int ai), .val (.int bi), .val (.int di), .val (.int wd), .val (.int xx), .val (.int yy), .val (.ref nb4), .val (.int (own_full (0 : Int64))), .val (.int (own_full (xx.toInt64))), .val (.int (own_full (xx.toInt64))), .val (.int (own_full ((xx.toInt64) + yy.toInt64))), .val (.int (own_full ((xx.toInt64) + yy.toInt64))), .val (.long (xx.toInt64)), .second, .val (.long ((xx.toInt64) + (yy.toInt64))), .second, .val (.int (0 : Int32)), .val (.int (1 : Int32))] [(.int (0 : Int32)), (.int (own_full (xx.toInt64)))])
            refine own_st (fun t_ k_ => XS.icmpNo X14.here hx rfl (hb hby at_159) rfl (teq e1_).2 k_) ?_
            show own_Go p e below _ T14 (mkF m 162 #[.val (.int ai), .val (.int bi), .val (.int di), .val (.int wd), .val (.int xx), .val (.int yy), .val (.ref nb4), .val (.int (own_full (0 : Int64))), .val (.int (own_full (xx.toInt64))), .val (.int (own_full (xx.toInt64))), .val (.int (own_full ((xx.toInt64) + yy.toInt64))), .val (.int (own_full ((xx.toInt64) + yy.toInt64))), .val (.long (xx.toInt64)), .second, .val (.long ((xx.toInt64) + (yy.toInt64))), .second, .val (.int (0 : Int32)), .val (.int (1 : Int32))] [])
            refine own_st (fun t_ k_ => XS.iload X14.here hx rfl (hb hby at_162) rfl k_) ?_
            show own_Go p e below _ T14 (mkF m 164 #[.val (.int ai), .val (.int bi), .val (.int di), .val (.int wd), .val (.int xx), .val (.int yy), .val (.ref nb4), .val (.int (own_full (0 : Int64))), .val (.int (own_full (xx.toInt64))), .val (.int (own_full (xx.toInt64))), .val (.int (own_full ((xx.toInt64) + yy.toInt64))), .val (.int (own_full ((xx.toInt64) + yy.toInt64))), .val (.long (xx.toInt64)), .second, .val (.long ((xx.toInt64) + (yy.toInt64))), .second, .val (.int (0 : Int32)), .val (.int (1 : Int32))] [(.int (own_full ((xx.toInt64) + yy.toInt64)))])
            refine own_st (fun t_ k_ => XS.iload X14.here hx rfl (hb hby at_164) rfl k_) ?_
            show own_Go p e below _ T14 (mkF m 166 #[.val (.int ai), .val (.int bi), .val (.int di), .val (.int wd), .val (.int xx), .val (.int yy), .val (.ref nb4), .val (.int (own_full (0 : Int64))), .val (.int (own_full (xx.toInt64))), .val (.int (own_full (xx.toInt64))), .val (.int (own_full ((xx.toInt64) + yy.toInt64))), .val (.int (own_full ((xx.toInt64) + yy.toInt64))), .val (.long (xx.toInt64)), .second, .val (.long ((xx.toInt64) + (yy.toInt64))), .second, .val (.int (0 : Int32)), .val (.int (1 : Int32))] [(.int (1 : Int32)), (.int (own_full ((xx.toInt64) + yy.toInt64)))])
            refine own_st (fun t_ k_ => XS.icmpNo X14.here hx rfl (hb hby at_166) rfl (teq e2_).2 k_) ?_
            show own_Go p e below _ T14 (mkF m 169 #[.val (.int ai), .val (.int bi), .val (.int di), .val (.int wd), .val (.int xx), .val (.int yy), .val (.ref nb4), .val (.int (own_full (0 : Int64))), .val (.int (own_full (xx.toInt64))), .val (.int (own_full (xx.toInt64))), .val (.int (own_full ((xx.toInt64) + yy.toInt64))), .val (.int (own_full ((xx.toInt64) + yy.toInt64))), .val (.long (xx.toInt64)), .second, .val (.long ((xx.toInt64) + (yy.toInt64))), .second, .val (.int (0 : Int32)), .val (.int (1 : Int32))] [])
            refine own_st (fun t_ k_ => XS.iload X14.here hx rfl (hb hby at_169) rfl k_) ?_
            show own_Go p e below _ T14 (mkF m 171 #[.val (.int ai), .val (.int bi), .val (.int di), .val (.int wd), .val (.int xx), .val (.int yy), .val (.ref nb4), .val (.int (own_full (0 : Int64))), .val (.int (own_full (xx.toInt64))), .val (.int (own_full (xx.toInt64))), .val (.int (own_full ((xx.toInt64) + yy.toInt64))), .val (.int (own_full ((xx.toInt64) + yy.toInt64))), .val (.long (xx.toInt64)), .second, .val (.long ((xx.toInt64) + (yy.toInt64))), .second, .val (.int (0 : Int32)), .val (.int (1 : Int32))] [(.int (own_full ((xx.toInt64) + yy.toInt64)))])
            refine own_st (fun t_ k_ => XS.iload X14.here hx rfl (hb hby at_171) rfl k_) ?_
            show own_Go p e below _ T14 (mkF m 173 #[.val (.int ai), .val (.int bi), .val (.int di), .val (.int wd), .val (.int xx), .val (.int yy), .val (.ref nb4), .val (.int (own_full (0 : Int64))), .val (.int (own_full (xx.toInt64))), .val (.int (own_full (xx.toInt64))), .val (.int (own_full ((xx.toInt64) + yy.toInt64))), .val (.int (own_full ((xx.toInt64) + yy.toInt64))), .val (.long (xx.toInt64)), .second, .val (.long ((xx.toInt64) + (yy.toInt64))), .second, .val (.int (0 : Int32)), .val (.int (1 : Int32))] [(.int (1 : Int32)), (.int (own_full ((xx.toInt64) + yy.toInt64)))])
            refine own_st (fun t_ k_ => XS.icmpNo X14.here hx rfl (hb hby at_173) rfl (teq e2_).2 k_) ?_
            show own_Go p e below _ T14 (mkF m 176 #[.val (.int ai), .val (.int bi), .val (.int di), .val (.int wd), .val (.int xx), .val (.int yy), .val (.ref nb4), .val (.int (own_full (0 : Int64))), .val (.int (own_full (xx.toInt64))), .val (.int (own_full (xx.toInt64))), .val (.int (own_full ((xx.toInt64) + yy.toInt64))), .val (.int (own_full ((xx.toInt64) + yy.toInt64))), .val (.long (xx.toInt64)), .second, .val (.long ((xx.toInt64) + (yy.toInt64))), .second, .val (.int (0 : Int32)), .val (.int (1 : Int32))] [])
            refine own_st (fun t_ k_ => XS.iconst X14.here hx rfl (hb hby at_176) k_) ?_
            show own_Go p e below _ T14 (mkF m 177 #[.val (.int ai), .val (.int bi), .val (.int di), .val (.int wd), .val (.int xx), .val (.int yy), .val (.ref nb4), .val (.int (own_full (0 : Int64))), .val (.int (own_full (xx.toInt64))), .val (.int (own_full (xx.toInt64))), .val (.int (own_full ((xx.toInt64) + yy.toInt64))), .val (.int (own_full ((xx.toInt64) + yy.toInt64))), .val (.long (xx.toInt64)), .second, .val (.long ((xx.toInt64) + (yy.toInt64))), .second, .val (.int (0 : Int32)), .val (.int (1 : Int32))] [(.int (1 : Int32))])
            refine own_st (fun t_ k_ => XS.goto X14.here hx rfl (pc0 := 177) (pc' := 181) rfl (hb hby at_177) (by decide) (by decide) k_) ?_
            show own_Go p e below _ T14 (mkF m 181 #[.val (.int ai), .val (.int bi), .val (.int di), .val (.int wd), .val (.int xx), .val (.int yy), .val (.ref nb4), .val (.int (own_full (0 : Int64))), .val (.int (own_full (xx.toInt64))), .val (.int (own_full (xx.toInt64))), .val (.int (own_full ((xx.toInt64) + yy.toInt64))), .val (.int (own_full ((xx.toInt64) + yy.toInt64))), .val (.long (xx.toInt64)), .second, .val (.long ((xx.toInt64) + (yy.toInt64))), .second, .val (.int (0 : Int32)), .val (.int (1 : Int32))] [(.int (1 : Int32))])
            refine own_retN X14 hx hlk (t := .boolean) Bd.returns (by simp) (hb hby at_181) ?_ (by decide) (by decide)
            show Q0 n0 _ T14.heap _
            rw [hh14]
            exact ⟨rfl, N14⟩
        · refine own_st (fun t_ k_ => XS.ifNo X14.here hx rfl (hb hby at_117) rfl ((if0 _ _).trans (flt h1_).1) k_) ?_
          show own_Go p e below _ T14 (mkF m 120 #[.val (.int ai), .val (.int bi), .val (.int di), .val (.int wd), .val (.int xx), .val (.int yy), .val (.ref nb4), .val (.int (own_full (0 : Int64))), .val (.int (own_full (xx.toInt64))), .val (.int (own_full (xx.toInt64))), .val (.int (own_full ((xx.toInt64) + yy.toInt64))), .val (.int (own_full ((xx.toInt64) + yy.toInt64))), .val (.long (xx.toInt64)), .second, .val (.long ((xx.toInt64) + (yy.toInt64))), .second, .unset, .unset] [])
          have e1_ : own_full (xx.toInt64) = (1 : Int32) := if_neg h1_
          refine own_st (fun t_ k_ => XS.iconst X14.here hx rfl (hb hby at_120) k_) ?_
          show own_Go p e below _ T14 (mkF m 121 #[.val (.int ai), .val (.int bi), .val (.int di), .val (.int wd), .val (.int xx), .val (.int yy), .val (.ref nb4), .val (.int (own_full (0 : Int64))), .val (.int (own_full (xx.toInt64))), .val (.int (own_full (xx.toInt64))), .val (.int (own_full ((xx.toInt64) + yy.toInt64))), .val (.int (own_full ((xx.toInt64) + yy.toInt64))), .val (.long (xx.toInt64)), .second, .val (.long ((xx.toInt64) + (yy.toInt64))), .second, .unset, .unset] [(.int (1 : Int32))])
          refine own_st (fun t_ k_ => XS.goto X14.here hx rfl (pc0 := 121) (pc' := 125) rfl (hb hby at_121) (by decide) (by decide) k_) ?_
          show own_Go p e below _ T14 (mkF m 125 #[.val (.int ai), .val (.int bi), .val (.int di), .val (.int wd), .val (.int xx), .val (.int yy), .val (.ref nb4), .val (.int (own_full (0 : Int64))), .val (.int (own_full (xx.toInt64))), .val (.int (own_full (xx.toInt64))), .val (.int (own_full ((xx.toInt64) + yy.toInt64))), .val (.int (own_full ((xx.toInt64) + yy.toInt64))), .val (.long (xx.toInt64)), .second, .val (.long ((xx.toInt64) + (yy.toInt64))), .second, .unset, .unset] [(.int (1 : Int32))])
          refine own_st (fun t_ k_ => XS.istore X14.here hx rfl (hb hby at_125) rfl (l' := #[.val (.int ai), .val (.int bi), .val (.int di), .val (.int wd), .val (.int xx), .val (.int yy), .val (.ref nb4), .val (.int (own_full (0 : Int64))), .val (.int (own_full (xx.toInt64))), .val (.int (own_full (xx.toInt64))), .val (.int (own_full ((xx.toInt64) + yy.toInt64))), .val (.int (own_full ((xx.toInt64) + yy.toInt64))), .val (.long (xx.toInt64)), .second, .val (.long ((xx.toInt64) + (yy.toInt64))), .second, .val (.int (1 : Int32)), .unset]) rfl k_) ?_
          show own_Go p e below _ T14 (mkF m 127 #[.val (.int ai), .val (.int bi), .val (.int di), .val (.int wd), .val (.int xx), .val (.int yy), .val (.ref nb4), .val (.int (own_full (0 : Int64))), .val (.int (own_full (xx.toInt64))), .val (.int (own_full (xx.toInt64))), .val (.int (own_full ((xx.toInt64) + yy.toInt64))), .val (.int (own_full ((xx.toInt64) + yy.toInt64))), .val (.long (xx.toInt64)), .second, .val (.long ((xx.toInt64) + (yy.toInt64))), .second, .val (.int (1 : Int32)), .unset] [])
          refine own_st (fun t_ k_ => XS.lload X14.here hx rfl (hb hby at_127) rfl k_) ?_
          show own_Go p e below _ T14 (mkF m 129 #[.val (.int ai), .val (.int bi), .val (.int di), .val (.int wd), .val (.int xx), .val (.int yy), .val (.ref nb4), .val (.int (own_full (0 : Int64))), .val (.int (own_full (xx.toInt64))), .val (.int (own_full (xx.toInt64))), .val (.int (own_full ((xx.toInt64) + yy.toInt64))), .val (.int (own_full ((xx.toInt64) + yy.toInt64))), .val (.long (xx.toInt64)), .second, .val (.long ((xx.toInt64) + (yy.toInt64))), .second, .val (.int (1 : Int32)), .unset] [(.long ((xx.toInt64) + (yy.toInt64)))])
          refine own_st (fun t_ k_ => X14.ldc2J hx hown (mvT hZ (hw _ (List.mem_of_getElem? (i := 113) rfl))) rfl (hb hby at_129) k_) ?_
          show own_Go p e below _ T14 (mkF m 132 #[.val (.int ai), .val (.int bi), .val (.int di), .val (.int wd), .val (.int xx), .val (.int yy), .val (.ref nb4), .val (.int (own_full (0 : Int64))), .val (.int (own_full (xx.toInt64))), .val (.int (own_full (xx.toInt64))), .val (.int (own_full ((xx.toInt64) + yy.toInt64))), .val (.int (own_full ((xx.toInt64) + yy.toInt64))), .val (.long (xx.toInt64)), .second, .val (.long ((xx.toInt64) + (yy.toInt64))), .second, .val (.int (1 : Int32)), .unset] [(.long (65536 : Int64)), (.long ((xx.toInt64) + (yy.toInt64)))])
          refine own_st (fun t_ k_ => XS.lcmp X14.here hx rfl (hb hby at_132) rfl k_) ?_
          show own_Go p e below _ T14 (mkF m 133 #[.val (.int ai), .val (.int bi), .val (.int di), .val (.int wd), .val (.int xx), .val (.int yy), .val (.ref nb4), .val (.int (own_full (0 : Int64))), .val (.int (own_full (xx.toInt64))), .val (.int (own_full (xx.toInt64))), .val (.int (own_full ((xx.toInt64) + yy.toInt64))), .val (.int (own_full ((xx.toInt64) + yy.toInt64))), .val (.long (xx.toInt64)), .second, .val (.long ((xx.toInt64) + (yy.toInt64))), .second, .val (.int (1 : Int32)), .unset] [(.int (lcmpW ((xx.toInt64) + (yy.toInt64)) (65536 : Int64)))])
          by_cases h2_ : (lcmpW ((xx.toInt64) + (yy.toInt64)) (65536 : Int64)) < (0 : Int32)
          · refine own_st (fun t_ k_ => XS.ifYes X14.here hx rfl (pc0 := 133) (pc' := 140) rfl (hb hby at_133) rfl ((if0 _ _).trans (tlt h2_).1) (by decide) (by decide) k_) ?_
            show own_Go p e below _ T14 (mkF m 140 #[.val (.int ai), .val (.int bi), .val (.int di), .val (.int wd), .val (.int xx), .val (.int yy), .val (.ref nb4), .val (.int (own_full (0 : Int64))), .val (.int (own_full (xx.toInt64))), .val (.int (own_full (xx.toInt64))), .val (.int (own_full ((xx.toInt64) + yy.toInt64))), .val (.int (own_full ((xx.toInt64) + yy.toInt64))), .val (.long (xx.toInt64)), .second, .val (.long ((xx.toInt64) + (yy.toInt64))), .second, .val (.int (1 : Int32)), .unset] [])
            have e2_ : own_full ((xx.toInt64) + yy.toInt64) = (0 : Int32) := if_pos h2_
            have e0_ : own_full (0 : Int64) = (0 : Int32) := by decide
            refine own_st (fun t_ k_ => XS.iconst X14.here hx rfl (hb hby at_140) k_) ?_
            show own_Go p e below _ T14 (mkF m 141 #[.val (.int ai), .val (.int bi), .val (.int di), .val (.int wd), .val (.int xx), .val (.int yy), .val (.ref nb4), .val (.int (own_full (0 : Int64))), .val (.int (own_full (xx.toInt64))), .val (.int (own_full (xx.toInt64))), .val (.int (own_full ((xx.toInt64) + yy.toInt64))), .val (.int (own_full ((xx.toInt64) + yy.toInt64))), .val (.long (xx.toInt64)), .second, .val (.long ((xx.toInt64) + (yy.toInt64))), .second, .val (.int (1 : Int32)), .unset] [(.int (0 : Int32))])
            refine own_st (fun t_ k_ => XS.istore X14.here hx rfl (hb hby at_141) rfl (l' := #[.val (.int ai), .val (.int bi), .val (.int di), .val (.int wd), .val (.int xx), .val (.int yy), .val (.ref nb4), .val (.int (own_full (0 : Int64))), .val (.int (own_full (xx.toInt64))), .val (.int (own_full (xx.toInt64))), .val (.int (own_full ((xx.toInt64) + yy.toInt64))), .val (.int (own_full ((xx.toInt64) + yy.toInt64))), .val (.long (xx.toInt64)), .second, .val (.long ((xx.toInt64) + (yy.toInt64))), .second, .val (.int (1 : Int32)), .val (.int (0 : Int32))]) rfl k_) ?_
            show own_Go p e below _ T14 (mkF m 143 #[.val (.int ai), .val (.int bi), .val (.int di), .val (.int wd), .val (.int xx), .val (.int yy), .val (.ref nb4), .val (.int (own_full (0 : Int64))), .val (.int (own_full (xx.toInt64))), .val (.int (own_full (xx.toInt64))), .val (.int (own_full ((xx.toInt64) + yy.toInt64))), .val (.int (own_full ((xx.toInt64) + yy.toInt64))), .val (.long (xx.toInt64)), .second, .val (.long ((xx.toInt64) + (yy.toInt64))), .second, .val (.int (1 : Int32)), .val (.int (0 : Int32))] [])
            refine own_st (fun t_ k_ => XS.iload X14.here hx rfl (hb hby at_143) rfl k_) ?_
            show own_Go p e below _ T14 (mkF m 145 #[.val (.int ai), .val (.int bi), .val (.int di), .val (.int wd), .val (.int xx), .val (.int yy), .val (.ref nb4), .val (.int (own_full (0 : Int64))), .val (.int (own_full (xx.toInt64))), .val (.int (own_full (xx.toInt64))), .val (.int (own_full ((xx.toInt64) + yy.toInt64))), .val (.int (own_full ((xx.toInt64) + yy.toInt64))), .val (.long (xx.toInt64)), .second, .val (.long ((xx.toInt64) + (yy.toInt64))), .second, .val (.int (1 : Int32)), .val (.int (0 : Int32))] [(.int (own_full (0 : Int64)))])
            refine own_st (fun t_ k_ => XS.ifNo X14.here hx rfl (hb hby at_145) rfl ((if0 _ _).trans (teq e0_).2) k_) ?_
            show own_Go p e below _ T14 (mkF m 148 #[.val (.int ai), .val (.int bi), .val (.int di), .val (.int wd), .val (.int xx), .val (.int yy), .val (.ref nb4), .val (.int (own_full (0 : Int64))), .val (.int (own_full (xx.toInt64))), .val (.int (own_full (xx.toInt64))), .val (.int (own_full ((xx.toInt64) + yy.toInt64))), .val (.int (own_full ((xx.toInt64) + yy.toInt64))), .val (.long (xx.toInt64)), .second, .val (.long ((xx.toInt64) + (yy.toInt64))), .second, .val (.int (1 : Int32)), .val (.int (0 : Int32))] [])
            refine own_st (fun t_ k_ => XS.iload X14.here hx rfl (hb hby at_148) rfl k_) ?_
            show own_Go p e below _ T14 (mkF m 150 #[.val (.int ai), .val (.int bi), .val (.int di), .val (.int wd), .val (.int xx), .val (.int yy), .val (.ref nb4), .val (.int (own_full (0 : Int64))), .val (.int (own_full (xx.toInt64))), .val (.int (own_full (xx.toInt64))), .val (.int (own_full ((xx.toInt64) + yy.toInt64))), .val (.int (own_full ((xx.toInt64) + yy.toInt64))), .val (.long (xx.toInt64)), .second, .val (.long ((xx.toInt64) + (yy.toInt64))), .second, .val (.int (1 : Int32)), .val (.int (0 : Int32))] [(.int (own_full (xx.toInt64)))])
            refine own_st (fun t_ k_ => XS.iload X14.here hx rfl (hb hby at_150) rfl k_) ?_
            show own_Go p e below _ T14 (mkF m 152 #[.val (.int ai), .val (.int bi), .val (.int di), .val (.int wd), .val (.int xx), .val (.int yy), .val (.ref nb4), .val (.int (own_full (0 : Int64))), .val (.int (own_full (xx.toInt64))), .val (.int (own_full (xx.toInt64))), .val (.int (own_full ((xx.toInt64) + yy.toInt64))), .val (.int (own_full ((xx.toInt64) + yy.toInt64))), .val (.long (xx.toInt64)), .second, .val (.long ((xx.toInt64) + (yy.toInt64))), .second, .val (.int (1 : Int32)), .val (.int (0 : Int32))] [(.int (1 : Int32)), (.int (own_full (xx.toInt64)))])
            refine own_st (fun t_ k_ => XS.icmpNo X14.here hx rfl (hb hby at_152) rfl (teq e1_).2 k_) ?_
            show own_Go p e below _ T14 (mkF m 155 #[.val (.int ai), .val (.int bi), .val (.int di), .val (.int wd), .val (.int xx), .val (.int yy), .val (.ref nb4), .val (.int (own_full (0 : Int64))), .val (.int (own_full (xx.toInt64))), .val (.int (own_full (xx.toInt64))), .val (.int (own_full ((xx.toInt64) + yy.toInt64))), .val (.int (own_full ((xx.toInt64) + yy.toInt64))), .val (.long (xx.toInt64)), .second, .val (.long ((xx.toInt64) + (yy.toInt64))), .second, .val (.int (1 : Int32)), .val (.int (0 : Int32))] [])
            refine own_st (fun t_ k_ => XS.iload X14.here hx rfl (hb hby at_155) rfl k_) ?_
            show own_Go p e below _ T14 (mkF m 157 #[.val (.int ai), .val (.int bi), .val (.int di), .val (.int wd), .val (.int xx), .val (.int yy), .val (.ref nb4), .val (.int (own_full (0 : Int64))), .val (.int (own_full (xx.toInt64))), .val (.int (own_full (xx.toInt64))), .val (.int (own_full ((xx.toInt64) + yy.toInt64))), .val (.int (own_full ((xx.toInt64) + yy.toInt64))), .val (.long (xx.toInt64)), .second, .val (.long ((xx.toInt64) + (yy.toInt64))), .second, .val (.int (1 : Int32)), .val (.int (0 : Int32))] [(.int (own_full (xx.toInt64)))])
            refine own_st (fun t_ k_ => XS.iload X14.here hx rfl (hb hby at_157) rfl k_) ?_
            show own_Go p e below _ T14 (mkF m 159 #[.val (.int ai), .val (.int bi), .val (.int di), .val (.int wd), .val (.int xx), .val (.int yy), .val (.ref nb4), .val (.int (own_full (0 : Int64))), .val (.int (own_full (xx.toInt64))), .val (.int (own_full (xx.toInt64))), .val (.int (own_full ((xx.toInt64) + yy.toInt64))), .val (.int (own_full ((xx.toInt64) + yy.toInt64))), .val (.long (xx.toInt64)), .second, .val (.long ((xx.toInt64) + (yy.toInt64))), .second, .val (.int (1 : Int32)), .val (.int (0 : Int32))] [(.int (1 : Int32)), (.int (own_full (xx.toInt64)))])
            refine own_st (fun t_ k_ => XS.icmpNo X14.here hx rfl (hb hby at_159) rfl (teq e1_).2 k_) ?_
            show own_Go p e below _ T14 (mkF m 162 #[.val (.int ai), .val (.int bi), .val (.int di), .val (.int wd), .val (.int xx), .val (.int yy), .val (.ref nb4), .val (.int (own_full (0 : Int64))), .val (.int (own_full (xx.toInt64))), .val (.int (own_full (xx.toInt64))), .val (.int (own_full ((xx.toInt64) + yy.toInt64))), .val (.int (own_full ((xx.toInt64) + yy.toInt64))), .val (.long (xx.toInt64)), .second, .val (.long ((xx.toInt64) + (yy.toInt64))), .second, .val (.int (1 : Int32)), .val (.int (0 : Int32))] [])
            refine own_st (fun t_ k_ => XS.iload X14.here hx rfl (hb hby at_162) rfl k_) ?_
            show own_Go p e below _ T14 (mkF m 164 #[.val (.int ai), .val (.int bi), .val (.int di), .val (.int wd), .val (.int xx), .val (.int yy), .val (.ref nb4), .val (.int (own_full (0 : Int64))), .val (.int (own_full (xx.toInt64))), .val (.int (own_full (xx.toInt64))), .val (.int (own_full ((xx.toInt64) + yy.toInt64))), .val (.int (own_full ((xx.toInt64) + yy.toInt64))), .val (.long (xx.toInt64)), .second, .val (.long ((xx.toInt64) + (yy.toInt64))), .second, .val (.int (1 : Int32)), .val (.int (0 : Int32))] [(.int (own_full ((xx.toInt64) + yy.toInt64)))])
            refine own_st (fun t_ k_ => XS.iload X14.here hx rfl (hb hby at_164) rfl k_) ?_
            show own_Go p e below _ T14 (mkF m 166 #[.val (.int ai), .val (.int bi), .val (.int di), .val (.int wd), .val (.int xx), .val (.int yy), .val (.ref nb4), .val (.int (own_full (0 : Int64))), .val (.int (own_full (xx.toInt64))), .val (.int (own_full (xx.toInt64))), .val (.int (own_full ((xx.toInt64) + yy.toInt64))), .val (.int (own_full ((xx.toInt64) + yy.toInt64))), .val (.long (xx.toInt64)), .second, .val (.long ((xx.toInt64) + (yy.toInt64))), .second, .val (.int (1 : Int32)), .val (.int (0 : Int32))] [(.int (0 : Int32)), (.int (own_full ((xx.toInt64) + yy.toInt64)))])
            refine own_st (fun t_ k_ => XS.icmpNo X14.here hx rfl (hb hby at_166) rfl (teq e2_).2 k_) ?_
            show own_Go p e below _ T14 (mkF m 169 #[.val (.int ai), .val (.int bi), .val (.int di), .val (.int wd), .val (.int xx), .val (.int yy), .val (.ref nb4), .val (.int (own_full (0 : Int64))), .val (.int (own_full (xx.toInt64))), .val (.int (own_full (xx.toInt64))), .val (.int (own_full ((xx.toInt64) + yy.toInt64))), .val (.int (own_full ((xx.toInt64) + yy.toInt64))), .val (.long (xx.toInt64)), .second, .val (.long ((xx.toInt64) + (yy.toInt64))), .second, .val (.int (1 : Int32)), .val (.int (0 : Int32))] [])
            refine own_st (fun t_ k_ => XS.iload X14.here hx rfl (hb hby at_169) rfl k_) ?_
            show own_Go p e below _ T14 (mkF m 171 #[.val (.int ai), .val (.int bi), .val (.int di), .val (.int wd), .val (.int xx), .val (.int yy), .val (.ref nb4), .val (.int (own_full (0 : Int64))), .val (.int (own_full (xx.toInt64))), .val (.int (own_full (xx.toInt64))), .val (.int (own_full ((xx.toInt64) + yy.toInt64))), .val (.int (own_full ((xx.toInt64) + yy.toInt64))), .val (.long (xx.toInt64)), .second, .val (.long ((xx.toInt64) + (yy.toInt64))), .second, .val (.int (1 : Int32)), .val (.int (0 : Int32))] [(.int (own_full ((xx.toInt64) + yy.toInt64)))])
            refine own_st (fun t_ k_ => XS.iload X14.here hx rfl (hb hby at_171) rfl k_) ?_
            show own_Go p e below _ T14 (mkF m 173 #[.val (.int ai), .val (.int bi), .val (.int di), .val (.int wd), .val (.int xx), .val (.int yy), .val (.ref nb4), .val (.int (own_full (0 : Int64))), .val (.int (own_full (xx.toInt64))), .val (.int (own_full (xx.toInt64))), .val (.int (own_full ((xx.toInt64) + yy.toInt64))), .val (.int (own_full ((xx.toInt64) + yy.toInt64))), .val (.long (xx.toInt64)), .second, .val (.long ((xx.toInt64) + (yy.toInt64))), .second, .val (.int (1 : Int32)), .val (.int (0 : Int32))] [(.int (0 : Int32)), (.int (own_full ((xx.toInt64) + yy.toInt64)))])
            refine own_st (fun t_ k_ => XS.icmpNo X14.here hx rfl (hb hby at_173) rfl (teq e2_).2 k_) ?_
            show own_Go p e below _ T14 (mkF m 176 #[.val (.int ai), .val (.int bi), .val (.int di), .val (.int wd), .val (.int xx), .val (.int yy), .val (.ref nb4), .val (.int (own_full (0 : Int64))), .val (.int (own_full (xx.toInt64))), .val (.int (own_full (xx.toInt64))), .val (.int (own_full ((xx.toInt64) + yy.toInt64))), .val (.int (own_full ((xx.toInt64) + yy.toInt64))), .val (.long (xx.toInt64)), .second, .val (.long ((xx.toInt64) + (yy.toInt64))), .second, .val (.int (1 : Int32)), .val (.int (0 : Int32))] [])
            refine own_st (fun t_ k_ => XS.iconst X14.here hx rfl (hb hby at_176) k_) ?_
            show own_Go p e below _ T14 (mkF m 177 #[.val (.int ai), .val (.int bi), .val (.int di), .val (.int wd), .val (.int xx), .val (.int yy), .val (.ref nb4), .val (.int (own_full (0 : Int64))), .val (.int (own_full (xx.toInt64))), .val (.int (own_full (xx.toInt64))), .val (.int (own_full ((xx.toInt64) + yy.toInt64))), .val (.int (own_full ((xx.toInt64) + yy.toInt64))), .val (.long (xx.toInt64)), .second, .val (.long ((xx.toInt64) + (yy.toInt64))), .second, .val (.int (1 : Int32)), .val (.int (0 : Int32))] [(.int (1 : Int32))])
            refine own_st (fun t_ k_ => XS.goto X14.here hx rfl (pc0 := 177) (pc' := 181) rfl (hb hby at_177) (by decide) (by decide) k_) ?_
            show own_Go p e below _ T14 (mkF m 181 #[.val (.int ai), .val (.int bi), .val (.int di), .val (.int wd), .val (.int xx), .val (.int yy), .val (.ref nb4), .val (.int (own_full (0 : Int64))), .val (.int (own_full (xx.toInt64))), .val (.int (own_full (xx.toInt64))), .val (.int (own_full ((xx.toInt64) + yy.toInt64))), .val (.int (own_full ((xx.toInt64) + yy.toInt64))), .val (.long (xx.toInt64)), .second, .val (.long ((xx.toInt64) + (yy.toInt64))), .second, .val (.int (1 : Int32)), .val (.int (0 : Int32))] [(.int (1 : Int32))])
            refine own_retN X14 hx hlk (t := .boolean) Bd.returns (by simp) (hb hby at_181) ?_ (by decide) (by decide)
            show Q0 n0 _ T14.heap _
            rw [hh14]
            exact ⟨rfl, N14⟩
          · refine own_st (fun t_ k_ => XS.ifNo X14.here hx rfl (hb hby at_133) rfl ((if0 _ _).trans (flt h2_).1) k_) ?_
            show own_Go p e below _ T14 (mkF m 136 #[.val (.int ai), .val (.int bi), .val (.int di), .val (.int wd), .val (.int xx), .val (.int yy), .val (.ref nb4), .val (.int (own_full (0 : Int64))), .val (.int (own_full (xx.toInt64))), .val (.int (own_full (xx.toInt64))), .val (.int (own_full ((xx.toInt64) + yy.toInt64))), .val (.int (own_full ((xx.toInt64) + yy.toInt64))), .val (.long (xx.toInt64)), .second, .val (.long ((xx.toInt64) + (yy.toInt64))), .second, .val (.int (1 : Int32)), .unset] [])
            have e2_ : own_full ((xx.toInt64) + yy.toInt64) = (1 : Int32) := if_neg h2_
            have e0_ : own_full (0 : Int64) = (0 : Int32) := by decide
            refine own_st (fun t_ k_ => XS.iconst X14.here hx rfl (hb hby at_136) k_) ?_
            show own_Go p e below _ T14 (mkF m 137 #[.val (.int ai), .val (.int bi), .val (.int di), .val (.int wd), .val (.int xx), .val (.int yy), .val (.ref nb4), .val (.int (own_full (0 : Int64))), .val (.int (own_full (xx.toInt64))), .val (.int (own_full (xx.toInt64))), .val (.int (own_full ((xx.toInt64) + yy.toInt64))), .val (.int (own_full ((xx.toInt64) + yy.toInt64))), .val (.long (xx.toInt64)), .second, .val (.long ((xx.toInt64) + (yy.toInt64))), .second, .val (.int (1 : Int32)), .unset] [(.int (1 : Int32))])
            refine own_st (fun t_ k_ => XS.goto X14.here hx rfl (pc0 := 137) (pc' := 141) rfl (hb hby at_137) (by decide) (by decide) k_) ?_
            show own_Go p e below _ T14 (mkF m 141 #[.val (.int ai), .val (.int bi), .val (.int di), .val (.int wd), .val (.int xx), .val (.int yy), .val (.ref nb4), .val (.int (own_full (0 : Int64))), .val (.int (own_full (xx.toInt64))), .val (.int (own_full (xx.toInt64))), .val (.int (own_full ((xx.toInt64) + yy.toInt64))), .val (.int (own_full ((xx.toInt64) + yy.toInt64))), .val (.long (xx.toInt64)), .second, .val (.long ((xx.toInt64) + (yy.toInt64))), .second, .val (.int (1 : Int32)), .unset] [(.int (1 : Int32))])
            refine own_st (fun t_ k_ => XS.istore X14.here hx rfl (hb hby at_141) rfl (l' := #[.val (.int ai), .val (.int bi), .val (.int di), .val (.int wd), .val (.int xx), .val (.int yy), .val (.ref nb4), .val (.int (own_full (0 : Int64))), .val (.int (own_full (xx.toInt64))), .val (.int (own_full (xx.toInt64))), .val (.int (own_full ((xx.toInt64) + yy.toInt64))), .val (.int (own_full ((xx.toInt64) + yy.toInt64))), .val (.long (xx.toInt64)), .second, .val (.long ((xx.toInt64) + (yy.toInt64))), .second, .val (.int (1 : Int32)), .val (.int (1 : Int32))]) rfl k_) ?_
            show own_Go p e below _ T14 (mkF m 143 #[.val (.int ai), .val (.int bi), .val (.int di), .val (.int wd), .val (.int xx), .val (.int yy), .val (.ref nb4), .val (.int (own_full (0 : Int64))), .val (.int (own_full (xx.toInt64))), .val (.int (own_full (xx.toInt64))), .val (.int (own_full ((xx.toInt64) + yy.toInt64))), .val (.int (own_full ((xx.toInt64) + yy.toInt64))), .val (.long (xx.toInt64)), .second, .val (.long ((xx.toInt64) + (yy.toInt64))), .second, .val (.int (1 : Int32)), .val (.int (1 : Int32))] [])
            refine own_st (fun t_ k_ => XS.iload X14.here hx rfl (hb hby at_143) rfl k_) ?_
            show own_Go p e below _ T14 (mkF m 145 #[.val (.int ai), .val (.int bi), .val (.int di), .val (.int wd), .val (.int xx), .val (.int yy), .val (.ref nb4), .val (.int (own_full (0 : Int64))), .val (.int (own_full (xx.toInt64))), .val (.int (own_full (xx.toInt64))), .val (.int (own_full ((xx.toInt64) + yy.toInt64))), .val (.int (own_full ((xx.toInt64) + yy.toInt64))), .val (.long (xx.toInt64)), .second, .val (.long ((xx.toInt64) + (yy.toInt64))), .second, .val (.int (1 : Int32)), .val (.int (1 : Int32))] [(.int (own_full (0 : Int64)))])
            refine own_st (fun t_ k_ => XS.ifNo X14.here hx rfl (hb hby at_145) rfl ((if0 _ _).trans (teq e0_).2) k_) ?_
            show own_Go p e below _ T14 (mkF m 148 #[.val (.int ai), .val (.int bi), .val (.int di), .val (.int wd), .val (.int xx), .val (.int yy), .val (.ref nb4), .val (.int (own_full (0 : Int64))), .val (.int (own_full (xx.toInt64))), .val (.int (own_full (xx.toInt64))), .val (.int (own_full ((xx.toInt64) + yy.toInt64))), .val (.int (own_full ((xx.toInt64) + yy.toInt64))), .val (.long (xx.toInt64)), .second, .val (.long ((xx.toInt64) + (yy.toInt64))), .second, .val (.int (1 : Int32)), .val (.int (1 : Int32))] [])
            refine own_st (fun t_ k_ => XS.iload X14.here hx rfl (hb hby at_148) rfl k_) ?_
            show own_Go p e below _ T14 (mkF m 150 #[.val (.int ai), .val (.int bi), .val (.int di), .val (.int wd), .val (.int xx), .val (.int yy), .val (.ref nb4), .val (.int (own_full (0 : Int64))), .val (.int (own_full (xx.toInt64))), .val (.int (own_full (xx.toInt64))), .val (.int (own_full ((xx.toInt64) + yy.toInt64))), .val (.int (own_full ((xx.toInt64) + yy.toInt64))), .val (.long (xx.toInt64)), .second, .val (.long ((xx.toInt64) + (yy.toInt64))), .second, .val (.int (1 : Int32)), .val (.int (1 : Int32))] [(.int (own_full (xx.toInt64)))])
            refine own_st (fun t_ k_ => XS.iload X14.here hx rfl (hb hby at_150) rfl k_) ?_
            show own_Go p e below _ T14 (mkF m 152 #[.val (.int ai), .val (.int bi), .val (.int di), .val (.int wd), .val (.int xx), .val (.int yy), .val (.ref nb4), .val (.int (own_full (0 : Int64))), .val (.int (own_full (xx.toInt64))), .val (.int (own_full (xx.toInt64))), .val (.int (own_full ((xx.toInt64) + yy.toInt64))), .val (.int (own_full ((xx.toInt64) + yy.toInt64))), .val (.long (xx.toInt64)), .second, .val (.long ((xx.toInt64) + (yy.toInt64))), .second, .val (.int (1 : Int32)), .val (.int (1 : Int32))] [(.int (1 : Int32)), (.int (own_full (xx.toInt64)))])
            refine own_st (fun t_ k_ => XS.icmpNo X14.here hx rfl (hb hby at_152) rfl (teq e1_).2 k_) ?_
            show own_Go p e below _ T14 (mkF m 155 #[.val (.int ai), .val (.int bi), .val (.int di), .val (.int wd), .val (.int xx), .val (.int yy), .val (.ref nb4), .val (.int (own_full (0 : Int64))), .val (.int (own_full (xx.toInt64))), .val (.int (own_full (xx.toInt64))), .val (.int (own_full ((xx.toInt64) + yy.toInt64))), .val (.int (own_full ((xx.toInt64) + yy.toInt64))), .val (.long (xx.toInt64)), .second, .val (.long ((xx.toInt64) + (yy.toInt64))), .second, .val (.int (1 : Int32)), .val (.int (1 : Int32))] [])
            refine own_st (fun t_ k_ => XS.iload X14.here hx rfl (hb hby at_155) rfl k_) ?_
            show own_Go p e below _ T14 (mkF m 157 #[.val (.int ai), .val (.int bi), .val (.int di), .val (.int wd), .val (.int xx), .val (.int yy), .val (.ref nb4), .val (.int (own_full (0 : Int64))), .val (.int (own_full (xx.toInt64))), .val (.int (own_full (xx.toInt64))), .val (.int (own_full ((xx.toInt64) + yy.toInt64))), .val (.int (own_full ((xx.toInt64) + yy.toInt64))), .val (.long (xx.toInt64)), .second, .val (.long ((xx.toInt64) + (yy.toInt64))), .second, .val (.int (1 : Int32)), .val (.int (1 : Int32))] [(.int (own_full (xx.toInt64)))])
            refine own_st (fun t_ k_ => XS.iload X14.here hx rfl (hb hby at_157) rfl k_) ?_
            show own_Go p e below _ T14 (mkF m 159 #[.val (.int ai), .val (.int bi), .val (.int di), .val (.int wd), .val (.int xx), .val (.int yy), .val (.ref nb4), .val (.int (own_full (0 : Int64))), .val (.int (own_full (xx.toInt64))), .val (.int (own_full (xx.toInt64))), .val (.int (own_full ((xx.toInt64) + yy.toInt64))), .val (.int (own_full ((xx.toInt64) + yy.toInt64))), .val (.long (xx.toInt64)), .second, .val (.long ((xx.toInt64) + (yy.toInt64))), .second, .val (.int (1 : Int32)), .val (.int (1 : Int32))] [(.int (1 : Int32)), (.int (own_full (xx.toInt64)))])
            refine own_st (fun t_ k_ => XS.icmpNo X14.here hx rfl (hb hby at_159) rfl (teq e1_).2 k_) ?_
            show own_Go p e below _ T14 (mkF m 162 #[.val (.int ai), .val (.int bi), .val (.int di), .val (.int wd), .val (.int xx), .val (.int yy), .val (.ref nb4), .val (.int (own_full (0 : Int64))), .val (.int (own_full (xx.toInt64))), .val (.int (own_full (xx.toInt64))), .val (.int (own_full ((xx.toInt64) + yy.toInt64))), .val (.int (own_full ((xx.toInt64) + yy.toInt64))), .val (.long (xx.toInt64)), .second, .val (.long ((xx.toInt64) + (yy.toInt64))), .second, .val (.int (1 : Int32)), .val (.int (1 : Int32))] [])
            refine own_st (fun t_ k_ => XS.iload X14.here hx rfl (hb hby at_162) rfl k_) ?_
            show own_Go p e below _ T14 (mkF m 164 #[.val (.int ai), .val (.int bi), .val (.int di), .val (.int wd), .val (.int xx), .val (.int yy), .val (.ref nb4), .val (.int (own_full (0 : Int64))), .val (.int (own_full (xx.toInt64))), .val (.int (own_full (xx.toInt64))), .val (.int (own_full ((xx.toInt64) + yy.toInt64))), .val (.int (own_full ((xx.toInt64) + yy.toInt64))), .val (.long (xx.toInt64)), .second, .val (.long ((xx.toInt64) + (yy.toInt64))), .second, .val (.int (1 : Int32)), .val (.int (1 : Int32))] [(.int (own_full ((xx.toInt64) + yy.toInt64)))])
            refine own_st (fun t_ k_ => XS.iload X14.here hx rfl (hb hby at_164) rfl k_) ?_
            show own_Go p e below _ T14 (mkF m 166 #[.val (.int ai), .val (.int bi), .val (.int di), .val (.int wd), .val (.int xx), .val (.int yy), .val (.ref nb4), .val (.int (own_full (0 : Int64))), .val (.int (own_full (xx.toInt64))), .val (.int (own_full (xx.toInt64))), .val (.int (own_full ((xx.toInt64) + yy.toInt64))), .val (.int (own_full ((xx.toInt64) + yy.toInt64))), .val (.long (xx.toInt64)), .second, .val (.long ((xx.toInt64) + (yy.toInt64))), .second, .val (.int (1 : Int32)), .val (.int (1 : Int32))] [(.int (1 : Int32)), (.int (own_full ((xx.toInt64) + yy.toInt64)))])
            refine own_st (fun t_ k_ => XS.icmpNo X14.here hx rfl (hb hby at_166) rfl (teq e2_).2 k_) ?_
            show own_Go p e below _ T14 (mkF m 169 #[.val (.int ai), .val (.int bi), .val (.int di), .val (.int wd), .val (.int xx), .val (.int yy), .val (.ref nb4), .val (.int (own_full (0 : Int64))), .val (.int (own_full (xx.toInt64))), .val (.int (own_full (xx.toInt64))), .val (.int (own_full ((xx.toInt64) + yy.toInt64))), .val (.int (own_full ((xx.toInt64) + yy.toInt64))), .val (.long (xx.toInt64)), .second, .val (.long ((xx.toInt64) + (yy.toInt64))), .second, .val (.int (1 : Int32)), .val (.int (1 : Int32))] [])
            refine own_st (fun t_ k_ => XS.iload X14.here hx rfl (hb hby at_169) rfl k_) ?_
            show own_Go p e below _ T14 (mkF m 171 #[.val (.int ai), .val (.int bi), .val (.int di), .val (.int wd), .val (.int xx), .val (.int yy), .val (.ref nb4), .val (.int (own_full (0 : Int64))), .val (.int (own_full (xx.toInt64))), .val (.int (own_full (xx.toInt64))), .val (.int (own_full ((xx.toInt64) + yy.toInt64))), .val (.int (own_full ((xx.toInt64) + yy.toInt64))), .val (.long (xx.toInt64)), .second, .val (.long ((xx.toInt64) + (yy.toInt64))), .second, .val (.int (1 : Int32)), .val (.int (1 : Int32))] [(.int (own_full ((xx.toInt64) + yy.toInt64)))])
            refine own_st (fun t_ k_ => XS.iload X14.here hx rfl (hb hby at_171) rfl k_) ?_
            show own_Go p e below _ T14 (mkF m 173 #[.val (.int ai), .val (.int bi), .val (.int di), .val (.int wd), .val (.int xx), .val (.int yy), .val (.ref nb4), .val (.int (own_full (0 : Int64))), .val (.int (own_full (xx.toInt64))), .val (.int (own_full (xx.toInt64))), .val (.int (own_full ((xx.toInt64) + yy.toInt64))), .val (.int (own_full ((xx.toInt64) + yy.toInt64))), .val (.long (xx.toInt64)), .second, .val (.long ((xx.toInt64) + (yy.toInt64))), .second, .val (.int (1 : Int32)), .val (.int (1 : Int32))] [(.int (1 : Int32)), (.int (own_full ((xx.toInt64) + yy.toInt64)))])
            refine own_st (fun t_ k_ => XS.icmpNo X14.here hx rfl (hb hby at_173) rfl (teq e2_).2 k_) ?_
            show own_Go p e below _ T14 (mkF m 176 #[.val (.int ai), .val (.int bi), .val (.int di), .val (.int wd), .val (.int xx), .val (.int yy), .val (.ref nb4), .val (.int (own_full (0 : Int64))), .val (.int (own_full (xx.toInt64))), .val (.int (own_full (xx.toInt64))), .val (.int (own_full ((xx.toInt64) + yy.toInt64))), .val (.int (own_full ((xx.toInt64) + yy.toInt64))), .val (.long (xx.toInt64)), .second, .val (.long ((xx.toInt64) + (yy.toInt64))), .second, .val (.int (1 : Int32)), .val (.int (1 : Int32))] [])
            refine own_st (fun t_ k_ => XS.iconst X14.here hx rfl (hb hby at_176) k_) ?_
            show own_Go p e below _ T14 (mkF m 177 #[.val (.int ai), .val (.int bi), .val (.int di), .val (.int wd), .val (.int xx), .val (.int yy), .val (.ref nb4), .val (.int (own_full (0 : Int64))), .val (.int (own_full (xx.toInt64))), .val (.int (own_full (xx.toInt64))), .val (.int (own_full ((xx.toInt64) + yy.toInt64))), .val (.int (own_full ((xx.toInt64) + yy.toInt64))), .val (.long (xx.toInt64)), .second, .val (.long ((xx.toInt64) + (yy.toInt64))), .second, .val (.int (1 : Int32)), .val (.int (1 : Int32))] [(.int (1 : Int32))])
            refine own_st (fun t_ k_ => XS.goto X14.here hx rfl (pc0 := 177) (pc' := 181) rfl (hb hby at_177) (by decide) (by decide) k_) ?_
            show own_Go p e below _ T14 (mkF m 181 #[.val (.int ai), .val (.int bi), .val (.int di), .val (.int wd), .val (.int xx), .val (.int yy), .val (.ref nb4), .val (.int (own_full (0 : Int64))), .val (.int (own_full (xx.toInt64))), .val (.int (own_full (xx.toInt64))), .val (.int (own_full ((xx.toInt64) + yy.toInt64))), .val (.int (own_full ((xx.toInt64) + yy.toInt64))), .val (.long (xx.toInt64)), .second, .val (.long ((xx.toInt64) + (yy.toInt64))), .second, .val (.int (1 : Int32)), .val (.int (1 : Int32))] [(.int (1 : Int32))])
            refine own_retN X14 hx hlk (t := .boolean) Bd.returns (by simp) (hb hby at_181) ?_ (by decide) (by decide)
            show Q0 n0 _ T14.heap _
            rw [hh14]
            exact ⟨rfl, N14⟩
      · show own_Go p e below _ s₁ (mkF m 27 #[.val (.int ai), .val (.int bi), .val (.int di), .val (.int wd), .val (.int xx), .unset, .unset, .unset, .unset, .unset, .unset, .unset, .unset, .unset, .unset, .unset, .unset, .unset] [(.int wd)])
        by_cases hc27_3 : wd = (0 : Int32)
        · refine own_st (fun t_ k_ => XS.ifYes X0.here hx rfl (pc0 := 27) (pc' := 34) rfl (hb hby at_27) rfl ((if0 _ _).trans (teq hc27_3).1) (by decide) (by decide) k_) ?_
          show own_Go p e below _ s₁ (mkF m 34 #[.val (.int ai), .val (.int bi), .val (.int di), .val (.int wd), .val (.int xx), .unset, .unset, .unset, .unset, .unset, .unset, .unset, .unset, .unset, .unset, .unset, .unset, .unset] [])
          refine own_st (fun t_ k_ => X0.ldcI hx hown (mvT hZ (hw _ (List.mem_of_getElem? (i := 1) rfl))) rfl (hb hby at_34) k_) ?_
          show own_Go p e below _ s₁ (mkF m 36 #[.val (.int ai), .val (.int bi), .val (.int di), .val (.int wd), .val (.int xx), .unset, .unset, .unset, .unset, .unset, .unset, .unset, .unset, .unset, .unset, .unset, .unset, .unset] [(.int (65536 : Int32))])
          refine own_st (fun t_ k_ => XS.iload X0.here hx rfl (hb hby at_36) rfl k_) ?_
          show own_Go p e below _ s₁ (mkF m 38 #[.val (.int ai), .val (.int bi), .val (.int di), .val (.int wd), .val (.int xx), .unset, .unset, .unset, .unset, .unset, .unset, .unset, .unset, .unset, .unset, .unset, .unset, .unset] [(.int xx), (.int (65536 : Int32))])
          refine own_st (fun t_ k_ => XS.isub X0.here hx rfl (hb hby at_38) rfl k_) ?_
          show own_Go p e below _ s₁ (mkF m 39 #[.val (.int ai), .val (.int bi), .val (.int di), .val (.int wd), .val (.int xx), .unset, .unset, .unset, .unset, .unset, .unset, .unset, .unset, .unset, .unset, .unset, .unset, .unset] [(.int ((65536 : Int32) - xx))])
          refine own_st (fun t_ k_ => XS.iloadN X0.here hx rfl (hb hby at_39) rfl k_) ?_
          show own_Go p e below _ s₁ (mkF m 40 #[.val (.int ai), .val (.int bi), .val (.int di), .val (.int wd), .val (.int xx), .unset, .unset, .unset, .unset, .unset, .unset, .unset, .unset, .unset, .unset, .unset, .unset, .unset] [(.int bi), (.int ((65536 : Int32) - xx))])
          refine own_st (fun t_ k_ => XS.bipush X0.here hx rfl (hb hby at_40) k_) ?_
          show own_Go p e below _ s₁ (mkF m 42 #[.val (.int ai), .val (.int bi), .val (.int di), .val (.int wd), .val (.int xx), .unset, .unset, .unset, .unset, .unset, .unset, .unset, .unset, .unset, .unset, .unset, .unset, .unset] [(.int (7 : Int32)), (.int bi), (.int ((65536 : Int32) - xx))])
          refine own_st (fun t_ k_ => XS.iand X0.here hx rfl (hb hby at_42) rfl k_) ?_
          show own_Go p e below _ s₁ (mkF m 43 #[.val (.int ai), .val (.int bi), .val (.int di), .val (.int wd), .val (.int xx), .unset, .unset, .unset, .unset, .unset, .unset, .unset, .unset, .unset, .unset, .unset, .unset, .unset] [(.int (bi &&& (7 : Int32))), (.int ((65536 : Int32) - xx))])
          refine own_st (fun t_ k_ => XS.iconst X0.here hx rfl (hb hby at_43) k_) ?_
          show own_Go p e below _ s₁ (mkF m 44 #[.val (.int ai), .val (.int bi), .val (.int di), .val (.int wd), .val (.int xx), .unset, .unset, .unset, .unset, .unset, .unset, .unset, .unset, .unset, .unset, .unset, .unset, .unset] [(.int (4 : Int32)), (.int (bi &&& (7 : Int32))), (.int ((65536 : Int32) - xx))])
          refine own_st (fun t_ k_ => XS.isub X0.here hx rfl (hb hby at_44) rfl k_) ?_
          show own_Go p e below _ s₁ (mkF m 45 #[.val (.int ai), .val (.int bi), .val (.int di), .val (.int wd), .val (.int xx), .unset, .unset, .unset, .unset, .unset, .unset, .unset, .unset, .unset, .unset, .unset, .unset, .unset] [(.int ((bi &&& (7 : Int32)) - (4 : Int32))), (.int ((65536 : Int32) - xx))])
          refine own_st (fun t_ k_ => XS.iadd X0.here hx rfl (hb hby at_45) rfl k_) ?_
          show own_Go p e below _ s₁ (mkF m 46 #[.val (.int ai), .val (.int bi), .val (.int di), .val (.int wd), .val (.int xx), .unset, .unset, .unset, .unset, .unset, .unset, .unset, .unset, .unset, .unset, .unset, .unset, .unset] [(.int (((65536 : Int32) - xx) + ((bi &&& (7 : Int32)) - (4 : Int32))))])
          exact J_yy (((65536 : Int32) - xx) + ((bi &&& (7 : Int32)) - (4 : Int32))) trivial
        · refine own_st (fun t_ k_ => XS.ifNo X0.here hx rfl (hb hby at_27) rfl ((if0 _ _).trans (feq hc27_3).1) k_) ?_
          show own_Go p e below _ s₁ (mkF m 30 #[.val (.int ai), .val (.int bi), .val (.int di), .val (.int wd), .val (.int xx), .unset, .unset, .unset, .unset, .unset, .unset, .unset, .unset, .unset, .unset, .unset, .unset, .unset] [])
          refine own_st (fun t_ k_ => XS.iloadN X0.here hx rfl (hb hby at_30) rfl k_) ?_
          show own_Go p e below _ s₁ (mkF m 31 #[.val (.int ai), .val (.int bi), .val (.int di), .val (.int wd), .val (.int xx), .unset, .unset, .unset, .unset, .unset, .unset, .unset, .unset, .unset, .unset, .unset, .unset, .unset] [(.int bi)])
          refine own_st (fun t_ k_ => XS.goto X0.here hx rfl (pc0 := 31) (pc' := 46) rfl (hb hby at_31) (by decide) (by decide) k_) ?_
          show own_Go p e below _ s₁ (mkF m 46 #[.val (.int ai), .val (.int bi), .val (.int di), .val (.int wd), .val (.int xx), .unset, .unset, .unset, .unset, .unset, .unset, .unset, .unset, .unset, .unset, .unset, .unset, .unset] [(.int bi)])
          exact J_yy bi trivial
    · show own_Go p e below _ s₁ (mkF m 13 #[.val (.int ai), .val (.int bi), .val (.int di), .val (.int wd), .unset, .unset, .unset, .unset, .unset, .unset, .unset, .unset, .unset, .unset, .unset, .unset, .unset, .unset] [(.int wd)])
      by_cases hc13_2 : wd = (0 : Int32)
      · refine own_st (fun t_ k_ => XS.ifYes X0.here hx rfl (pc0 := 13) (pc' := 20) rfl (hb hby at_13) rfl ((if0 _ _).trans (teq hc13_2).1) (by decide) (by decide) k_) ?_
        show own_Go p e below _ s₁ (mkF m 20 #[.val (.int ai), .val (.int bi), .val (.int di), .val (.int wd), .unset, .unset, .unset, .unset, .unset, .unset, .unset, .unset, .unset, .unset, .unset, .unset, .unset, .unset] [])
        refine own_st (fun t_ k_ => XS.iloadN X0.here hx rfl (hb hby at_20) rfl k_) ?_
        show own_Go p e below _ s₁ (mkF m 21 #[.val (.int ai), .val (.int bi), .val (.int di), .val (.int wd), .unset, .unset, .unset, .unset, .unset, .unset, .unset, .unset, .unset, .unset, .unset, .unset, .unset, .unset] [(.int ai)])
        refine own_st (fun t_ k_ => X0.ldcI hx hown (mvT hZ (hw _ (List.mem_of_getElem? (i := 0) rfl))) rfl (hb hby at_21) k_) ?_
        show own_Go p e below _ s₁ (mkF m 23 #[.val (.int ai), .val (.int bi), .val (.int di), .val (.int wd), .unset, .unset, .unset, .unset, .unset, .unset, .unset, .unset, .unset, .unset, .unset, .unset, .unset, .unset] [(.int (131071 : Int32)), (.int ai)])
        refine own_st (fun t_ k_ => XS.iand X0.here hx rfl (hb hby at_23) rfl k_) ?_
        show own_Go p e below _ s₁ (mkF m 24 #[.val (.int ai), .val (.int bi), .val (.int di), .val (.int wd), .unset, .unset, .unset, .unset, .unset, .unset, .unset, .unset, .unset, .unset, .unset, .unset, .unset, .unset] [(.int (ai &&& (131071 : Int32)))])
        exact J_xx (ai &&& (131071 : Int32)) trivial
      · refine own_st (fun t_ k_ => XS.ifNo X0.here hx rfl (hb hby at_13) rfl ((if0 _ _).trans (feq hc13_2).1) k_) ?_
        show own_Go p e below _ s₁ (mkF m 16 #[.val (.int ai), .val (.int bi), .val (.int di), .val (.int wd), .unset, .unset, .unset, .unset, .unset, .unset, .unset, .unset, .unset, .unset, .unset, .unset, .unset, .unset] [])
        refine own_st (fun t_ k_ => XS.iloadN X0.here hx rfl (hb hby at_16) rfl k_) ?_
        show own_Go p e below _ s₁ (mkF m 17 #[.val (.int ai), .val (.int bi), .val (.int di), .val (.int wd), .unset, .unset, .unset, .unset, .unset, .unset, .unset, .unset, .unset, .unset, .unset, .unset, .unset, .unset] [(.int ai)])
        refine own_st (fun t_ k_ => XS.goto X0.here hx rfl (pc0 := 17) (pc' := 24) rfl (hb hby at_17) (by decide) (by decide) k_) ?_
        show own_Go p e below _ s₁ (mkF m 24 #[.val (.int ai), .val (.int bi), .val (.int di), .val (.int wd), .unset, .unset, .unset, .unset, .unset, .unset, .unset, .unset, .unset, .unset, .unset, .unset, .unset, .unset] [(.int ai)])
        exact J_xx ai trivial
  · show own_Go p e below _ s₁ (mkF m 3 #[.val (.int ai), .val (.int bi), .val (.int di), .unset, .unset, .unset, .unset, .unset, .unset, .unset, .unset, .unset, .unset, .unset, .unset, .unset, .unset, .unset] [(.int (di &&& (1 : Int32)))])
    by_cases hc3_1 : (di &&& (1 : Int32)) = (0 : Int32)
    · refine own_st (fun t_ k_ => XS.ifYes X0.here hx rfl (pc0 := 3) (pc' := 10) rfl (hb hby at_3) rfl ((if0 _ _).trans (teq hc3_1).1) (by decide) (by decide) k_) ?_
      show own_Go p e below _ s₁ (mkF m 10 #[.val (.int ai), .val (.int bi), .val (.int di), .unset, .unset, .unset, .unset, .unset, .unset, .unset, .unset, .unset, .unset, .unset, .unset, .unset, .unset, .unset] [])
      refine own_st (fun t_ k_ => XS.iconst X0.here hx rfl (hb hby at_10) k_) ?_
      show own_Go p e below _ s₁ (mkF m 11 #[.val (.int ai), .val (.int bi), .val (.int di), .unset, .unset, .unset, .unset, .unset, .unset, .unset, .unset, .unset, .unset, .unset, .unset, .unset, .unset, .unset] [(.int (0 : Int32))])
      exact J_wd (0 : Int32) (Or.inl rfl)
    · refine own_st (fun t_ k_ => XS.ifNo X0.here hx rfl (hb hby at_3) rfl ((if0 _ _).trans (feq hc3_1).1) k_) ?_
      show own_Go p e below _ s₁ (mkF m 6 #[.val (.int ai), .val (.int bi), .val (.int di), .unset, .unset, .unset, .unset, .unset, .unset, .unset, .unset, .unset, .unset, .unset, .unset, .unset, .unset, .unset] [])
      refine own_st (fun t_ k_ => XS.iconst X0.here hx rfl (hb hby at_6) k_) ?_
      show own_Go p e below _ s₁ (mkF m 7 #[.val (.int ai), .val (.int bi), .val (.int di), .unset, .unset, .unset, .unset, .unset, .unset, .unset, .unset, .unset, .unset, .unset, .unset, .unset, .unset, .unset] [(.int (1 : Int32))])
      refine own_st (fun t_ k_ => XS.goto X0.here hx rfl (pc0 := 7) (pc' := 11) rfl (hb hby at_7) (by decide) (by decide) k_) ?_
      show own_Go p e below _ s₁ (mkF m 11 #[.val (.int ai), .val (.int bi), .val (.int di), .unset, .unset, .unset, .unset, .unset, .unset, .unset, .unset, .unset, .unset, .unset, .unset, .unset, .unset, .unset] [(.int (1 : Int32))])
      exact J_wd (1 : Int32) (Or.inr rfl)
set_option maxRecDepth 65536 in
set_option maxHeartbeats 40000000 in
theorem comes_1 {Post : Tables → Env → Array Value → State → Outcome → State → Prop} (hpost : ∀ tb e args s v u, (limb_1_1.after args s (.returned v) u = true ∧ limb_1_2.after args s (.returned v) u = true ∧ True) → FrameEnd s (.returned v) u (Jvm.fieldLocs frame_1_writes args s ++ Jvm.arrayLocs frame_1_arrays args s ++ Jvm.staticLocs frame_1_statics s) 24 128 → Post tb e args s (.returned v) u) :
    ArmFor flags0 classFile x code maxLocals ret World_1 tables_1 room_1 Calls_1 rest_1 Pre_1 Post := by
  intro l hfl _ _ p e ha hc hk s m args below hf hA hF happ hP
  obtain ⟨hcalls, hrest, hpre⟩ := hP
  obtain ⟨-, -, -, hnamed, -, -, -, hat⟩ := (Spec.applies_iff hf).mp happ
  obtain ⟨hg, hn⟩ := and_e (Cond.before_iff.mp (show (Jvm.Cond.and given_1 narrow_1).before args s = true from hpre))
  obtain ⟨g0, hg0⟩ := and_e hg
  obtain ⟨g1, hg1⟩ := and_e hg0
  obtain ⟨g2, hg2⟩ := and_e hg1
  obtain ⟨w0, w1, w2, rfl⟩ : ∃ w0 w1 w2 : Value, args = #[w0, w1, w2] := by
    have hs : args.size = 3 := by simpa [Cond.value, given_1] using g0
    obtain ⟨L⟩ := args
    match L, hs with
    | [w0, w1, w2], _ => exact ⟨w0, w1, w2, rfl⟩
  have hw := fun d (hd : d ∈ tables_1) => atoms_spec (ws := Jvm.Cond.code x code maxLocals ret :: tables_1) hat d (List.mem_cons_of_mem _ hd)
  have hfit : Fit s := fun {y c} hc i hi => by
    obtain ⟨ha, rfl⟩ := Array.getElem?_eq_some_iff.mp hc
    have q := List.all_eq_true.mp ((Array.all_eq_true_iff_forall_mem.mp hF) _ (Array.getElem_mem ha)) i (List.mem_range.mpr hi)
    simpa [Array.getElem?_eq_getElem hi] using q
  obtain ⟨i0, ei0⟩ := is_v g1
  obtain rfl : w0 = (.int i0) := Option.some.inj ei0
  obtain ⟨i1, ei1⟩ := is_v g2
  obtain rfl : w1 = (.int i1) := Option.some.inj ei1
  obtain ⟨i2, ei2⟩ := is_v hg2
  obtain rfl : w2 = (.int i2) := Option.some.inj ei2
  obtain ⟨n, o, h1, h2, h3, _, L, rfl, ⟨rfl, N⟩, hq⟩ := rm0 l s _ hw tables_1 i0 i1 i2 s.heap s.heap.size (Nat.le_refl _) hcalls.1 p e ha hc hk s m _ below hf ((Spec.applies_iff_loose hf).mp happ).1 ⟨rfl, State.Warmed39.refl s, rfl⟩ trivial
  refine ⟨n, _, h1, h2, h3, hpost _ _ _ _ _ _ ⟨Cond.after_iff.mpr rfl, Cond.after_iff.mpr (eq_i res_at (Term.int_eval (1)) rfl), trivial⟩ ⟨hq.1, hq.2.1, (hq.2.2.sift fun y hy => Or.inr (N y hy)).mono (by decide) (by decide)⟩⟩
theorem main_1_1 : Claimed_1_1 := comes_1 fun _ _ _ _ _ _ h hF => ⟨h.1, hF⟩
theorem main_1_2 : Claimed_1_2 := comes_1 fun _ _ _ _ _ _ h hF => ⟨h.2.1, hF⟩
end Jvm.Pilot.@@N@@
namespace Jvm.Pilot.@@N@@
open Jvm Jvm.ClassFile Sem Op Lib Jvm.Free Jvm.Stand Jvm.Pilot.@@N@@.Jvm.D
/-! MADE BY PROGRAM (witnessworld.py) out of the Statement's table words and the real class files: 23 classes; the members and pool entries that the words name. The judged class is class 1, her method 1. -/
namespace start1
open Jvm.ClassFile
def u (s : String) : CpInfo := .utf8 (stringToUtf16 s)
/-- a pool by its gaps: so many unusable entries, then the entry; so many at the end -/
def gap : Nat → List CpInfo → List CpInfo
  | 0, r => r
  | n + 1, r => .unusable :: gap n r
def poolList (es : List (Nat × CpInfo)) (last : Nat) : List CpInfo := es.foldr (fun e r => gap e.1 (e.2 :: r)) (gap last [])
def pool (es : List (Nat × CpInfo)) (last : Nat) : Array CpInfo := ⟨poolList es last⟩
def fileOf (pool : Array CpInfo) (this : Nat) (attrs : Array Attribute := #[]) (ms : Array MethodInfo := #[]) (fl : Nat := 33) (sup : Nat := 0) (ifs : Array Nat := #[]) (fds : Array FieldInfo := #[]) : ClassFile where
  minorVersion := 0
  majorVersion := 65
  constantPool := pool
  accessFlags := fl
  thisClass := this
  superClass := sup
  interfaces := ifs
  fields := fds
  methods := ms
  attributes := attrs
def plain (name : String) (sup : Option ClassId) : Class where
  name := name
  kind := .ordinary
  loader := none
  accessFlags := 33
  super := sup
  interfaces := #[]
  cf := none
  fields := #[]
  methods := #[]
  instanceTypes := #[]
  staticTypes := #[]
  resolved := #[]
  callSites := []
  init := .initialized
  statics := none
  mirror := none

def pool0 : Array CpInfo := pool [(5, u "<init>"), (0, u "()V"), (1, .class_ 10), (1, u "java/lang/Object"), (0, u "getClass"), (0, u "()Ljava/lang/Class;")] 111

def k0c0 : Code := { maxStack := 0, maxLocals := 1, code := object_method_1_code, exceptionTable := #[], attributes := #[] }
def k0m0 : Method := { name := "<init>", desc := "()V", sig := { parameters := [], returnType := none }, accessFlags := 1, code := some k0c0 }
def k0m1 : Method := { name := "getClass", desc := "()Ljava/lang/Class;", sig := { parameters := [], returnType := some (.object "java/lang/Class") }, accessFlags := 273, code := none }
/-- java/lang/Object -/
def k0 : Class := { plain "java/lang/Object" none with
  accessFlags := 33
  interfaces := #[]
  cf := some (fileOf pool0 8 #[] #[{ accessFlags := 1, nameIndex := 5, descriptorIndex := 6, attributes := #[] }, { accessFlags := 273, nameIndex := 11, descriptorIndex := 12, attributes := #[] }] 33 0 #[] #[])
  fields := #[]
  methods := #[k0m0, k0m1]
  instanceTypes := #[]
  staticTypes := #[]
  resolved := Array.replicate 124 none
  statics := none }

def pool1 : Array CpInfo := pool [(2, .class_ 4), (0, .nameAndType 5 6), (0, u "java/lang/Object"), (0, u "<init>"), (0, u "()V"), (0, .integer 131071), (0, .integer 65536), (0, .class_ 10), (0, u "com/example/lean_pubsub/leanpubsub/connection/HeldBack"), (0, .methodref 9 3), (0, .methodref 9 13), (0, .nameAndType 14 15), (0, u "isFull"), (0, u "()Z"), (0, .methodref 9 17), (0, .nameAndType 18 19), (0, u "add"), (0, u "(ILjava/lang/Runnable;)Z"), (0, .long 65536), (1, .class_ 23), (0, u "com/example/lean_pubsub/leanpubsub/connection/HeldBackIsFullPinLaw"), (2, u "law"), (0, u "(III)Z")] 3

def k1m0 : Method := { name := "<init>", desc := "()V", sig := { parameters := [], returnType := none }, accessFlags := 1, code := none }
def k1c1 : Code := { maxStack := 4, maxLocals := 18, code := code, exceptionTable := #[], attributes := #[] }
def k1m1 : Method := { name := "law", desc := "(III)Z", sig := { parameters := [.int, .int, .int], returnType := some .boolean }, accessFlags := 9, code := some k1c1 }
/-- com/example/lean_pubsub/leanpubsub/connection/HeldBackIsFullPinLaw -/
def k1 : Class := { plain "com/example/lean_pubsub/leanpubsub/connection/HeldBackIsFullPinLaw" (some 0) with
  accessFlags := 49
  interfaces := #[]
  cf := some (fileOf pool1 22 #[] #[{ accessFlags := 1, nameIndex := 5, descriptorIndex := 6, attributes := #[] }, { accessFlags := 9, nameIndex := 26, descriptorIndex := 27, attributes := #[] }] 49 2 #[] #[])
  fields := #[]
  methods := #[k1m0, k1m1]
  instanceTypes := #[]
  staticTypes := #[]
  resolved := Array.replicate 31 none
  statics := none }

def pool2 : Array CpInfo := pool [(1, .methodref 2 3), (0, .class_ 4), (0, .nameAndType 5 6), (0, u "java/lang/Object"), (0, u "<init>"), (0, u "()V"), (0, .class_ 8), (0, u "java/util/ArrayDeque"), (0, .methodref 7 10), (0, .nameAndType 5 11), (0, u "(I)V"), (0, .fieldref 13 14), (0, .class_ 15), (0, .nameAndType 16 17), (0, u "com/example/lean_pubsub/leanpubsub/connection/HeldBack"), (0, u "held"), (0, u "Ljava/util/Queue;"), (0, .class_ 19), (0, u "com/example/lean_pubsub/leanpubsub/connection/HeldBack$Held"), (0, .methodref 18 21), (0, .nameAndType 5 22), (0, u "(ILjava/lang/Runnable;)V"), (0, .interfaceMethodref 24 25), (0, .class_ 26), (0, .nameAndType 27 28), (0, u "java/util/Queue"), (0, u "add"), (0, u "(Ljava/lang/Object;)Z"), (0, .fieldref 13 30), (0, .nameAndType 31 32), (0, u "bytes"), (0, u "J"), (0, .methodref 13 34), (0, .nameAndType 35 36), (0, u "isFull"), (0, u "()Z"), (24, .long 65536), (1, u "LIMIT"), (0, u "I"), (6, u "(ILjava/lang/Runnable;)Z")] 8

def k2c0 : Code := { maxStack := 4, maxLocals := 1, code := prog_34_method_1_code, exceptionTable := #[], attributes := #[] }
def k2m0 : Method := { name := "<init>", desc := "()V", sig := { parameters := [], returnType := none }, accessFlags := 0, code := some k2c0 }
def k2c1 : Code := { maxStack := 5, maxLocals := 3, code := prog_34_method_2_code, exceptionTable := #[], attributes := #[] }
def k2m1 : Method := { name := "add", desc := "(ILjava/lang/Runnable;)Z", sig := { parameters := [.int, (.object "java/lang/Runnable")], returnType := some .boolean }, accessFlags := 0, code := some k2c1 }
def k2c2 : Code := { maxStack := 4, maxLocals := 1, code := prog_34_method_4_code, exceptionTable := #[], attributes := #[] }
def k2m2 : Method := { name := "isFull", desc := "()Z", sig := { parameters := [], returnType := some .boolean }, accessFlags := 0, code := some k2c2 }
/-- com/example/lean_pubsub/leanpubsub/connection/HeldBack -/
def k2 : Class := { plain "com/example/lean_pubsub/leanpubsub/connection/HeldBack" (some 0) with
  accessFlags := 32
  interfaces := #[]
  cf := some (fileOf pool2 13 #[.nestMembers #[18]] #[{ accessFlags := 0, nameIndex := 5, descriptorIndex := 6, attributes := #[] }, { accessFlags := 0, nameIndex := 27, descriptorIndex := 71, attributes := #[] }, { accessFlags := 0, nameIndex := 35, descriptorIndex := 36, attributes := #[] }] 32 2 #[] #[{ accessFlags := 24, nameIndex := 63, descriptorIndex := 64, attributes := #[] }, { accessFlags := 18, nameIndex := 16, descriptorIndex := 17, attributes := #[] }, { accessFlags := 2, nameIndex := 31, descriptorIndex := 32, attributes := #[] }])
  fields := #[{ name := "LIMIT", type := .int, accessFlags := 24, slot := 0, constantValue := 0 }, { name := "held", type := (.object "java/util/Queue"), accessFlags := 18, slot := 0, constantValue := 0 }, { name := "bytes", type := .long, accessFlags := 2, slot := 1, constantValue := 0 }]
  methods := #[k2m0, k2m1, k2m2]
  instanceTypes := #[(.object "java/util/Queue"), .long]
  staticTypes := #[.int]
  resolved := ((Array.replicate 80 none).setIfInBounds 18 (some (.cls 13))).setIfInBounds 20 (some (.method ⟨13, 0⟩))
  statics := none }

def pool3 : Array CpInfo := pool [(8, .class_ 10), (1, u "java/lang/Iterable"), (24, .class_ 36), (0, u "java/lang/Object")] 25

/-- java/lang/Iterable -/
def k3 : Class := { plain "java/lang/Iterable" (some 0) with
  accessFlags := 1537
  interfaces := #[]
  cf := some (fileOf pool3 8 #[] #[] 1537 35 #[] #[])
  fields := #[]
  methods := #[]
  instanceTypes := #[]
  staticTypes := #[]
  resolved := Array.replicate 62 none
  statics := none }

def pool4 : Array CpInfo := pool [(10, .class_ 12), (1, u "java/util/Collection"), (47, .class_ 61), (0, u "java/lang/Object"), (0, .class_ 63), (0, u "java/lang/Iterable")] 51

/-- java/util/Collection -/
def k4 : Class := { plain "java/util/Collection" (some 0) with
  accessFlags := 1537
  interfaces := #[3]
  cf := some (fileOf pool4 10 #[] #[] 1537 60 #[62] #[])
  fields := #[]
  methods := #[]
  instanceTypes := #[]
  staticTypes := #[]
  resolved := Array.replicate 115 none
  statics := none }

def pool5 : Array CpInfo := pool [(1, .methodref 2 3), (0, .class_ 4), (0, .nameAndType 5 6), (0, u "java/lang/Object"), (0, u "<init>"), (0, u "()V"), (1, .class_ 10), (1, u "java/util/AbstractCollection"), (66, .class_ 78), (0, u "java/util/Collection")] 81

def k5c0 : Code := { maxStack := 1, maxLocals := 1, code := jdk_22_method_1_code, exceptionTable := #[], attributes := #[] }
def k5m0 : Method := { name := "<init>", desc := "()V", sig := { parameters := [], returnType := none }, accessFlags := 4, code := some k5c0 }
/-- java/util/AbstractCollection -/
def k5 : Class := { plain "java/util/AbstractCollection" (some 0) with
  accessFlags := 1057
  interfaces := #[4]
  cf := some (fileOf pool5 8 #[] #[{ accessFlags := 4, nameIndex := 5, descriptorIndex := 6, attributes := #[] }] 1057 2 #[77] #[])
  fields := #[]
  methods := #[k5m0]
  instanceTypes := #[]
  staticTypes := #[]
  resolved := Array.replicate 160 none
  statics := none }

def pool6 : Array CpInfo := pool [(1, .class_ 2), (0, u "java/util/Queue"), (0, .class_ 4), (0, u "java/lang/Object"), (0, .class_ 6), (0, u "java/util/Collection"), (0, u "add"), (0, u "(Ljava/lang/Object;)Z")] 12

def k6m0 : Method := { name := "add", desc := "(Ljava/lang/Object;)Z", sig := { parameters := [(.object "java/lang/Object")], returnType := some .boolean }, accessFlags := 1025, code := none }
/-- java/util/Queue -/
def k6 : Class := { plain "java/util/Queue" (some 0) with
  accessFlags := 1537
  interfaces := #[4]
  cf := some (fileOf pool6 1 #[] #[{ accessFlags := 1025, nameIndex := 7, descriptorIndex := 8, attributes := #[] }] 1537 3 #[5] #[])
  fields := #[]
  methods := #[k6m0]
  instanceTypes := #[]
  staticTypes := #[]
  resolved := Array.replicate 21 none
  statics := none }

def pool7 : Array CpInfo := pool [(8, .class_ 10), (1, u "java/util/SequencedCollection"), (15, .class_ 27), (0, u "java/lang/Object"), (0, .class_ 29), (0, u "java/util/Collection")] 27

/-- java/util/SequencedCollection -/
def k7 : Class := { plain "java/util/SequencedCollection" (some 0) with
  accessFlags := 1537
  interfaces := #[4]
  cf := some (fileOf pool7 8 #[] #[] 1537 26 #[28] #[])
  fields := #[]
  methods := #[]
  instanceTypes := #[]
  staticTypes := #[]
  resolved := Array.replicate 57 none
  statics := none }

def pool8 : Array CpInfo := pool [(8, .class_ 10), (1, u "java/util/Deque"), (2, .class_ 14), (0, u "java/lang/Object"), (0, .class_ 16), (0, u "java/util/Queue"), (0, .class_ 18), (0, u "java/util/SequencedCollection")] 51

/-- java/util/Deque -/
def k8 : Class := { plain "java/util/Deque" (some 0) with
  accessFlags := 1537
  interfaces := #[6, 7]
  cf := some (fileOf pool8 8 #[] #[] 1537 13 #[15, 17] #[])
  fields := #[]
  methods := #[]
  instanceTypes := #[]
  staticTypes := #[]
  resolved := Array.replicate 70 none
  statics := none }

def pool9 : Array CpInfo := pool [(1, .class_ 2), (0, u "java/lang/Cloneable"), (0, .class_ 4), (0, u "java/lang/Object")] 2

/-- java/lang/Cloneable -/
def k9 : Class := { plain "java/lang/Cloneable" (some 0) with
  accessFlags := 1537
  interfaces := #[]
  cf := some (fileOf pool9 1 #[] #[] 1537 3 #[] #[])
  fields := #[]
  methods := #[]
  instanceTypes := #[]
  staticTypes := #[]
  resolved := Array.replicate 7 none
  statics := none }

def pool10 : Array CpInfo := pool [(1, .class_ 2), (0, u "java/io/Serializable"), (0, .class_ 4), (0, u "java/lang/Object")] 2

/-- java/io/Serializable -/
def k10 : Class := { plain "java/io/Serializable" (some 0) with
  accessFlags := 1537
  interfaces := #[]
  cf := some (fileOf pool10 1 #[] #[] 1537 3 #[] #[])
  fields := #[]
  methods := #[]
  instanceTypes := #[]
  staticTypes := #[]
  resolved := Array.replicate 7 none
  statics := none }

def pool11 : Array CpInfo := pool [(3, .fieldref 4 5), (0, .class_ 6), (0, .nameAndType 7 8), (0, u "java/util/ArrayDeque"), (0, u "elements"), (0, u "[Ljava/lang/Object;"), (0, .integer 2147483639), (3, u "(II)I"), (0, .methodref 15 16), (0, .class_ 17), (0, .nameAndType 18 19), (0, u "java/util/Arrays"), (0, u "copyOf"), (0, u "([Ljava/lang/Object;I)[Ljava/lang/Object;"), (0, .fieldref 4 21), (0, .nameAndType 22 23), (0, u "tail"), (0, u "I"), (0, .fieldref 4 25), (0, .nameAndType 26 23), (0, u "head"), (0, .methodref 28 29), (0, .class_ 30), (0, .nameAndType 31 32), (0, u "java/lang/System"), (0, u "arraycopy"), (0, u "(Ljava/lang/Object;ILjava/lang/Object;II)V"), (6, u "<init>"), (1, .integer 2147483647), (0, .methodref 43 44), (0, .class_ 45), (0, .nameAndType 39 46), (0, u "java/util/AbstractCollection"), (0, u "()V"), (0, .class_ 48), (0, u "java/lang/Object"), (8, u "(I)V"), (13, .methodref 4 72), (0, .nameAndType 73 57), (0, u "grow"), (0, .methodref 4 75), (0, .nameAndType 76 13), (0, u "inc"), (12, u "(Ljava/lang/Object;)V"), (0, .methodref 4 91), (0, .nameAndType 92 89), (0, u "addLast"), (17, u "(Ljava/lang/Object;)Z"), (20, .class_ 132), (0, u "java/util/ArrayDeque$DeqIterator"), (3, .class_ 137), (0, u "java/util/ArrayDeque$DescendingIterator"), (1, .class_ 140), (0, u "java/util/ArrayDeque$DeqSpliterator"), (137, .class_ 279), (0, u "java/util/Deque"), (0, .class_ 281), (0, u "java/lang/Cloneable"), (0, .class_ 283), (0, u "java/io/Serializable"), (0, u "MAX_ARRAY_SIZE"), (1, u "serialVersionUID"), (0, u "J"), (48, u "add")] 101

def k11c0 : Code := { maxStack := 6, maxLocals := 9, code := jdk_21_method_1_code, exceptionTable := #[], attributes := #[] }
def k11m0 : Method := { name := "grow", desc := "(I)V", sig := { parameters := [.int], returnType := none }, accessFlags := 2, code := some k11c0 }
def k11m1 : Method := { name := "<init>", desc := "()V", sig := { parameters := [], returnType := none }, accessFlags := 1, code := none }
def k11c2 : Code := { maxStack := 3, maxLocals := 2, code := jdk_21_method_4_code, exceptionTable := #[], attributes := #[] }
def k11m2 : Method := { name := "<init>", desc := "(I)V", sig := { parameters := [.int], returnType := none }, accessFlags := 1, code := some k11c2 }
def k11c3 : Code := { maxStack := 2, maxLocals := 2, code := jdk_21_method_6_code, exceptionTable := #[], attributes := #[] }
def k11m3 : Method := { name := "inc", desc := "(II)I", sig := { parameters := [.int, .int], returnType := some .int }, accessFlags := 24, code := some k11c3 }
def k11c4 : Code := { maxStack := 4, maxLocals := 3, code := jdk_21_method_13_code, exceptionTable := #[], attributes := #[] }
def k11m4 : Method := { name := "addLast", desc := "(Ljava/lang/Object;)V", sig := { parameters := [(.object "java/lang/Object")], returnType := none }, accessFlags := 1, code := some k11c4 }
def k11c5 : Code := { maxStack := 2, maxLocals := 2, code := jdk_21_method_28_code, exceptionTable := #[], attributes := #[] }
def k11m5 : Method := { name := "add", desc := "(Ljava/lang/Object;)Z", sig := { parameters := [(.object "java/lang/Object")], returnType := some .boolean }, accessFlags := 1, code := some k11c5 }
/-- java/util/ArrayDeque -/
def k11 : Class := { plain "java/util/ArrayDeque" (some 5) with
  accessFlags := 33
  interfaces := #[8, 9, 10]
  cf := some (fileOf pool11 4 #[.nestMembers #[139, 136, 131]] #[{ accessFlags := 2, nameIndex := 73, descriptorIndex := 57, attributes := #[] }, { accessFlags := 1, nameIndex := 39, descriptorIndex := 46, attributes := #[] }, { accessFlags := 1, nameIndex := 39, descriptorIndex := 57, attributes := #[] }, { accessFlags := 24, nameIndex := 76, descriptorIndex := 13, attributes := #[] }, { accessFlags := 1, nameIndex := 92, descriptorIndex := 89, attributes := #[] }, { accessFlags := 1, nameIndex := 336, descriptorIndex := 110, attributes := #[] }] 33 43 #[278, 280, 282] #[{ accessFlags := 128, nameIndex := 7, descriptorIndex := 8, attributes := #[] }, { accessFlags := 128, nameIndex := 26, descriptorIndex := 23, attributes := #[] }, { accessFlags := 128, nameIndex := 22, descriptorIndex := 23, attributes := #[] }, { accessFlags := 26, nameIndex := 284, descriptorIndex := 23, attributes := #[] }, { accessFlags := 26, nameIndex := 286, descriptorIndex := 287, attributes := #[] }])
  fields := #[{ name := "elements", type := (.array (.object "java/lang/Object")), accessFlags := 128, slot := 0, constantValue := 0 }, { name := "head", type := .int, accessFlags := 128, slot := 1, constantValue := 0 }, { name := "tail", type := .int, accessFlags := 128, slot := 2, constantValue := 0 }, { name := "MAX_ARRAY_SIZE", type := .int, accessFlags := 26, slot := 0, constantValue := 0 }, { name := "serialVersionUID", type := .long, accessFlags := 26, slot := 1, constantValue := 0 }]
  methods := #[k11m0, k11m1, k11m2, k11m3, k11m4, k11m5]
  instanceTypes := #[(.array (.object "java/lang/Object")), .int, .int]
  staticTypes := #[.int, .long]
  resolved := Array.replicate 438 none
  statics := none }

def pool12 : Array CpInfo := pool [(1, .methodref 2 3), (0, .class_ 4), (0, .nameAndType 5 6), (0, u "java/lang/Object"), (0, u "<init>"), (0, u "()V"), (0, .class_ 8), (0, u "java/lang/Record")] 13

def k12c0 : Code := { maxStack := 1, maxLocals := 1, code := jdk_30_method_1_code, exceptionTable := #[], attributes := #[] }
def k12m0 : Method := { name := "<init>", desc := "()V", sig := { parameters := [], returnType := none }, accessFlags := 4, code := some k12c0 }
/-- java/lang/Record -/
def k12 : Class := { plain "java/lang/Record" (some 0) with
  accessFlags := 1057
  interfaces := #[]
  cf := some (fileOf pool12 7 #[] #[{ accessFlags := 4, nameIndex := 5, descriptorIndex := 6, attributes := #[] }] 1057 2 #[] #[])
  fields := #[]
  methods := #[k12m0]
  instanceTypes := #[]
  staticTypes := #[]
  resolved := Array.replicate 22 none
  statics := none }

def pool13 : Array CpInfo := pool [(1, .methodref 2 3), (0, .class_ 4), (0, .nameAndType 5 6), (0, u "java/lang/Record"), (0, u "<init>"), (0, u "()V"), (0, .fieldref 8 9), (0, .class_ 10), (0, .nameAndType 11 12), (0, u "com/example/lean_pubsub/leanpubsub/connection/HeldBack$Held"), (0, u "bytes"), (0, u "I"), (0, .fieldref 8 14), (0, .nameAndType 15 16), (0, u "taking"), (0, u "Ljava/lang/Runnable;"), (12, u "(ILjava/lang/Runnable;)V"), (10, .class_ 41), (0, u "com/example/lean_pubsub/leanpubsub/connection/HeldBack")] 20

def k13c0 : Code := { maxStack := 2, maxLocals := 3, code := prog_35_method_1_code, exceptionTable := #[], attributes := #[] }
def k13m0 : Method := { name := "<init>", desc := "(ILjava/lang/Runnable;)V", sig := { parameters := [.int, (.object "java/lang/Runnable")], returnType := none }, accessFlags := 2, code := some k13c0 }
/-- com/example/lean_pubsub/leanpubsub/connection/HeldBack$Held -/
def k13 : Class := { plain "com/example/lean_pubsub/leanpubsub/connection/HeldBack$Held" (some 12) with
  accessFlags := 48
  interfaces := #[]
  cf := some (fileOf pool13 8 #[.nestHost 40] #[{ accessFlags := 2, nameIndex := 5, descriptorIndex := 29, attributes := #[] }] 48 2 #[] #[{ accessFlags := 18, nameIndex := 11, descriptorIndex := 12, attributes := #[] }, { accessFlags := 18, nameIndex := 15, descriptorIndex := 16, attributes := #[] }])
  fields := #[{ name := "bytes", type := .int, accessFlags := 18, slot := 0, constantValue := 0 }, { name := "taking", type := (.object "java/lang/Runnable"), accessFlags := 18, slot := 1, constantValue := 0 }]
  methods := #[k13m0]
  instanceTypes := #[.int, (.object "java/lang/Runnable")]
  staticTypes := #[]
  resolved := Array.replicate 62 none
  statics := none }

def pool14 : Array CpInfo := pool [(2, .class_ 4), (1, u "java/lang/Object"), (0, u "<init>"), (0, u "()V"), (7, .class_ 16), (1, u "java/util/Arrays"), (57, .class_ 76), (1, u "java/util/Arrays$NaturalOrder"), (9, .methodref 2 87), (0, .nameAndType 88 89), (0, u "getClass"), (0, u "()Ljava/lang/Class;"), (20, .class_ 111), (0, u "[Ljava/lang/Object;"), (1, .class_ 115), (1, u "java/util/Arrays$LegacyMergeSort"), (1, u "Z"), (32, .methodref 151 152), (0, .class_ 153), (0, .nameAndType 154 155), (0, u "java/lang/System"), (0, u "arraycopy"), (0, u "(Ljava/lang/Object;ILjava/lang/Object;II)V"), (144, .methodref 14 301), (0, .nameAndType 302 303), (0, u "copyOf"), (0, u "([Ljava/lang/Object;ILjava/lang/Class;)[Ljava/lang/Object;"), (0, .methodref 305 306), (0, .class_ 307), (0, .nameAndType 308 309), (0, u "java/lang/Math"), (0, u "min"), (0, u "(II)I"), (65, .class_ 376), (0, u "java/util/Arrays$ArrayList"), (68, u "$assertionsDisabled"), (269, u "MIN_ARRAY_SORT_GRAN"), (0, u "I"), (2, u "INSERTIONSORT_THRESHOLD"), (140, u "([Ljava/lang/Object;I)[Ljava/lang/Object;"), (114, .class_ 976), (0, u "java/util/Arrays$ArrayItr")] 52

def k14m0 : Method := { name := "<init>", desc := "()V", sig := { parameters := [], returnType := none }, accessFlags := 2, code := none }
def k14c1 : Code := { maxStack := 3, maxLocals := 2, code := jdk_65_method_119_code, exceptionTable := #[], attributes := #[] }
def k14m1 : Method := { name := "copyOf", desc := "([Ljava/lang/Object;I)[Ljava/lang/Object;", sig := { parameters := [(.array (.object "java/lang/Object")), .int], returnType := some (.array (.object "java/lang/Object")) }, accessFlags := 9, code := some k14c1 }
def k14c2 : Code := { maxStack := 6, maxLocals := 4, code := jdk_65_method_120_code, exceptionTable := #[], attributes := #[] }
def k14m2 : Method := { name := "copyOf", desc := "([Ljava/lang/Object;ILjava/lang/Class;)[Ljava/lang/Object;", sig := { parameters := [(.array (.object "java/lang/Object")), .int, (.object "java/lang/Class")], returnType := some (.array (.object "java/lang/Object")) }, accessFlags := 9, code := some k14c2 }
/-- java/util/Arrays -/
def k14 : Class := { plain "java/util/Arrays" (some 0) with
  accessFlags := 49
  interfaces := #[]
  cf := some (fileOf pool14 14 #[.nestMembers #[975, 375, 113, 74]] #[{ accessFlags := 2, nameIndex := 5, descriptorIndex := 6, attributes := #[] }, { accessFlags := 9, nameIndex := 302, descriptorIndex := 860, attributes := #[] }, { accessFlags := 9, nameIndex := 302, descriptorIndex := 303, attributes := #[] }] 49 2 #[] #[{ accessFlags := 26, nameIndex := 715, descriptorIndex := 716, attributes := #[] }, { accessFlags := 26, nameIndex := 719, descriptorIndex := 716, attributes := #[] }, { accessFlags := 4120, nameIndex := 445, descriptorIndex := 117, attributes := #[] }])
  fields := #[{ name := "MIN_ARRAY_SORT_GRAN", type := .int, accessFlags := 26, slot := 0, constantValue := 0 }, { name := "INSERTIONSORT_THRESHOLD", type := .int, accessFlags := 26, slot := 1, constantValue := 0 }, { name := "$assertionsDisabled", type := .boolean, accessFlags := 4120, slot := 2, constantValue := 0 }]
  methods := #[k14m0, k14m1, k14m2]
  instanceTypes := #[]
  staticTypes := #[.int, .int, .boolean]
  resolved := Array.replicate 1029 none
  statics := none }

def pool15 : Array CpInfo := pool [(1, .class_ 2), (0, u "java/lang/Math"), (1, .class_ 6), (1, u "java/lang/Object"), (0, u "<init>"), (0, u "()V"), (89, .class_ 100), (1, u "java/lang/Math$RandomNumberGeneratorHolder"), (71, u "negativeZeroFloatBits"), (0, u "J"), (2, u "negativeZeroDoubleBits"), (24, u "min"), (43, u "$assertionsDisabled"), (0, u "Z"), (88, u "(II)I"), (2, u "twoToTheDoubleScaleDown"), (0, u "D"), (4, u "twoToTheDoubleScaleUp"), (9, u "E"), (3, u "PI"), (2, u "TAU"), (2, u "DEGREES_TO_RADIANS"), (0, u "RADIANS_TO_DEGREES")] 94

def k15m0 : Method := { name := "<init>", desc := "()V", sig := { parameters := [], returnType := none }, accessFlags := 2, code := none }
def k15c1 : Code := { maxStack := 2, maxLocals := 2, code := jdk_29_method_69_code, exceptionTable := #[], attributes := #[] }
def k15m1 : Method := { name := "min", desc := "(II)I", sig := { parameters := [.int, .int], returnType := some .int }, accessFlags := 9, code := some k15c1 }
/-- java/lang/Math -/
def k15 : Class := { plain "java/lang/Math" (some 0) with
  accessFlags := 49
  interfaces := #[]
  cf := some (fileOf pool15 1 #[.nestMembers #[98]] #[{ accessFlags := 2, nameIndex := 7, descriptorIndex := 8, attributes := #[] }, { accessFlags := 9, nameIndex := 201, descriptorIndex := 335, attributes := #[] }] 49 4 #[] #[{ accessFlags := 25, nameIndex := 354, descriptorIndex := 339, attributes := #[] }, { accessFlags := 25, nameIndex := 358, descriptorIndex := 339, attributes := #[] }, { accessFlags := 25, nameIndex := 361, descriptorIndex := 339, attributes := #[] }, { accessFlags := 26, nameIndex := 364, descriptorIndex := 339, attributes := #[] }, { accessFlags := 26, nameIndex := 365, descriptorIndex := 339, attributes := #[] }, { accessFlags := 26, nameIndex := 172, descriptorIndex := 173, attributes := #[] }, { accessFlags := 26, nameIndex := 176, descriptorIndex := 173, attributes := #[] }, { accessFlags := 8, nameIndex := 344, descriptorIndex := 339, attributes := #[] }, { accessFlags := 8, nameIndex := 338, descriptorIndex := 339, attributes := #[] }, { accessFlags := 4120, nameIndex := 245, descriptorIndex := 246, attributes := #[] }])
  fields := #[{ name := "E", type := .double, accessFlags := 25, slot := 0, constantValue := 0 }, { name := "PI", type := .double, accessFlags := 25, slot := 1, constantValue := 0 }, { name := "TAU", type := .double, accessFlags := 25, slot := 2, constantValue := 0 }, { name := "DEGREES_TO_RADIANS", type := .double, accessFlags := 26, slot := 3, constantValue := 0 }, { name := "RADIANS_TO_DEGREES", type := .double, accessFlags := 26, slot := 4, constantValue := 0 }, { name := "negativeZeroFloatBits", type := .long, accessFlags := 26, slot := 5, constantValue := 0 }, { name := "negativeZeroDoubleBits", type := .long, accessFlags := 26, slot := 6, constantValue := 0 }, { name := "twoToTheDoubleScaleUp", type := .double, accessFlags := 8, slot := 7, constantValue := 0 }, { name := "twoToTheDoubleScaleDown", type := .double, accessFlags := 8, slot := 8, constantValue := 0 }, { name := "$assertionsDisabled", type := .boolean, accessFlags := 4120, slot := 9, constantValue := 0 }]
  methods := #[k15m0, k15m1]
  instanceTypes := #[]
  staticTypes := #[.double, .double, .double, .double, .double, .long, .long, .double, .double, .boolean]
  resolved := Array.replicate 460 none
  statics := none }

def pool16 : Array CpInfo := pool [(2, .class_ 4), (1, u "java/lang/Object"), (0, u "<init>"), (0, u "()V"), (1, .class_ 10), (1, u "java/lang/System"), (0, u "allowSecurityManager"), (0, u "I"), (16, u "cons"), (0, u "Ljava/io/Console;"), (77, .class_ 110), (1, u "java/lang/System$CallersHolder"), (43, u "initialErrStream"), (0, u "Ljava/io/PrintStream;"), (19, u "security"), (0, u "Ljava/lang/SecurityManager;"), (31, .class_ 209), (0, u "java/lang/System$1"), (7, u "props"), (0, u "Ljava/util/Properties;"), (2, u "lineSeparator"), (0, u "Ljava/lang/String;"), (96, .class_ 321), (1, u "java/lang/System$LoggerFinder"), (5, .class_ 328), (0, u "java/lang/System$Logger"), (67, u "err"), (2, u "out"), (91, u "notSupportedJnuEncoding"), (15, u "in"), (17, u "initialIn"), (0, u "Ljava/io/InputStream;"), (35, u "bootLayer"), (0, u "Ljava/lang/ModuleLayer;"), (99, .class_ 664), (0, u "java/lang/System$2"), (9, u "NEVER"), (2, u "MAYBE"), (49, u "arraycopy"), (0, u "(Ljava/lang/Object;ILjava/lang/Object;II)V"), (72, .class_ 802), (0, u "java/lang/System$Logger$Level")] 31

def k16m0 : Method := { name := "<init>", desc := "()V", sig := { parameters := [], returnType := none }, accessFlags := 2, code := none }
def k16m1 : Method := { name := "arraycopy", desc := "(Ljava/lang/Object;ILjava/lang/Object;II)V", sig := { parameters := [(.object "java/lang/Object"), .int, (.object "java/lang/Object"), .int, .int], returnType := none }, accessFlags := 265, code := none }
/-- java/lang/System -/
def k16 : Class := { plain "java/lang/System" (some 0) with
  accessFlags := 49
  interfaces := #[]
  cf := some (fileOf pool16 8 #[.nestMembers #[319, 327, 801, 108, 663, 208]] #[{ accessFlags := 2, nameIndex := 5, descriptorIndex := 6, attributes := #[] }, { accessFlags := 265, nameIndex := 727, descriptorIndex := 728, attributes := #[] }] 49 2 #[] #[{ accessFlags := 25, nameIndex := 507, descriptorIndex := 526, attributes := #[] }, { accessFlags := 25, nameIndex := 399, descriptorIndex := 155, attributes := #[] }, { accessFlags := 25, nameIndex := 396, descriptorIndex := 155, attributes := #[] }, { accessFlags := 10, nameIndex := 525, descriptorIndex := 526, attributes := #[] }, { accessFlags := 26, nameIndex := 674, descriptorIndex := 12, attributes := #[] }, { accessFlags := 26, nameIndex := 677, descriptorIndex := 12, attributes := #[] }, { accessFlags := 10, nameIndex := 11, descriptorIndex := 12, attributes := #[] }, { accessFlags := 74, nameIndex := 175, descriptorIndex := 176, attributes := #[] }, { accessFlags := 10, nameIndex := 491, descriptorIndex := 222, attributes := #[] }, { accessFlags := 74, nameIndex := 29, descriptorIndex := 30, attributes := #[] }, { accessFlags := 74, nameIndex := 154, descriptorIndex := 155, attributes := #[] }, { accessFlags := 10, nameIndex := 217, descriptorIndex := 218, attributes := #[] }, { accessFlags := 10, nameIndex := 221, descriptorIndex := 222, attributes := #[] }, { accessFlags := 8, nameIndex := 562, descriptorIndex := 563, attributes := #[] }])
  fields := #[{ name := "in", type := (.object "java/io/InputStream"), accessFlags := 25, slot := 0, constantValue := 0 }, { name := "out", type := (.object "java/io/PrintStream"), accessFlags := 25, slot := 1, constantValue := 0 }, { name := "err", type := (.object "java/io/PrintStream"), accessFlags := 25, slot := 2, constantValue := 0 }, { name := "initialIn", type := (.object "java/io/InputStream"), accessFlags := 10, slot := 3, constantValue := 0 }, { name := "NEVER", type := .int, accessFlags := 26, slot := 4, constantValue := 0 }, { name := "MAYBE", type := .int, accessFlags := 26, slot := 5, constantValue := 0 }, { name := "allowSecurityManager", type := .int, accessFlags := 10, slot := 6, constantValue := 0 }, { name := "security", type := (.object "java/lang/SecurityManager"), accessFlags := 74, slot := 7, constantValue := 0 }, { name := "notSupportedJnuEncoding", type := (.object "java/lang/String"), accessFlags := 10, slot := 8, constantValue := 0 }, { name := "cons", type := (.object "java/io/Console"), accessFlags := 74, slot := 9, constantValue := 0 }, { name := "initialErrStream", type := (.object "java/io/PrintStream"), accessFlags := 74, slot := 10, constantValue := 0 }, { name := "props", type := (.object "java/util/Properties"), accessFlags := 10, slot := 11, constantValue := 0 }, { name := "lineSeparator", type := (.object "java/lang/String"), accessFlags := 10, slot := 12, constantValue := 0 }, { name := "bootLayer", type := (.object "java/lang/ModuleLayer"), accessFlags := 8, slot := 13, constantValue := 0 }]
  methods := #[k16m0, k16m1]
  instanceTypes := #[]
  staticTypes := #[(.object "java/io/InputStream"), (.object "java/io/PrintStream"), (.object "java/io/PrintStream"), (.object "java/io/InputStream"), .int, .int, .int, (.object "java/lang/SecurityManager"), (.object "java/lang/String"), (.object "java/io/Console"), (.object "java/io/PrintStream"), (.object "java/util/Properties"), (.object "java/lang/String"), (.object "java/lang/ModuleLayer")]
  resolved := Array.replicate 834 none
  statics := none }

def pool17 : Array CpInfo := pool [(1, u "java/lang/Class"), (0, .class_ 1), (0, u "java/lang/Object"), (0, .class_ 3)] 0

/-- java/lang/Class -/
def k17 : Class := { plain "java/lang/Class" (some 0) with
  accessFlags := 49
  interfaces := #[]
  cf := some (fileOf pool17 2 #[] #[] 49 4 #[] #[])
  fields := #[]
  methods := #[]
  instanceTypes := #[]
  staticTypes := #[]
  resolved := Array.replicate 5 none
  statics := none }

/-- the primitive byte -/
def k18 : Class := { plain "byte" none with kind := .primitive 'B', accessFlags := 0x411 }
/-- [B -/
def k19 : Class := { plain "[B" (some 0) with kind := .array 18 .byte, interfaces := #[9, 10], accessFlags := 1041 }

/-- the primitive int -/
def k20 : Class := { plain "int" none with kind := .primitive 'I', accessFlags := 0x411 }
/-- [I -/
def k21 : Class := { plain "[I" (some 0) with kind := .array 20 .int, interfaces := #[9, 10], accessFlags := 1041 }

/-- [Ljava/lang/Object; -/
def k22 : Class := { plain "[Ljava/lang/Object;" (some 0) with kind := .array 0 (.object "java/lang/Object"), interfaces := #[9, 10], accessFlags := 1041, mirror := some 0 }

def heap : Heap := #[{ cls := 17, slots := #[], vm := .mirror 22 }]
def classes : Array Class := #[k0, k1, k2, k3, k4, k5, k6, k7, k8, k9, k10, k11, k12, k13, k14, k15, k16, k17, k18, k19, k20, k21, k22]
def interned : List (Array UInt16 × Addr) := []
def slotsUsed : Nat := 0
def theMethod : MethodId := ⟨1, 1⟩
def args0 : Array Value := #[.int 5, .int 6, .int 1]
def aboutOver (below : List Frame) : State where
  vm := { classes := classes, interned := interned.toArray }
  heap := heap
  slotsUsed := slotsUsed
  threads := #[{ frames := .invoking theMethod args0 :: below }]
def below0 : List Frame := [.native { method := ⟨0, 0⟩, args := #[] }]
def about1 : State := aboutOver below0
def p0 : Program := .bare "" "" ""
def e0 : Env := launch0.env 0 0 0
theorem w_frames : about1.frames = Frame.invoking theMethod args0 :: below0 := rfl
set_option maxRecDepth 65536 in
theorem w_args : argsFit about1.vm theMethod args0 = true := by decide +kernel
set_option maxRecDepth 65536 in
theorem w_heap : heapFits about1 = true := by decide +kernel
set_option maxRecDepth 65536 in
theorem w_runnable : about1.curStatus? = some .runnable := by decide +kernel
set_option maxRecDepth 65536 in
theorem w_alone : about1.alone = true := by decide +kernel
set_option maxRecDepth 65536 in
theorem w_named : about1.methodNamed? x = some theMethod := by decide +kernel
set_option maxRecDepth 65536 in
theorem w_hears : about1.hears theMethod below0 = true := by decide +kernel
set_option maxRecDepth 65536 in
theorem w_ripe : about1.ripe theMethod args0 below0 = true := by decide +kernel
theorem w_running : about1.status = .running := rfl
set_option maxRecDepth 65536 in
theorem w_room : about1.hasRoom e0.platform room_1 = true :=
  launch0.hasRoom_least _ room_1 (by decide +kernel) (by decide +kernel) (by decide +kernel) (by decide +kernel) (by decide +kernel) (by decide +kernel)
theorem allAtoms_all (ts : List Jvm.Cond) (a : Array Jvm.Value) (st : Jvm.State) : (allAtoms ts).before a st = ts.all (fun c => c.before a st) := by
  induction ts with
  | nil => rfl
  | cons c t ih =>
    show (Jvm.Cond.and c (allAtoms t)).before a st = _
    rw [Jvm.Cond.before_and, ih, List.all_cons]
def words1 : List Jvm.Cond := Jvm.Cond.code x code maxLocals ret :: tables_1
/-- a 'code' word, met by the world's own term for the bytes: nothing is compared byte by byte -/
theorem code_word {y : MethodName} {bytes : ByteArray} {mx : Nat} {rt : Option FieldType} {a : Array Value} {s : State} {m : MethodId} {meth : Method} {c : Code} (h1 : s.methodNamed? y = some m) (h2 : s.vm.method? m = some meth) (h3 : meth.code = some c) (h4 : c.code = bytes)
    (h5 : (c.maxLocals == mx && c.exceptionTable.isEmpty && decide (c.maxStack ≤ mostOperands) && decide (meth.sig.returnType = rt) && !meth.locks && decide (parseMethodDescriptor y.desc = some meth.sig)) = true) : (Jvm.Cond.code y bytes mx rt).before a s = true := by
  simp only [Bool.and_eq_true, beq_iff_eq, Bool.not_eq_true', decide_eq_true_eq] at h5
  obtain ⟨⟨⟨⟨⟨g1, g2⟩, g3⟩, g4⟩, g5⟩, g6⟩ := h5
  simp [Cond.before, Cond.holds, Cond.value, h1, h2, h3, h4, g1, g2, g3, g4, g5, g6]
def isCode : Jvm.Cond → Bool
  | .code _ _ _ _ => true
  | _ => false
theorem all_split {L : List Jvm.Cond} {P : Jvm.Cond → Bool} (h1 : L.all (fun c => isCode c || P c) = true) (h2 : ∀ c ∈ L.filter isCode, P c = true) : L.all P = true := by
  refine List.all_eq_true.mpr fun c hc => ?_
  have h := List.all_eq_true.mp h1 c hc
  rcases Bool.eq_false_or_eq_true (isCode c) with hi | hi
  · exact h2 c (List.mem_filter.mpr ⟨hc, hi⟩)
  · simpa [hi] using h
set_option maxRecDepth 65536 in
theorem w_c0 : (Jvm.Cond.code x code maxLocals ret).before args0 about1 = true := code_word (m := ⟨1, 1⟩) (meth := k1m1) (c := k1c1) (by decide +kernel) rfl rfl rfl (by decide +kernel)
set_option maxRecDepth 65536 in
theorem w_c1 : (Jvm.Cond.code ({ cls := "com/example/lean_pubsub/leanpubsub/connection/HeldBack", name := "<init>", desc := "()V" } : Jvm.MethodName) prog_34_method_1_code (1 : Nat) (Option.none : Option Jvm.ClassFile.FieldType)).before args0 about1 = true := code_word (m := ⟨2, 0⟩) (meth := k2m0) (c := k2c0) (by decide +kernel) rfl rfl rfl (by decide +kernel)
set_option maxRecDepth 65536 in
theorem w_c2 : (Jvm.Cond.code ({ cls := "java/lang/Object", name := "<init>", desc := "()V" } : Jvm.MethodName) object_method_1_code (1 : Nat) (Option.none : Option Jvm.ClassFile.FieldType)).before args0 about1 = true := code_word (m := ⟨0, 0⟩) (meth := k0m0) (c := k0c0) (by decide +kernel) rfl rfl rfl (by decide +kernel)
set_option maxRecDepth 65536 in
theorem w_c3 : (Jvm.Cond.code ({ cls := "java/util/ArrayDeque", name := "<init>", desc := "(I)V" } : Jvm.MethodName) jdk_21_method_4_code (2 : Nat) (Option.none : Option Jvm.ClassFile.FieldType)).before args0 about1 = true := code_word (m := ⟨11, 2⟩) (meth := k11m2) (c := k11c2) (by decide +kernel) rfl rfl rfl (by decide +kernel)
set_option maxRecDepth 65536 in
theorem w_c4 : (Jvm.Cond.code ({ cls := "java/util/AbstractCollection", name := "<init>", desc := "()V" } : Jvm.MethodName) jdk_22_method_1_code (1 : Nat) (Option.none : Option Jvm.ClassFile.FieldType)).before args0 about1 = true := code_word (m := ⟨5, 0⟩) (meth := k5m0) (c := k5c0) (by decide +kernel) rfl rfl rfl (by decide +kernel)
set_option maxRecDepth 65536 in
theorem w_c5 : (Jvm.Cond.code ({ cls := "com/example/lean_pubsub/leanpubsub/connection/HeldBack", name := "isFull", desc := "()Z" } : Jvm.MethodName) prog_34_method_4_code (1 : Nat) (Option.some Jvm.ClassFile.FieldType.boolean)).before args0 about1 = true := code_word (m := ⟨2, 2⟩) (meth := k2m2) (c := k2c2) (by decide +kernel) rfl rfl rfl (by decide +kernel)
set_option maxRecDepth 65536 in
theorem w_c6 : (Jvm.Cond.code ({ cls := "com/example/lean_pubsub/leanpubsub/connection/HeldBack", name := "add", desc := "(ILjava/lang/Runnable;)Z" } : Jvm.MethodName) prog_34_method_2_code (3 : Nat) (Option.some Jvm.ClassFile.FieldType.boolean)).before args0 about1 = true := code_word (m := ⟨2, 1⟩) (meth := k2m1) (c := k2c1) (by decide +kernel) rfl rfl rfl (by decide +kernel)
set_option maxRecDepth 65536 in
theorem w_c7 : (Jvm.Cond.code ({ cls := "com/example/lean_pubsub/leanpubsub/connection/HeldBack$Held", name := "<init>", desc := "(ILjava/lang/Runnable;)V" } : Jvm.MethodName) prog_35_method_1_code (3 : Nat) (Option.none : Option Jvm.ClassFile.FieldType)).before args0 about1 = true := code_word (m := ⟨13, 0⟩) (meth := k13m0) (c := k13c0) (by decide +kernel) rfl rfl rfl (by decide +kernel)
set_option maxRecDepth 65536 in
theorem w_c8 : (Jvm.Cond.code ({ cls := "java/lang/Record", name := "<init>", desc := "()V" } : Jvm.MethodName) jdk_30_method_1_code (1 : Nat) (Option.none : Option Jvm.ClassFile.FieldType)).before args0 about1 = true := code_word (m := ⟨12, 0⟩) (meth := k12m0) (c := k12c0) (by decide +kernel) rfl rfl rfl (by decide +kernel)
set_option maxRecDepth 65536 in
theorem w_c9 : (Jvm.Cond.code ({ cls := "java/util/ArrayDeque", name := "add", desc := "(Ljava/lang/Object;)Z" } : Jvm.MethodName) jdk_21_method_28_code (2 : Nat) (Option.some Jvm.ClassFile.FieldType.boolean)).before args0 about1 = true := code_word (m := ⟨11, 5⟩) (meth := k11m5) (c := k11c5) (by decide +kernel) rfl rfl rfl (by decide +kernel)
set_option maxRecDepth 65536 in
theorem w_c10 : (Jvm.Cond.code ({ cls := "java/util/ArrayDeque", name := "addLast", desc := "(Ljava/lang/Object;)V" } : Jvm.MethodName) jdk_21_method_13_code (3 : Nat) (Option.none : Option Jvm.ClassFile.FieldType)).before args0 about1 = true := code_word (m := ⟨11, 4⟩) (meth := k11m4) (c := k11c4) (by decide +kernel) rfl rfl rfl (by decide +kernel)
set_option maxRecDepth 65536 in
theorem w_c11 : (Jvm.Cond.code ({ cls := "java/util/ArrayDeque", name := "inc", desc := "(II)I" } : Jvm.MethodName) jdk_21_method_6_code (2 : Nat) (Option.some Jvm.ClassFile.FieldType.int)).before args0 about1 = true := code_word (m := ⟨11, 3⟩) (meth := k11m3) (c := k11c3) (by decide +kernel) rfl rfl rfl (by decide +kernel)
set_option maxRecDepth 65536 in
theorem w_c12 : (Jvm.Cond.code ({ cls := "java/util/ArrayDeque", name := "grow", desc := "(I)V" } : Jvm.MethodName) jdk_21_method_1_code (9 : Nat) (Option.none : Option Jvm.ClassFile.FieldType)).before args0 about1 = true := code_word (m := ⟨11, 0⟩) (meth := k11m0) (c := k11c0) (by decide +kernel) rfl rfl rfl (by decide +kernel)
set_option maxRecDepth 65536 in
theorem w_c13 : (Jvm.Cond.code ({ cls := "java/util/Arrays", name := "copyOf", desc := "([Ljava/lang/Object;I)[Ljava/lang/Object;" } : Jvm.MethodName) jdk_65_method_119_code (2 : Nat) (Option.some (Jvm.ClassFile.FieldType.array (Jvm.ClassFile.FieldType.object "java/lang/Object")))).before args0 about1 = true := code_word (m := ⟨14, 1⟩) (meth := k14m1) (c := k14c1) (by decide +kernel) rfl rfl rfl (by decide +kernel)
set_option maxRecDepth 65536 in
theorem w_c14 : (Jvm.Cond.code ({ cls := "java/util/Arrays", name := "copyOf", desc := "([Ljava/lang/Object;ILjava/lang/Class;)[Ljava/lang/Object;" } : Jvm.MethodName) jdk_65_method_120_code (4 : Nat) (Option.some (Jvm.ClassFile.FieldType.array (Jvm.ClassFile.FieldType.object "java/lang/Object")))).before args0 about1 = true := code_word (m := ⟨14, 2⟩) (meth := k14m2) (c := k14c2) (by decide +kernel) rfl rfl rfl (by decide +kernel)
set_option maxRecDepth 65536 in
theorem w_c15 : (Jvm.Cond.code ({ cls := "java/lang/Math", name := "min", desc := "(II)I" } : Jvm.MethodName) jdk_29_method_69_code (2 : Nat) (Option.some Jvm.ClassFile.FieldType.int)).before args0 about1 = true := code_word (m := ⟨15, 1⟩) (meth := k15m1) (c := k15c1) (by decide +kernel) rfl rfl rfl (by decide +kernel)
def codes1 : List Jvm.Cond := [Jvm.Cond.code x code maxLocals ret, Jvm.Cond.code ({ cls := "com/example/lean_pubsub/leanpubsub/connection/HeldBack", name := "<init>", desc := "()V" } : Jvm.MethodName) prog_34_method_1_code (1 : Nat) (Option.none : Option Jvm.ClassFile.FieldType), Jvm.Cond.code ({ cls := "java/lang/Object", name := "<init>", desc := "()V" } : Jvm.MethodName) object_method_1_code (1 : Nat) (Option.none : Option Jvm.ClassFile.FieldType), Jvm.Cond.code ({ cls := "java/util/ArrayDeque", name := "<init>", desc := "(I)V" } : Jvm.MethodName) jdk_21_method_4_code (2 : Nat) (Option.none : Option Jvm.ClassFile.FieldType), Jvm.Cond.code ({ cls := "java/util/AbstractCollection", name := "<init>", desc := "()V" } : Jvm.MethodName) jdk_22_method_1_code (1 : Nat) (Option.none : Option Jvm.ClassFile.FieldType), Jvm.Cond.code ({ cls := "com/example/lean_pubsub/leanpubsub/connection/HeldBack", name := "isFull", desc := "()Z" } : Jvm.MethodName) prog_34_method_4_code (1 : Nat) (Option.some Jvm.ClassFile.FieldType.boolean), Jvm.Cond.code ({ cls := "com/example/lean_pubsub/leanpubsub/connection/HeldBack", name := "add", desc := "(ILjava/lang/Runnable;)Z" } : Jvm.MethodName) prog_34_method_2_code (3 : Nat) (Option.some Jvm.ClassFile.FieldType.boolean), Jvm.Cond.code ({ cls := "com/example/lean_pubsub/leanpubsub/connection/HeldBack$Held", name := "<init>", desc := "(ILjava/lang/Runnable;)V" } : Jvm.MethodName) prog_35_method_1_code (3 : Nat) (Option.none : Option Jvm.ClassFile.FieldType), Jvm.Cond.code ({ cls := "java/lang/Record", name := "<init>", desc := "()V" } : Jvm.MethodName) jdk_30_method_1_code (1 : Nat) (Option.none : Option Jvm.ClassFile.FieldType), Jvm.Cond.code ({ cls := "java/util/ArrayDeque", name := "add", desc := "(Ljava/lang/Object;)Z" } : Jvm.MethodName) jdk_21_method_28_code (2 : Nat) (Option.some Jvm.ClassFile.FieldType.boolean), Jvm.Cond.code ({ cls := "java/util/ArrayDeque", name := "addLast", desc := "(Ljava/lang/Object;)V" } : Jvm.MethodName) jdk_21_method_13_code (3 : Nat) (Option.none : Option Jvm.ClassFile.FieldType), Jvm.Cond.code ({ cls := "java/util/ArrayDeque", name := "inc", desc := "(II)I" } : Jvm.MethodName) jdk_21_method_6_code (2 : Nat) (Option.some Jvm.ClassFile.FieldType.int), Jvm.Cond.code ({ cls := "java/util/ArrayDeque", name := "grow", desc := "(I)V" } : Jvm.MethodName) jdk_21_method_1_code (9 : Nat) (Option.none : Option Jvm.ClassFile.FieldType), Jvm.Cond.code ({ cls := "java/util/Arrays", name := "copyOf", desc := "([Ljava/lang/Object;I)[Ljava/lang/Object;" } : Jvm.MethodName) jdk_65_method_119_code (2 : Nat) (Option.some (Jvm.ClassFile.FieldType.array (Jvm.ClassFile.FieldType.object "java/lang/Object"))), Jvm.Cond.code ({ cls := "java/util/Arrays", name := "copyOf", desc := "([Ljava/lang/Object;ILjava/lang/Class;)[Ljava/lang/Object;" } : Jvm.MethodName) jdk_65_method_120_code (4 : Nat) (Option.some (Jvm.ClassFile.FieldType.array (Jvm.ClassFile.FieldType.object "java/lang/Object"))), Jvm.Cond.code ({ cls := "java/lang/Math", name := "min", desc := "(II)I" } : Jvm.MethodName) jdk_29_method_69_code (2 : Nat) (Option.some Jvm.ClassFile.FieldType.int)]
set_option maxRecDepth 65536 in
theorem codes_eq : words1.filter isCode = codes1 := rfl
theorem w_codes : ∀ c ∈ words1.filter isCode, c.before args0 about1 = true := by
  rw [codes_eq]
  intro c hc
  simp only [codes1, List.mem_cons, List.not_mem_nil, or_false] at hc
  rcases hc with rfl | rfl | rfl | rfl | rfl | rfl | rfl | rfl | rfl | rfl | rfl | rfl | rfl | rfl | rfl | rfl
  · exact w_c0
  · exact w_c1
  · exact w_c2
  · exact w_c3
  · exact w_c4
  · exact w_c5
  · exact w_c6
  · exact w_c7
  · exact w_c8
  · exact w_c9
  · exact w_c10
  · exact w_c11
  · exact w_c12
  · exact w_c13
  · exact w_c14
  · exact w_c15
set_option maxRecDepth 65536 in
theorem w_t1 : (words1.take 24).all (fun c => isCode c || c.before args0 about1) = true := by decide +kernel
set_option maxRecDepth 65536 in
theorem w_t2 : ((words1.drop 24).take 24).all (fun c => isCode c || c.before args0 about1) = true := by decide +kernel
set_option maxRecDepth 65536 in
theorem w_t3 : (((words1.drop 24).drop 24).take 24).all (fun c => isCode c || c.before args0 about1) = true := by decide +kernel
set_option maxRecDepth 65536 in
theorem w_t4 : ((((words1.drop 24).drop 24).drop 24).take 24).all (fun c => isCode c || c.before args0 about1) = true := by decide +kernel
set_option maxRecDepth 65536 in
theorem w_t5 : ((((words1.drop 24).drop 24).drop 24).drop 24).all (fun c => isCode c || c.before args0 about1) = true := by decide +kernel
theorem w_tables : (allAtoms (Jvm.Cond.code x code maxLocals ret :: tables_1)).before args0 about1 = true := by
  rw [allAtoms_all]
  show words1.all (fun c => c.before args0 about1) = true
  refine all_split ?_ w_codes
  rw [← List.take_append_drop 24 words1, List.all_append, w_t1, ← List.take_append_drop 24 (words1.drop 24), List.all_append, w_t2, ← List.take_append_drop 24 ((words1.drop 24).drop 24), List.all_append, w_t3, ← List.take_append_drop 24 (((words1.drop 24).drop 24).drop 24), List.all_append, w_t4, w_t5]
  rfl
set_option maxRecDepth 65536 in
theorem w_case : (Jvm.Cond.and given_1 narrow_1).before args0 about1 = true := by decide +kernel
theorem w_applies : (headSpec (Jvm.Cond.code x code maxLocals ret :: tables_1) room_1).applies x e0.platform about1 = true :=
  (Spec.applies_iff w_frames).mpr ⟨w_running, w_runnable, w_alone, w_named, w_hears, w_ripe, w_room, w_tables⟩
theorem atStart : AtStart classFile x code maxLocals ret World_1 tables_1 room_1 Calls_1 rest_1 Pre_1 launch0 p0 e0 about1 theMethod args0 below0 :=
  ⟨lists_1, trivial, launch0.admits_env _ _ _, launch0.least_env, fairChoices_fair.cas, fairChoices_fair.clock, w_frames, w_args, w_heap, w_applies, ⟨⟨22, k22, 0, by decide +kernel, rfl, rfl, _, rfl, rfl⟩, trivial⟩, trivial, w_case⟩
end start1
theorem witness_1 : WitnessClaimed_1 := ⟨start1.p0, start1.e0, start1.about1, start1.theMethod, start1.args0, start1.below0, start1.atStart⟩
end Jvm.Pilot.@@N@@
