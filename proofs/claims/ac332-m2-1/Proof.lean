import JvmDerived
import JvmDerived.Pilot.@@N@@Statement
import JvmDerived.Pilot.@@N@@Code
set_option linter.unusedVariables false
set_option linter.unusedSimpArgs false
namespace Jvm.RoadKit
open Sem ClassFile Op Lib Jvm.Stand Jvm.Free Jvm.LawKit
section New
variable {p : Program} {l : Launch} {e : Env} {R : Room} {s : State} {m : MethodId} {args : Array Value} {below : List Frame} {meth : Method} {c : Code} {T : State} {locs : List Loc} {cells slots : Nat}
theorem retI (X : Stand p l e R s m args below meth c T locs cells slots) (hx : p.tables.exec = Jvm.exec) {pc : Nat} {Ls : Array Slot} {z : Int32} {rest : List Value} (hret : meth.sig.returnType = some .int) (hd : decode c.code pc = .ok (.ireturn, 1)) {fs : List Frame}
    (hl : ∀ (f : JFrame) (acts : List Action), f.method = m → f.locked = none → f.entered = [] → (doReturn e (T.setTop f) acts (some (.int z))).1 = T.setFrames fs) : Steps p.tables e below (T.setTop (mkF m pc Ls (.int z :: rest))) (T.setFrames fs) := by
  have hm' : T.vm.method? m = some meth := X.method'
  have hn : narrow .int (.int z) = .int z := rfl
  show Steps p.tables e below (T.setTop { method := m, pc := pc, locals := Ls, stack := _ :: rest, locked := none }) _
  jvm_step X.here [X.here.top, hx, hd, hm', hret, hn]
  first | (intro acts; rw [hl _ acts rfl rfl rfl]) | rw [hl _ _ rfl rfl rfl]
  exact Steps.refl _
/-- where a run is to come: it has ended, returning, with Q of what it returned, its heap and what it wrote -/
def own_End (s : State) (below : List Frame) (Q : Option Value → Heap → List Loc → Prop) (cc nn : Nat) (t : State) (o : Outcome) : Prop :=
  t.status = .running ∧ Ended t below o ∧ ∃ v L, o = .returned v ∧ Q v t.heap L ∧ FrameEnd s o t L cc nn
/-- from A the run comes to such an end -/
def own_Go (p : Program) (e : Env) (below : List Frame) (G : State → Outcome → Prop) (A : State) : Prop := ∃ t o, Steps p.tables e below A t ∧ G t o
theorem own_st {G : State → Outcome → Prop} {A B : State} (h : ∀ t, Steps p.tables e below B t → Steps p.tables e below A t) (k : own_Go p e below G B) : own_Go p e below G A := by
  obtain ⟨t, o, h1, h2⟩ := k
  exact ⟨t, o, h t h1, h2⟩
theorem own_retZ (X : Stand p l e R s m args below meth c T locs cells slots) (hx : p.tables.exec = Jvm.exec) (hlk : meth.locks = false) {t : FieldType} (hret : meth.sig.returnType = some t) (ht : t = .boolean ∨ t = .byte ∨ t = .char ∨ t = .short)
    {pc : Nat} {Ls : Array Slot} {z : Int32} {rest : List Value} (hd : decode c.code pc = .ok (.ireturn, 1)) {Q : Option Value → Heap → List Loc → Prop} {cc nn : Nat} (hq : Q (some (.int (nar t z))) T.heap locs) (hc : cells ≤ cc) (hn : slots ≤ nn) :
    own_Go p e below (own_End s below Q cc nn) (T.setTop (mkF m pc Ls (.int z :: rest))) := by
  obtain ⟨fs, hr, hrun, hended, hW, hsame⟩ := X.leave (v := some (.int (nar t z))) (fun h => by rw [hret] at h; cases h) hlk
  exact ⟨_, _, retN X hx hret ht hd hr, hrun, hended, _, _, rfl, hq, ⟨_, rfl⟩, hW, hsame.mono hc hn⟩
theorem own_retI (X : Stand p l e R s m args below meth c T locs cells slots) (hx : p.tables.exec = Jvm.exec) (hlk : meth.locks = false) (hret : meth.sig.returnType = some .int)
    {pc : Nat} {Ls : Array Slot} {z : Int32} {rest : List Value} (hd : decode c.code pc = .ok (.ireturn, 1)) {Q : Option Value → Heap → List Loc → Prop} {cc nn : Nat} (hq : Q (some (.int z)) T.heap locs) (hc : cells ≤ cc) (hn : slots ≤ nn) :
    own_Go p e below (own_End s below Q cc nn) (T.setTop (mkF m pc Ls (.int z :: rest))) := by
  obtain ⟨fs, hr, hrun, hended, hW, hsame⟩ := X.leave (v := some (.int z)) (fun h => by rw [hret] at h; cases h) hlk
  exact ⟨_, _, retI X hx hret hd hr, hrun, hended, _, _, rfl, hq, ⟨_, rfl⟩, hW, hsame.mono hc hn⟩
theorem own_retA (X : Stand p l e R s m args below meth c T locs cells slots) (hx : p.tables.exec = Jvm.exec) (hlk : meth.locks = false) {ty : FieldType} (hret : meth.sig.returnType = some ty) (hty : ty.isReference = true)
    {pc : Nat} {Ls : Array Slot} {v : Value} (hv : v.isRef = true) {rest : List Value} (hd : decode c.code pc = .ok (.areturn, 1)) {Q : Option Value → Heap → List Loc → Prop} {cc nn : Nat} (hq : Q (some v) T.heap locs) (hc : cells ≤ cc) (hn : slots ≤ nn) :
    own_Go p e below (own_End s below Q cc nn) (T.setTop (mkF m pc Ls (v :: rest))) := by
  obtain ⟨fs, hr, hrun, hended, hW, hsame⟩ := X.leave (v := some v) (fun h => by rw [hret] at h; cases h) hlk
  refine ⟨_, _, ?_, hrun, hended, _, _, rfl, hq, ⟨_, rfl⟩, hW, hsame.mono hc hn⟩
  have hm' : T.vm.method? m = some meth := X.method'
  show Steps p.tables e below (T.setTop { method := m, pc := pc, locals := Ls, stack := _ :: rest, locked := none }) _
  jvm_step X.here [X.here.top, hx, hd, hm', hret, hv, hty]
  first | (intro acts; rw [hr _ acts rfl rfl rfl]) | rw [hr _ _ rfl rfl rfl]
  exact Steps.refl _
theorem own_retV (X : Stand p l e R s m args below meth c T locs cells slots) (hx : p.tables.exec = Jvm.exec) (hlk : meth.locks = false) (hret : meth.sig.returnType = none)
    {pc : Nat} {Ls : Array Slot} (hd : decode c.code pc = .ok (.return_, 1)) {Q : Option Value → Heap → List Loc → Prop} {cc nn : Nat} (hq : Q none T.heap locs) (hc : cells ≤ cc) (hn : slots ≤ nn) :
    own_Go p e below (own_End s below Q cc nn) (T.setTop (mkF m pc Ls [])) := by
  obtain ⟨fs, hr, hrun, hended, hW, hsame⟩ := X.leave (v := none) (fun _ => rfl) hlk
  exact ⟨_, _, X.returnOut hx hret hd hr, hrun, hended, _, _, rfl, hq, ⟨_, rfl⟩, hW, hsame.mono hc hn⟩
/-- a body's contract: called with these values over this heap it returns, with Q -/
def own_Met (l : Launch) (Z : State) (y : MethodName) (bytes : ByteArray) (maxL : Nat) (ret : Option FieldType) (ws : List Cond) (rm : Room) (as' : Array Value) (h0 : Heap) (Q : Option Value → Heap → List Loc → Prop) : Prop :=
  MetFree l y (head1 (Cond.code y bytes maxL ret :: ws) rm) (fun a U => a = as' ∧ Z.Warmed39 U.vm ∧ U.heap = h0) (fun _ _ _ _ _ => True) (fun _ U o U' => ∃ v L, o = .returned v ∧ Q v U'.heap L ∧ FrameEnd U o U' L rm.cells rm.slots)
theorem own_body {Z : State} {y : MethodName} {bytes : ByteArray} {maxL : Nat} {ret : Option FieldType} {ws : List Cond} {rm : Room} {as' : Array Value} {h0 : Heap} {Q : Option Value → Heap → List Loc → Prop} (hpl : plainFor y = true)
    (k : ∀ (p : Program) (e : Env) (s : State) (m : MethodId) (below : List Frame) (meth : Method) (c : Code) (s₁ : State), p.tables.exec = Jvm.exec → c.code = bytes → c.maxLocals = maxL → s.vm.findClass y.cls = some m.cls → meth.name = y.name → meth.sig.returnType = ret → meth.locks = false → Z.Warmed39 s.vm →
      Stand p l e rm s m as' below meth c s₁ [] 0 0 → s₁.heap = h0 → ∀ G, G = own_End s below Q rm.cells rm.slots → own_Go p e below G (s₁.setTop (entryFrame m as' maxL))) :
    own_Met l Z y bytes maxL ret ws rm as' h0 Q := by
  refine MetFree.of_bodySF hpl hisR ?_
  intro p e s m args below meth c s₁ Bd hml0 hP hK
  obtain ⟨rfl, hZ, hh⟩ := hP
  have e0 : s₁.heap = h0 := by rw [← hh, Bd.state]; rfl
  exact k p e s m below meth c s₁ Bd.exec Bd.bytes hml0 (findClass_of_methodNamed Bd.named) (name_of_methodNamed Bd.named Bd.method).1 Bd.returns Bd.notSynchronized hZ (Stand.of_body Bd) e0 _ rfl
section Calls
variable {Z : State} {a0 : Array Value} {h : Heap}
theorem own_callS (X : Stand p l e R s m args below meth c T locs cells slots) (hx : p.tables.exec = Jvm.exec) (hZ : Z.Warmed39 s.vm) {own : String} {index : Nat} {y : MethodName} {bytes : ByteArray} {maxL : Nat} {ret : Option FieldType} (hown : s.vm.findClass own = some m.cls)
    (w1 : (Cond.methodLink own index y).before a0 Z = true) (w2 : (Cond.static y).before a0 Z = true) (w3 : (Cond.initialized y.cls).before a0 Z = true) (w4 : (Cond.code y bytes maxL ret).before a0 Z = true)
    (hy : y.cls ≠ "java/lang/invoke/MethodHandle" ∧ y.cls ≠ "java/lang/invoke/VarHandle") {rm : Room} {as' : Array Value} {Q : Option Value → Heap → List Loc → Prop} {W : Nat} (hM : own_Met l Z y bytes maxL ret [] rm as' h Q)
    (hf : rm.frames + 1 ≤ R.frames) (hl : W + (maxL + 11) + rm.locals ≤ R.locals) (eT : T.heap = h) {g : JFrame} (hg : g.method = m) (hsize : g.locals.size = c.maxLocals) {argsL rest : List Value}
    {ps : List FieldType} {r : Option FieldType} (hd : parseMethodDescriptor y.desc = some ⟨ps, r⟩) (hlen : argsL.length = ps.length) (hstack : g.stack = argsL.reverse ++ rest) (hW : 2 * g.monitorRoom + (rest.map fun v => v.category).sum ≤ W)
    (hdg : decode c.code g.pc = .ok (.invokestatic index, 3)) (ha : argsL.toArray = as') (hc : cells + rm.cells ≤ R.cells) (hn : slots + rm.slots ≤ R.slots) :
    ∃ (v : Option Value) (T' : State) (L : List Loc), Stand p l e R s m args below meth c T' (locs ++ L) (cells + rm.cells) (slots + rm.slots) ∧ Q v T'.heap L ∧
      ∀ target, Steps p.tables e below (T'.setTop { g with pc := g.pc + 3, stack := v.toList ++ rest }) target → Steps p.tables e below (T.setTop g) target := by
  obtain ⟨v, vm1, ⟨T', L', k', n'⟩, -, X', ⟨Lc, hQ, l1, l2, l3⟩, st⟩ := Jvm.LawKit.callS X hx (y := y) hown (mvT hZ w1) (mvT hZ w2) (mvT hZ w3) (mvT hZ w4) hy (backOf (W := W) hM hZ w4 w3 hf hl) hg hsize (argsL := argsL) (rest := rest) (lenOf hd hlen) hstack hW hdg (fun _ _ => ⟨ha, eT, hc, hn⟩)
  dsimp only [Pt.U, Pt.locs, Pt.cells, Pt.slots] at X' l1 l2 l3 st hQ
  subst l1 l2 l3
  exact ⟨v, T', Lc, X', hQ, st⟩
theorem own_callC (X : Stand p l e R s m args below meth c T locs cells slots) (hx : p.tables.exec = Jvm.exec) (hZ : Z.Warmed39 s.vm) {own : String} {index : Nat} {y : MethodName} {bytes : ByteArray} {maxL : Nat} (hn1 : y.name = "<init>") (hown : s.vm.findClass own = some m.cls)
    (w1 : (Cond.methodLink own index y).before a0 Z = true) (w2 : (Cond.instanceMethod y).before a0 Z = true) (w3 : (Cond.initialized y.cls).before a0 Z = true) (w4 : (Cond.code y bytes maxL none).before a0 Z = true)
    (hy : y.cls ≠ "java/lang/invoke/MethodHandle" ∧ y.cls ≠ "java/lang/invoke/VarHandle") {rm : Room} {as' : Array Value} {Q : Option Value → Heap → List Loc → Prop} {W : Nat} (hM : own_Met l Z y bytes maxL none [] rm as' h Q)
    (hf : rm.frames + 1 ≤ R.frames) (hl : W + (maxL + 11) + rm.locals ≤ R.locals) (eT : T.heap = h) {g : JFrame} (hg : g.method = m) (hsize : g.locals.size = c.maxLocals) {a : Addr} {argsL rest : List Value}
    {ps : List FieldType} {r : Option FieldType} (hd : parseMethodDescriptor y.desc = some ⟨ps, r⟩) (hlen : argsL.length = ps.length) (hstack : g.stack = argsL.reverse ++ .ref a :: rest) (hW : 2 * g.monitorRoom + (rest.map fun v => v.category).sum ≤ W)
    (hdg : decode c.code g.pc = .ok (.invokespecial index, 3)) (ha : (.ref a :: argsL).toArray = as') (hc : cells + rm.cells ≤ R.cells) (hn : slots + rm.slots ≤ R.slots) :
    ∃ (v : Option Value) (T' : State) (L : List Loc), Stand p l e R s m args below meth c T' (locs ++ L) (cells + rm.cells) (slots + rm.slots) ∧ Q v T'.heap L ∧
      ∀ target, Steps p.tables e below (T'.setTop { g with pc := g.pc + 3, stack := v.toList ++ rest }) target → Steps p.tables e below (T.setTop g) target := by
  obtain ⟨v, vm1, ⟨T', L', k', n'⟩, -, X', ⟨Lc, hQ, l1, l2, l3⟩, st⟩ := X.specialBack hx (y := y) hn1 hown (mvT hZ w1) (mvT hZ w2) (mvT hZ w4) hy (backOf (W := W) hM hZ w4 w3 hf hl) hg hsize (Steps.refl _) (a := a) (argsL := argsL) (rest := rest) (lenOf hd hlen) hstack hW hdg (fun _ _ => ⟨ha, eT, hc, hn⟩)
  dsimp only [Pt.U, Pt.locs, Pt.cells, Pt.slots] at X' l1 l2 l3 st hQ
  subst l1 l2 l3
  exact ⟨v, T', Lc, X', hQ, fun t k => st.trans k⟩
theorem own_callV (X : Stand p l e R s m args below meth c T locs cells slots) (hx : p.tables.exec = Jvm.exec) (hZ : Z.Warmed39 s.vm) {own C : String} {index : Nat} {y z : MethodName} {bytes : ByteArray} {maxL : Nat} {ret : Option FieldType} (hown : s.vm.findClass own = some m.cls)
    (w1 : (Cond.methodLink own index y).before a0 Z = true) (w2 : (Cond.declares y).before a0 Z = true) (hnf : NotFace s y) (w5 : (Cond.selects C y z).before a0 Z = true) (w6 : (Cond.instanceMethod z).before a0 Z = true) (w3 : (Cond.initialized z.cls).before a0 Z = true) (w4 : (Cond.code z bytes maxL ret).before a0 Z = true)
    (hy : y.cls ≠ "java/lang/invoke/MethodHandle" ∧ y.cls ≠ "java/lang/invoke/VarHandle") {rm : Room} {as' : Array Value} {Q : Option Value → Heap → List Loc → Prop} {W : Nat} (hM : own_Met l Z z bytes maxL ret [] rm as' h Q)
    (hf : rm.frames + 1 ≤ R.frames) (hl : W + (maxL + 11) + rm.locals ≤ R.locals) (eT : T.heap = h) {a : Addr} (E : Exa Z h a C) {g : JFrame} (hg : g.method = m) (hsize : g.locals.size = c.maxLocals) {argsL rest : List Value}
    {ps : List FieldType} {r : Option FieldType} (hd : parseMethodDescriptor y.desc = some ⟨ps, r⟩) (hlen : argsL.length = ps.length) (hstack : g.stack = argsL.reverse ++ .ref a :: rest) (hW : 2 * g.monitorRoom + (rest.map fun v => v.category).sum ≤ W)
    (hdg : decode c.code g.pc = .ok (.invokevirtual index, 3)) (ha : (.ref a :: argsL).toArray = as') (hc : cells + rm.cells ≤ R.cells) (hn : slots + rm.slots ≤ R.slots) :
    ∃ (v : Option Value) (T' : State) (L : List Loc), Stand p l e R s m args below meth c T' (locs ++ L) (cells + rm.cells) (slots + rm.slots) ∧ Q v T'.heap L ∧
      ∀ target, Steps p.tables e below (T'.setTop { g with pc := g.pc + 3, stack := v.toList ++ rest }) target → Steps p.tables e below (T.setTop g) target := by
  obtain ⟨cq, kq, q1, q2, q3⟩ := isOf hZ eT E
  obtain ⟨v, vm1, ⟨T', L', k', n'⟩, -, X', ⟨Lc, hQ, l1, l2, l3⟩, st⟩ := X.virtualBack hx (y := y) (z := z) hown (mvT hZ w1) (mvT hZ w2) hnf (mvT hZ w5) (mvT hZ w6) hy (backOf (W := W) hM hZ w4 w3 hf hl) q1 q3 hg hsize (Steps.refl _) (argsL := argsL) (rest := rest) (lenOf hd hlen) hstack hW hdg (fun _ _ => ⟨ha, eT, hc, hn⟩)
  dsimp only [Pt.U, Pt.locs, Pt.cells, Pt.slots] at X' l1 l2 l3 st hQ
  subst l1 l2 l3
  exact ⟨v, T', Lc, X', hQ, fun t k => st.trans k⟩
end Calls
section Words
variable {Z : State} {a0 : Array Value}
theorem own_exa {t : Term} {C : String} (h : (Cond.exactly t C).value a0 Z none Z [] = some true) : ∃ a, t.eval a0 Z none [] Z = some (.ref a) ∧ Exa Z Z.heap a C := by
  obtain ⟨a, e⟩ := exa_v h
  exact ⟨a, e, Exa.start e h⟩
theorem own_fldI {t : Term} {O n d : String} {k : Int32} {a : Addr} (h : (Cond.eq (.field t O n d) (.int k)).value a0 Z none Z [] = some true) (e : t.eval a0 Z none [] Z = some (.ref a)) : Fld Z Z.heap a O n d (.int k) := by
  obtain ⟨x, y, h1, h2, h3, h4⟩ := cmp_v (Or.inl h)
  cases (Term.int_eval k).symm.trans h2
  obtain ⟨q, rfl⟩ := h4
  obtain rfl := gotT (Cond.eq_ints h1 (Term.int_eval k)) h
  exact Fld.start ((fld_at e).symm.trans h1)
theorem own_fldJ {t : Term} {O n d : String} {k : Int64} {a : Addr} (h : (Cond.eq (.field t O n d) (.long k)).value a0 Z none Z [] = some true) (e : t.eval a0 Z none [] Z = some (.ref a)) : Fld Z Z.heap a O n d (.long k) := by
  obtain ⟨x, y, h1, h2, h3, h4⟩ := cmp_v (Or.inl h)
  cases (long_at k).symm.trans h2
  obtain ⟨q, rfl⟩ := h4
  obtain rfl := gotT (eq_L h1 (long_at k)) h
  exact Fld.start ((fld_at e).symm.trans h1)
theorem own_el {t u : Term} {i : Int32} {ca a : Addr} {cl : Cell} (h : (Cond.eq (.elem t (.int i)) u).value a0 Z none Z [] = some true) (ht : t.eval a0 Z none [] Z = some (.ref ca)) (hu : u.eval a0 Z none [] Z = some (.ref a)) (hc : Z.heap[ca]? = some cl) : cl.slots[i.toNatClampNeg]? = some (.ref a) := by
  obtain ⟨x, y, h1, h2, h3, h4⟩ := cmp_v (Or.inl h)
  cases hu.symm.trans h2
  have hx : x.isRef = true := by cases x <;> simp [Kin, Value.isRef] at h3 h4 ⊢
  have e := gotT (eq_R h1 h2 hx rfl) h
  subst e
  exact (elem_in h1 ht (Term.int_eval i) hc).2
theorem own_len {t : Term} {n : Int32} {ca : Addr} {cl : Cell} (h : (Cond.eq (.length t) (.int n)).value a0 Z none Z [] = some true) (ht : t.eval a0 Z none [] Z = some (.ref ca)) (hc : Z.heap[ca]? = some cl) : cl.slots.size < 2 ^ 31 ∧ cl.slots.size.toInt32 = n := by
  obtain ⟨x, y, h1, h2, h3, h4⟩ := cmp_v (Or.inl h)
  obtain ⟨b, cell, e1, e2, e3, rfl⟩ := Jvm.Lib.length_spec h1
  cases ht.symm.trans e1
  cases hc.symm.trans (Jvm.Lib.arrayAt_spec e2).1
  exact ⟨e3, gotT (Cond.eq_ints h1 (Term.int_eval n)) h⟩
end Words
end New
end Jvm.RoadKit
namespace Jvm.RoadKit
open Sem ClassFile Op Lib Jvm.Stand Jvm.Free Jvm.LawKit
section New2
variable {p : Program} {l : Launch} {e : Env} {R : Room} {s : State} {m : MethodId} {args : Array Value} {below : List Frame} {meth : Method} {c : Code} {T : State} {locs : List Loc} {cells slots : Nat}
theorem own_retD (X : Stand p l e R s m args below meth c T locs cells slots) (hx : p.tables.exec = Jvm.exec) (hlk : meth.locks = false) (hret : meth.sig.returnType = some .double)
    {pc : Nat} {Ls : Array Slot} {z : UInt64} {rest : List Value} (hd : decode c.code pc = .ok (.dreturn, 1)) {Q : Option Value → Heap → List Loc → Prop} {cc nn : Nat} (hq : Q (some (.double z)) T.heap locs) (hc : cells ≤ cc) (hn : slots ≤ nn) :
    own_Go p e below (own_End s below Q cc nn) (T.setTop (mkF m pc Ls (.double z :: rest))) := by
  obtain ⟨fs, hr, hrun, hended, hW, hsame⟩ := X.leave (v := some (.double z)) (fun h => by rw [hret] at h; cases h) hlk
  refine ⟨_, _, ?_, hrun, hended, _, _, rfl, hq, ⟨_, rfl⟩, hW, hsame.mono hc hn⟩
  have hm' : T.vm.method? m = some meth := X.method'
  have hn : narrow .double (.double z) = .double z := rfl
  show Steps p.tables e below (T.setTop { method := m, pc := pc, locals := Ls, stack := _ :: rest, locked := none }) _
  jvm_step X.here [X.here.top, hx, hd, hm', hret, hn]
  first | (intro acts; rw [hr _ acts rfl rfl rfl]) | rw [hr _ _ rfl rfl rfl]
  exact Steps.refl _
section Calls2
variable {Z : State} {a0 : Array Value} {h : Heap}
/-- a private method by its contract -/
theorem own_callP (X : Stand p l e R s m args below meth c T locs cells slots) (hx : p.tables.exec = Jvm.exec) (hZ : Z.Warmed39 s.vm) {own C : String} {index n : Nat} {y : MethodName} {bytes : ByteArray} {maxL : Nat} {ret : Option FieldType} (hown : s.vm.findClass own = some m.cls)
    (w1 : (Cond.methodLink own index y).before a0 Z = true) (w2 : (Cond.instanceMethod y).before a0 Z = true) (w5 : (Cond.privateMethod y).before a0 Z = true) (wi : (Cond.instantiable y.cls n).before a0 Z = true) (w3 : (Cond.initialized y.cls).before a0 Z = true) (w4 : (Cond.code y bytes maxL ret).before a0 Z = true)
    (hy : y.cls ≠ "java/lang/invoke/MethodHandle" ∧ y.cls ≠ "java/lang/invoke/VarHandle") {rm : Room} {as' : Array Value} {Q : Option Value → Heap → List Loc → Prop} {W : Nat} (hM : own_Met l Z y bytes maxL ret [] rm as' h Q)
    (hf : rm.frames + 1 ≤ R.frames) (hl : W + (maxL + 11) + rm.locals ≤ R.locals) (eT : T.heap = h) {a : Addr} (E : Exa Z h a C) {g : JFrame} (hg : g.method = m) (hsize : g.locals.size = c.maxLocals) {argsL rest : List Value}
    {ps : List FieldType} {r : Option FieldType} (hd : parseMethodDescriptor y.desc = some ⟨ps, r⟩) (hlen : argsL.length = ps.length) (hstack : g.stack = argsL.reverse ++ .ref a :: rest) (hW : 2 * g.monitorRoom + (rest.map fun v => v.category).sum ≤ W)
    (hdg : decode c.code g.pc = .ok (.invokevirtual index, 3)) (ha : (.ref a :: argsL).toArray = as') (hc : cells + rm.cells ≤ R.cells) (hn : slots + rm.slots ≤ R.slots) :
    ∃ (v : Option Value) (T' : State) (L : List Loc), Stand p l e R s m args below meth c T' (locs ++ L) (cells + rm.cells) (slots + rm.slots) ∧ Q v T'.heap L ∧
      ∀ target, Steps p.tables e below (T'.setTop { g with pc := g.pc + 3, stack := v.toList ++ rest }) target → Steps p.tables e below (T.setTop g) target := by
  obtain ⟨cq, q, q'⟩ := E.cell
  have wp := Cond.privateMethod_at (mvP hZ w5 (args := args))
  obtain ⟨ck, k, g1, g2, -, g3, -⟩ := Cond.instantiable_spec (mvT hZ wi (args := args) : (Cond.instantiable y.cls n).before args s = true)
  have wsel := Jvm.Stand.selects_self_of_private (args := args) g1 g2 (Bool.or_eq_false_iff.mp g3).1 wp (mvT hZ w2) hy
  obtain ⟨v, vm1, ⟨T', L', k', n'⟩, -, X', ⟨Lc, hQ, l1, l2, l3⟩, st⟩ := X.privateBack hx (y := y) hown (mvT hZ w1) (mvT hZ w2) wsel wp (mvT hZ w4) hy (backOf (W := W) hM hZ w4 w3 hf hl) hg hsize (Steps.refl _) (a := a) (by rw [eT]; exact q) q' (argsL := argsL) (rest := rest) (lenOf hd hlen) hstack hW hdg (fun _ _ => ⟨ha, eT, hc, hn⟩)
  dsimp only [Pt.U, Pt.locs, Pt.cells, Pt.slots] at X' l1 l2 l3 st hQ
  subst l1 l2 l3
  exact ⟨v, T', Lc, X', hQ, fun t k => st.trans k⟩
end Calls2
end New2
end Jvm.RoadKit
namespace Jvm.Pilot.@@N@@
open Jvm Jvm.ClassFile Sem Op Lib Jvm.Free Jvm.Stand Jvm.LawKit Jvm.RoadKit Bundle Jvm.Pilot.@@N@@.Jvm.D
theorem own_pd0 : parseMethodDescriptor "(IDID)Z" = some ⟨[.int, .double, .int, .double], some .boolean⟩ := by decide +kernel
theorem own_pd1 : parseMethodDescriptor "(IDI)V" = some ⟨[.int, .double, .int], none⟩ := by decide +kernel
theorem own_pd2 : parseMethodDescriptor "(I[I)V" = some ⟨[.int, (.array .int)], none⟩ := by decide +kernel
theorem own_pd3 : parseMethodDescriptor "(ID)Z" = some ⟨[.int, .double], some .boolean⟩ := by decide +kernel
theorem own_pd4 : parseMethodDescriptor "()D" = some ⟨[], some .double⟩ := by decide +kernel
theorem own_pd5 : parseMethodDescriptor "([DII)V" = some ⟨[(.array .double), .int, .int], none⟩ := by decide +kernel
abbrev own_dv (x : UInt64) : Slot := .val (.double x)
def own_b (c : Int64) : Prop := -200 ≤ c.toInt ∧ c.toInt ≤ 200
theorem own_b53 {c : Int64} (h : own_b c) : B53 c := by unfold B53; unfold own_b at h; omega
def own_d (m : Int32) : Prop := 0 ≤ m.toInt ∧ m.toInt < 4
theorem own_dr {m : Int32} (h : own_d m) : ¬ m < 0 ∧ m < 4 := by
  unfold own_d at h
  simp only [Int32.lt_iff_toInt_lt, show (0 : Int32).toInt = 0 from rfl, show (4 : Int32).toInt = 4 from rfl]; omega
theorem own_get4 {a b c d : Int32} (i : Nat) : ∃ q, [(Value.int a), (.int b), (.int c), (.int d)].getD i (.int (0 : Int32)) = .int q := by
  match i with
  | 0 => exact ⟨_, rfl⟩
  | 1 => exact ⟨_, rfl⟩
  | 2 => exact ⟨_, rfl⟩
  | 3 => exact ⟨_, rfl⟩
  | n + 4 => exact ⟨0, by simp [List.getD]⟩
section Pl
variable {Z : State} {h h' : Heap} {pv v : Value} {av ws : List Addr} {a : Addr} {sl : Nat}
/-- the order that settles equal cosines: none, or an array of four ints that is none of these objects -/
def own_Pl (Z : State) (h : Heap) (pv : Value) (av : List Addr) : Prop := pv = .null ∨ ∃ (pa : Addr) (kp : ClassId) (q0 q1 q2 q3 : Int32), pv = .ref pa ∧ Arv Z h pa kp .int (4 : Int32) [.int q0, .int q1, .int q2, .int q3] (.int (0 : Int32)) ∧ pa ∉ av
theorem own_PlW (P : own_Pl Z h pv av) (W : Wr h h' a sl v) (ha : a ∈ av) : own_Pl Z h' pv av := by
  rcases P with rfl | ⟨pa, kp, q0, q1, q2, q3, rfl, V, n⟩
  · exact Or.inl rfl
  · exact Or.inr ⟨pa, kp, q0, q1, q2, q3, rfl, V.other W (fun e => n (e ▸ ha)), n⟩
theorem own_PlE (P : own_Pl Z h pv av) (E : Ext h h') : own_Pl Z h' pv av := by
  rcases P with rfl | ⟨pa, kp, q0, q1, q2, q3, rfl, V, n⟩
  · exact Or.inl rfl
  · exact Or.inr ⟨pa, kp, q0, q1, q2, q3, rfl, V.ext E, n⟩
theorem own_Pln (P : own_Pl Z h pv av) (hn : h.size ≤ a) : own_Pl Z h pv (a :: av) := by
  rcases P with rfl | ⟨pa, kp, q0, q1, q2, q3, rfl, V, n⟩
  · exact Or.inl rfl
  · exact Or.inr ⟨pa, kp, q0, q1, q2, q3, rfl, V, ninS (Nat.ne_of_lt (Nat.lt_of_lt_of_le V.lt hn)) n⟩
theorem own_PlR (P : own_Pl Z h pv av) : pv.isRef = true := by
  rcases P with rfl | ⟨pa, kp, q0, q1, q2, q3, rfl, V, n⟩ <;> rfl
theorem own_PlC (P : own_Pl Z h pv av) : pv.category = 1 := by
  rcases P with rfl | ⟨pa, kp, q0, q1, q2, q3, rfl, V, n⟩ <;> rfl
theorem own_PlN (P : own_Pl Z h pv av) : narrow (.array .int) pv = pv := by
  rcases P with rfl | ⟨pa, kp, q0, q1, q2, q3, rfl, V, n⟩ <;> rfl
theorem own_PlF (P : own_Pl Z h pv av) : fits (.array .int) pv = true := by
  rcases P with rfl | ⟨pa, kp, q0, q1, q2, q3, rfl, V, n⟩ <;> rfl
end Pl
def own_NE (Z : State) (h : Heap) (n0 : Nat) (r bn bc : Addr) (kn kc : ClassId) (pv : Value) (cap sz : Int32) (ms cl : List Value) : Prop :=
  Exa Z h r "com/example/thinleaf/thinleaf/prune/Nearest" ∧ Fld Z h r "com/example/thinleaf/thinleaf/prune/Nearest" "numbers" "[I" (.ref bn) ∧ Fld Z h r "com/example/thinleaf/thinleaf/prune/Nearest" "cosines" "[D" (.ref bc) ∧ Fld Z h r "com/example/thinleaf/thinleaf/prune/Nearest" "places" "[I" pv ∧ Fld Z h r "com/example/thinleaf/thinleaf/prune/Nearest" "size" "I" (.int sz) ∧
  Arv Z h bn kn .int cap ms (.int (0 : Int32)) ∧ Arv Z h bc kc .double cap cl (.double (0 : UInt64)) ∧ own_Pl Z h pv [r, bn, bc] ∧ r ≠ bn ∧ r ≠ bc ∧ bn ≠ bc ∧ n0 ≤ r ∧ n0 ≤ bn ∧ n0 ≤ bc ∧ n0 ≤ h.size
def own_S1 (c0 v d0 : Int64) : Prop := d0 = v
def own_S2 (c0 c1 v d0 d1 : Int64) : Prop := (c1.toInt ≤ v.toInt ∧ d0 = c1 ∧ d1 = v) ∨ (v.toInt ≤ c1.toInt ∧ d0 = v ∧ d1 = c1)
def own_S3 (c0 c1 c2 v d0 d1 d2 : Int64) : Prop := (c2.toInt ≤ c1.toInt ∧ c2.toInt ≤ v.toInt ∧ d0 = c2 ∧ d1 = c1 ∧ d2 = v) ∨ (c2.toInt ≤ c1.toInt ∧ v.toInt ≤ c2.toInt ∧ d0 = v ∧ d1 = c1 ∧ d2 = c2) ∨ (c1.toInt ≤ c2.toInt ∧ c1.toInt ≤ v.toInt ∧ d0 = c1 ∧ d1 = v ∧ d2 = c2) ∨ (c1.toInt ≤ c2.toInt ∧ v.toInt ≤ c1.toInt ∧ d0 = v ∧ d1 = c1 ∧ d2 = c2)
def own_R10 (v d0 : Int64) : Prop := d0 = v
def own_R11 (c0 v d0 : Int64) : Prop := (v.toInt ≤ c0.toInt ∧ d0 = c0) ∨ (c0.toInt ≤ v.toInt ∧ own_S1 c0 v d0)
def own_R20 (v d0 : Int64) : Prop := d0 = v
def own_R21 (c0 v d0 d1 : Int64) : Prop := (v.toInt ≤ c0.toInt ∧ d0 = v ∧ d1 = c0) ∨ (c0.toInt ≤ v.toInt ∧ d0 = c0 ∧ d1 = v)
def own_R22 (c0 c1 v d0 d1 : Int64) : Prop := (v.toInt ≤ c0.toInt ∧ d0 = c0 ∧ d1 = c1) ∨ (c0.toInt ≤ v.toInt ∧ own_S2 c0 c1 v d0 d1)
def own_R30 (v d0 : Int64) : Prop := d0 = v
def own_R31 (c0 v d0 d1 : Int64) : Prop := (v.toInt ≤ c0.toInt ∧ d0 = v ∧ d1 = c0) ∨ (c0.toInt ≤ v.toInt ∧ d0 = c0 ∧ d1 = v)
def own_R32 (c0 c1 v d0 d1 d2 : Int64) : Prop := (v.toInt ≤ c0.toInt ∧ d0 = v ∧ d1 = c1 ∧ d2 = c0) ∨ (c0.toInt ≤ v.toInt ∧ d0 = c0 ∧ d1 = c1 ∧ d2 = v)
def own_R33 (c0 c1 c2 v d0 d1 d2 : Int64) : Prop := (v.toInt ≤ c0.toInt ∧ d0 = c0 ∧ d1 = c1 ∧ d2 = c2) ∨ (c0.toInt ≤ v.toInt ∧ own_S3 c0 c1 c2 v d0 d1 d2)
theorem d1_0 : decode prog_219_method_11_code 0 = .ok (.dload_n 2, 1) := by decide +kernel
theorem d1_1 : decode prog_219_method_11_code 1 = .ok (.dload 5, 2) := by decide +kernel
theorem d1_3 : decode prog_219_method_11_code 3 = .ok (.dcmp .g, 1) := by decide +kernel
theorem d1_4 : decode prog_219_method_11_code 4 = .ok (.ifCond .lt 42, 3) := by decide +kernel
theorem d1_7 : decode prog_219_method_11_code 7 = .ok (.dload_n 2, 1) := by decide +kernel
theorem d1_8 : decode prog_219_method_11_code 8 = .ok (.dload 5, 2) := by decide +kernel
theorem d1_10 : decode prog_219_method_11_code 10 = .ok (.dcmp .l, 1) := by decide +kernel
theorem d1_11 : decode prog_219_method_11_code 11 = .ok (.ifCond .ne 39, 3) := by decide +kernel
theorem d1_14 : decode prog_219_method_11_code 14 = .ok (.aload_n 0, 1) := by decide +kernel
theorem d1_15 : decode prog_219_method_11_code 15 = .ok (.getfield 20, 3) := by decide +kernel
theorem d1_18 : decode prog_219_method_11_code 18 = .ok (.ifnonnull 12, 3) := by decide +kernel
theorem d1_21 : decode prog_219_method_11_code 21 = .ok (.iload_n 1, 1) := by decide +kernel
theorem d1_22 : decode prog_219_method_11_code 22 = .ok (.iload 4, 2) := by decide +kernel
theorem d1_24 : decode prog_219_method_11_code 24 = .ok (.if_icmp .le 26, 3) := by decide +kernel
theorem d1_27 : decode prog_219_method_11_code 27 = .ok (.goto 19, 3) := by decide +kernel
theorem d1_30 : decode prog_219_method_11_code 30 = .ok (.aload_n 0, 1) := by decide +kernel
theorem d1_31 : decode prog_219_method_11_code 31 = .ok (.getfield 20, 3) := by decide +kernel
theorem d1_34 : decode prog_219_method_11_code 34 = .ok (.iload_n 1, 1) := by decide +kernel
theorem d1_35 : decode prog_219_method_11_code 35 = .ok (.iaload, 1) := by decide +kernel
theorem d1_36 : decode prog_219_method_11_code 36 = .ok (.aload_n 0, 1) := by decide +kernel
theorem d1_37 : decode prog_219_method_11_code 37 = .ok (.getfield 20, 3) := by decide +kernel
theorem d1_40 : decode prog_219_method_11_code 40 = .ok (.iload 4, 2) := by decide +kernel
theorem d1_42 : decode prog_219_method_11_code 42 = .ok (.iaload, 1) := by decide +kernel
theorem d1_43 : decode prog_219_method_11_code 43 = .ok (.if_icmp .ge 7, 3) := by decide +kernel
theorem d1_46 : decode prog_219_method_11_code 46 = .ok (.iconst 1, 1) := by decide +kernel
theorem d1_47 : decode prog_219_method_11_code 47 = .ok (.goto 4, 3) := by decide +kernel
theorem d1_50 : decode prog_219_method_11_code 50 = .ok (.iconst 0, 1) := by decide +kernel
theorem d1_51 : decode prog_219_method_11_code 51 = .ok (.ireturn, 1) := by decide +kernel
theorem pn_rmB : plainFor (⟨"com/example/thinleaf/thinleaf/prune/Nearest", "below", "(IDID)Z"⟩ : MethodName) = true := by decide +kernel
theorem ef_rmB (m : MethodId) (x0 : Addr) (x1 : Int32) (x2 : UInt64) (x3 : Int32) (x4 : UInt64) : entryFrame m #[(.ref x0), (.int x1), (.double x2), (.int x3), (.double x4)] 7 = mkF m 0 #[rv x0, iv x1, own_dv x2, .second, iv x3, own_dv x4, .second] [] := by first | (simp [entryFrame, mkF, argsToLocals, Value.category]; done) | rfl
set_option maxRecDepth 65536 in
set_option maxHeartbeats 40000000 in
theorem rmB (l : Launch) (Z : State) (a0 : Array Value) (hw : ∀ d ∈ tables_1, d.before a0 Z = true) (r : Addr) (n1 : Int32) (c1 : Int64) (n2 : Int32) (c2 : Int64) (pv : Value) (av : List Addr) (h0 : Heap) (Fp : Fld Z h0 r "com/example/thinleaf/thinleaf/prune/Nearest" "places" "[I" pv) (Pl : own_Pl Z h0 pv av) (b1 : own_b c1) (b2 : own_b c2) (hn1 : own_d n1) (hn2 : own_d n2) :
    own_Met l Z (⟨"com/example/thinleaf/thinleaf/prune/Nearest", "below", "(IDID)Z"⟩ : MethodName) prog_219_method_11_code 7 (some .boolean) [] ({ frames := 0, cells := 0, slots := 0, locals := 0 } : Room) #[(.ref r), (.int n1), (.double (FP.l2d c1)), (.int n2), (.double (FP.l2d c2))] h0 (fun v h L => (∃ q : Int32, v = some (.int q) ∧ (q = 0 ∨ q = 1) ∧ (q = 1 → c1.toInt ≤ c2.toInt) ∧ (q = 0 → c2.toInt ≤ c1.toInt)) ∧ L = [] ∧ h = h0) := by
  refine own_body pn_rmB ?_
  intro p e s m below meth c s₁ hx hby hml hown hnm hret hlk hZ X0 e0 G hG
  replace hml : c.maxLocals = 7 := hml
  replace hown : s.vm.findClass "com/example/thinleaf/thinleaf/prune/Nearest" = some m.cls := hown
  rw [ef_rmB]
  show own_Go p e below G (s₁.setTop (mkF m 0 #[rv r, iv n1, own_dv (FP.l2d c1), .second, iv n2, own_dv (FP.l2d c2), .second] []))
  rcases Pl with rfl | ⟨pa, kp, q0, q1, q2, q3, rfl, Vp, -⟩
  · skip
    refine own_st (fun t k => XS.dloadN X0.here hx rfl (hb hby d1_0) rfl  k) ?_
    show own_Go p e below G (s₁.setTop (mkF m 1 #[rv r, iv n1, own_dv (FP.l2d c1), .second, iv n2, own_dv (FP.l2d c2), .second] [(.double (FP.l2d c1))]))
    refine own_st (fun t k => XS.dload X0.here hx rfl (hb hby d1_1) rfl  k) ?_
    show own_Go p e below G (s₁.setTop (mkF m 3 #[rv r, iv n1, own_dv (FP.l2d c1), .second, iv n2, own_dv (FP.l2d c2), .second] [(.double (FP.l2d c2)), (.double (FP.l2d c1))]))
    refine own_st (fun t k => XS.dcmpS X0.here hx rfl (hb hby d1_3) rfl (dcmpV_w (own_b53 b1) (own_b53 b2) _) k) ?_
    show own_Go p e below G (s₁.setTop (mkF m 4 #[rv r, iv n1, own_dv (FP.l2d c1), .second, iv n2, own_dv (FP.l2d c2), .second] [(.int (lcmpW c1 c2))]))
    by_cases c4_1 : c1 < c2
    · skip
      refine own_st (fun t k => XS.ifYes X0.here hx rfl (pc0 := 4) (pc' := 46) rfl (hb hby d1_4) rfl ((if0 _ _).trans (tlt ((lw_lt _ _).2 c4_1)).1) (by decide) (by decide) k) ?_
      show own_Go p e below G (s₁.setTop (mkF m 46 #[rv r, iv n1, own_dv (FP.l2d c1), .second, iv n2, own_dv (FP.l2d c2), .second] []))
      refine own_st (fun t k => XS.iconst X0.here hx rfl (hb hby d1_46) k) ?_
      show own_Go p e below G (s₁.setTop (mkF m 47 #[rv r, iv n1, own_dv (FP.l2d c1), .second, iv n2, own_dv (FP.l2d c2), .second] [(.int (1 : Int32))]))
      refine own_st (fun t k => XS.goto X0.here hx rfl (pc0 := 47) (pc' := 51) rfl (hb hby d1_47) (by decide) (by decide) k) ?_
      show own_Go p e below G (s₁.setTop (mkF m 51 #[rv r, iv n1, own_dv (FP.l2d c1), .second, iv n2, own_dv (FP.l2d c2), .second] [(.int (1 : Int32))]))
      rw [hG]
      exact own_retZ X0 hx hlk (t := .boolean) hret (by simp) (hb hby d1_51) ⟨⟨1, rfl, Or.inr rfl, fun _ => Int.le_of_lt (Int64.lt_iff_toInt_lt.mp c4_1), fun q => absurd q (by decide)⟩, rfl, e0⟩ (by decide) (by decide)
    · skip
      refine own_st (fun t k => XS.ifNo X0.here hx rfl (hb hby d1_4) rfl ((if0 _ _).trans (flt (fun q => c4_1 ((lw_lt _ _).1 q))).1) k) ?_
      show own_Go p e below G (s₁.setTop (mkF m 7 #[rv r, iv n1, own_dv (FP.l2d c1), .second, iv n2, own_dv (FP.l2d c2), .second] []))
      refine own_st (fun t k => XS.dloadN X0.here hx rfl (hb hby d1_7) rfl  k) ?_
      show own_Go p e below G (s₁.setTop (mkF m 8 #[rv r, iv n1, own_dv (FP.l2d c1), .second, iv n2, own_dv (FP.l2d c2), .second] [(.double (FP.l2d c1))]))
      refine own_st (fun t k => XS.dload X0.here hx rfl (hb hby d1_8) rfl  k) ?_
      show own_Go p e below G (s₁.setTop (mkF m 10 #[rv r, iv n1, own_dv (FP.l2d c1), .second, iv n2, own_dv (FP.l2d c2), .second] [(.double (FP.l2d c2)), (.double (FP.l2d c1))]))
      refine own_st (fun t k => XS.dcmpS X0.here hx rfl (hb hby d1_10) rfl (dcmpV_w (own_b53 b1) (own_b53 b2) _) k) ?_
      show own_Go p e below G (s₁.setTop (mkF m 11 #[rv r, iv n1, own_dv (FP.l2d c1), .second, iv n2, own_dv (FP.l2d c2), .second] [(.int (lcmpW c1 c2))]))
      by_cases c11_2 : c1 = c2
      · skip
        refine own_st (fun t k => XS.ifNo X0.here hx rfl (hb hby d1_11) rfl ((if0 _ _).trans (teq ((lw_eq _ _).2 c11_2)).2) k) ?_
        show own_Go p e below G (s₁.setTop (mkF m 14 #[rv r, iv n1, own_dv (FP.l2d c1), .second, iv n2, own_dv (FP.l2d c2), .second] []))
        refine own_st (fun t k => XS.aloadN X0.here hx rfl (hb hby d1_14) rfl rfl  k) ?_
        show own_Go p e below G (s₁.setTop (mkF m 15 #[rv r, iv n1, own_dv (FP.l2d c1), .second, iv n2, own_dv (FP.l2d c2), .second] [(.ref r)]))
        obtain ⟨T3, X3, e3, st3⟩ := getF X0 hx hZ hown (host := "") (Or.inl (hw _ (List.mem_of_getElem? (i := 15) rfl))) Via.refl e0 Fp (g := (mkF m 15 #[rv r, iv n1, own_dv (FP.l2d c1), .second, iv n2, own_dv (FP.l2d c2), .second] [(.ref r)])) rfl rfl (hb hby d1_15)
        refine own_st st3 ?_
        show own_Go p e below G (T3.setTop (mkF m 18 #[rv r, iv n1, own_dv (FP.l2d c1), .second, iv n2, own_dv (FP.l2d c2), .second] [.null]))
        refine own_st (fun t k => XS.ifnonnullNo X3.here hx rfl (hb hby d1_18) rfl k) ?_
        show own_Go p e below G (T3.setTop (mkF m 21 #[rv r, iv n1, own_dv (FP.l2d c1), .second, iv n2, own_dv (FP.l2d c2), .second] []))
        refine own_st (fun t k => XS.iloadN X3.here hx rfl (hb hby d1_21) rfl  k) ?_
        show own_Go p e below G (T3.setTop (mkF m 22 #[rv r, iv n1, own_dv (FP.l2d c1), .second, iv n2, own_dv (FP.l2d c2), .second] [(.int n1)]))
        refine own_st (fun t k => XS.iload X3.here hx rfl (hb hby d1_22) rfl  k) ?_
        show own_Go p e below G (T3.setTop (mkF m 24 #[rv r, iv n1, own_dv (FP.l2d c1), .second, iv n2, own_dv (FP.l2d c2), .second] [(.int n2), (.int n1)]))
        by_cases c24_4 : n2 < n1
        · skip
          refine own_st (fun t k => XS.icmpNo X3.here hx rfl (hb hby d1_24) rfl (tlt c24_4).2.2.2 k) ?_
          show own_Go p e below G (T3.setTop (mkF m 27 #[rv r, iv n1, own_dv (FP.l2d c1), .second, iv n2, own_dv (FP.l2d c2), .second] []))
          refine own_st (fun t k => XS.goto X3.here hx rfl (pc0 := 27) (pc' := 46) rfl (hb hby d1_27) (by decide) (by decide) k) ?_
          show own_Go p e below G (T3.setTop (mkF m 46 #[rv r, iv n1, own_dv (FP.l2d c1), .second, iv n2, own_dv (FP.l2d c2), .second] []))
          refine own_st (fun t k => XS.iconst X3.here hx rfl (hb hby d1_46) k) ?_
          show own_Go p e below G (T3.setTop (mkF m 47 #[rv r, iv n1, own_dv (FP.l2d c1), .second, iv n2, own_dv (FP.l2d c2), .second] [(.int (1 : Int32))]))
          refine own_st (fun t k => XS.goto X3.here hx rfl (pc0 := 47) (pc' := 51) rfl (hb hby d1_47) (by decide) (by decide) k) ?_
          show own_Go p e below G (T3.setTop (mkF m 51 #[rv r, iv n1, own_dv (FP.l2d c1), .second, iv n2, own_dv (FP.l2d c2), .second] [(.int (1 : Int32))]))
          rw [hG]
          exact own_retZ X3 hx hlk (t := .boolean) hret (by simp) (hb hby d1_51) ⟨⟨1, rfl, Or.inr rfl, fun _ => Int.le_of_eq (congrArg Int64.toInt c11_2), fun q => absurd q (by decide)⟩, rfl, e3⟩ (by decide) (by decide)
        · skip
          refine own_st (fun t k => XS.icmpYes X3.here hx rfl (pc0 := 24) (pc' := 50) rfl (hb hby d1_24) rfl (flt c24_4).2.2.2 (by decide) (by decide) k) ?_
          show own_Go p e below G (T3.setTop (mkF m 50 #[rv r, iv n1, own_dv (FP.l2d c1), .second, iv n2, own_dv (FP.l2d c2), .second] []))
          refine own_st (fun t k => XS.iconst X3.here hx rfl (hb hby d1_50) k) ?_
          show own_Go p e below G (T3.setTop (mkF m 51 #[rv r, iv n1, own_dv (FP.l2d c1), .second, iv n2, own_dv (FP.l2d c2), .second] [(.int (0 : Int32))]))
          rw [hG]
          exact own_retZ X3 hx hlk (t := .boolean) hret (by simp) (hb hby d1_51) ⟨⟨0, rfl, Or.inl rfl, fun q => absurd q (by decide), fun _ => Int.not_lt.mp (fun q => c4_1 (Int64.lt_iff_toInt_lt.mpr q))⟩, rfl, e3⟩ (by decide) (by decide)
      · skip
        refine own_st (fun t k => XS.ifYes X0.here hx rfl (pc0 := 11) (pc' := 50) rfl (hb hby d1_11) rfl ((if0 _ _).trans (feq (fun q => c11_2 ((lw_eq _ _).1 q))).2) (by decide) (by decide) k) ?_
        show own_Go p e below G (s₁.setTop (mkF m 50 #[rv r, iv n1, own_dv (FP.l2d c1), .second, iv n2, own_dv (FP.l2d c2), .second] []))
        refine own_st (fun t k => XS.iconst X0.here hx rfl (hb hby d1_50) k) ?_
        show own_Go p e below G (s₁.setTop (mkF m 51 #[rv r, iv n1, own_dv (FP.l2d c1), .second, iv n2, own_dv (FP.l2d c2), .second] [(.int (0 : Int32))]))
        rw [hG]
        exact own_retZ X0 hx hlk (t := .boolean) hret (by simp) (hb hby d1_51) ⟨⟨0, rfl, Or.inl rfl, fun q => absurd q (by decide), fun _ => Int.not_lt.mp (fun q => c4_1 (Int64.lt_iff_toInt_lt.mpr q))⟩, rfl, e0⟩ (by decide) (by decide)
  · skip
    refine own_st (fun t k => XS.dloadN X0.here hx rfl (hb hby d1_0) rfl  k) ?_
    show own_Go p e below G (s₁.setTop (mkF m 1 #[rv r, iv n1, own_dv (FP.l2d c1), .second, iv n2, own_dv (FP.l2d c2), .second] [(.double (FP.l2d c1))]))
    refine own_st (fun t k => XS.dload X0.here hx rfl (hb hby d1_1) rfl  k) ?_
    show own_Go p e below G (s₁.setTop (mkF m 3 #[rv r, iv n1, own_dv (FP.l2d c1), .second, iv n2, own_dv (FP.l2d c2), .second] [(.double (FP.l2d c2)), (.double (FP.l2d c1))]))
    refine own_st (fun t k => XS.dcmpS X0.here hx rfl (hb hby d1_3) rfl (dcmpV_w (own_b53 b1) (own_b53 b2) _) k) ?_
    show own_Go p e below G (s₁.setTop (mkF m 4 #[rv r, iv n1, own_dv (FP.l2d c1), .second, iv n2, own_dv (FP.l2d c2), .second] [(.int (lcmpW c1 c2))]))
    by_cases c4_5 : c1 < c2
    · skip
      refine own_st (fun t k => XS.ifYes X0.here hx rfl (pc0 := 4) (pc' := 46) rfl (hb hby d1_4) rfl ((if0 _ _).trans (tlt ((lw_lt _ _).2 c4_5)).1) (by decide) (by decide) k) ?_
      show own_Go p e below G (s₁.setTop (mkF m 46 #[rv r, iv n1, own_dv (FP.l2d c1), .second, iv n2, own_dv (FP.l2d c2), .second] []))
      refine own_st (fun t k => XS.iconst X0.here hx rfl (hb hby d1_46) k) ?_
      show own_Go p e below G (s₁.setTop (mkF m 47 #[rv r, iv n1, own_dv (FP.l2d c1), .second, iv n2, own_dv (FP.l2d c2), .second] [(.int (1 : Int32))]))
      refine own_st (fun t k => XS.goto X0.here hx rfl (pc0 := 47) (pc' := 51) rfl (hb hby d1_47) (by decide) (by decide) k) ?_
      show own_Go p e below G (s₁.setTop (mkF m 51 #[rv r, iv n1, own_dv (FP.l2d c1), .second, iv n2, own_dv (FP.l2d c2), .second] [(.int (1 : Int32))]))
      rw [hG]
      exact own_retZ X0 hx hlk (t := .boolean) hret (by simp) (hb hby d1_51) ⟨⟨1, rfl, Or.inr rfl, fun _ => Int.le_of_lt (Int64.lt_iff_toInt_lt.mp c4_5), fun q => absurd q (by decide)⟩, rfl, e0⟩ (by decide) (by decide)
    · skip
      refine own_st (fun t k => XS.ifNo X0.here hx rfl (hb hby d1_4) rfl ((if0 _ _).trans (flt (fun q => c4_5 ((lw_lt _ _).1 q))).1) k) ?_
      show own_Go p e below G (s₁.setTop (mkF m 7 #[rv r, iv n1, own_dv (FP.l2d c1), .second, iv n2, own_dv (FP.l2d c2), .second] []))
      refine own_st (fun t k => XS.dloadN X0.here hx rfl (hb hby d1_7) rfl  k) ?_
      show own_Go p e below G (s₁.setTop (mkF m 8 #[rv r, iv n1, own_dv (FP.l2d c1), .second, iv n2, own_dv (FP.l2d c2), .second] [(.double (FP.l2d c1))]))
      refine own_st (fun t k => XS.dload X0.here hx rfl (hb hby d1_8) rfl  k) ?_
      show own_Go p e below G (s₁.setTop (mkF m 10 #[rv r, iv n1, own_dv (FP.l2d c1), .second, iv n2, own_dv (FP.l2d c2), .second] [(.double (FP.l2d c2)), (.double (FP.l2d c1))]))
      refine own_st (fun t k => XS.dcmpS X0.here hx rfl (hb hby d1_10) rfl (dcmpV_w (own_b53 b1) (own_b53 b2) _) k) ?_
      show own_Go p e below G (s₁.setTop (mkF m 11 #[rv r, iv n1, own_dv (FP.l2d c1), .second, iv n2, own_dv (FP.l2d c2), .second] [(.int (lcmpW c1 c2))]))
      by_cases c11_6 : c1 = c2
      · skip
        refine own_st (fun t k => XS.ifNo X0.here hx rfl (hb hby d1_11) rfl ((if0 _ _).trans (teq ((lw_eq _ _).2 c11_6)).2) k) ?_
        show own_Go p e below G (s₁.setTop (mkF m 14 #[rv r, iv n1, own_dv (FP.l2d c1), .second, iv n2, own_dv (FP.l2d c2), .second] []))
        refine own_st (fun t k => XS.aloadN X0.here hx rfl (hb hby d1_14) rfl rfl  k) ?_
        show own_Go p e below G (s₁.setTop (mkF m 15 #[rv r, iv n1, own_dv (FP.l2d c1), .second, iv n2, own_dv (FP.l2d c2), .second] [(.ref r)]))
        obtain ⟨T7, X7, e7, st7⟩ := getF X0 hx hZ hown (host := "") (Or.inl (hw _ (List.mem_of_getElem? (i := 15) rfl))) Via.refl e0 Fp (g := (mkF m 15 #[rv r, iv n1, own_dv (FP.l2d c1), .second, iv n2, own_dv (FP.l2d c2), .second] [(.ref r)])) rfl rfl (hb hby d1_15)
        refine own_st st7 ?_
        show own_Go p e below G (T7.setTop (mkF m 18 #[rv r, iv n1, own_dv (FP.l2d c1), .second, iv n2, own_dv (FP.l2d c2), .second] [(.ref pa)]))
        refine own_st (fun t k => XS.ifnonnullYes X7.here hx rfl (pc0 := 18) (pc' := 30) rfl (hb hby d1_18) rfl (by decide) (by decide) k) ?_
        show own_Go p e below G (T7.setTop (mkF m 30 #[rv r, iv n1, own_dv (FP.l2d c1), .second, iv n2, own_dv (FP.l2d c2), .second] []))
        refine own_st (fun t k => XS.aloadN X7.here hx rfl (hb hby d1_30) rfl rfl  k) ?_
        show own_Go p e below G (T7.setTop (mkF m 31 #[rv r, iv n1, own_dv (FP.l2d c1), .second, iv n2, own_dv (FP.l2d c2), .second] [(.ref r)]))
        obtain ⟨T8, X8, e8, st8⟩ := getF X7 hx hZ hown (host := "") (Or.inl (hw _ (List.mem_of_getElem? (i := 15) rfl))) Via.refl e7 Fp (g := (mkF m 31 #[rv r, iv n1, own_dv (FP.l2d c1), .second, iv n2, own_dv (FP.l2d c2), .second] [(.ref r)])) rfl rfl (hb hby d1_31)
        refine own_st st8 ?_
        show own_Go p e below G (T8.setTop (mkF m 34 #[rv r, iv n1, own_dv (FP.l2d c1), .second, iv n2, own_dv (FP.l2d c2), .second] [(.ref pa)]))
        refine own_st (fun t k => XS.iloadN X8.here hx rfl (hb hby d1_34) rfl  k) ?_
        show own_Go p e below G (T8.setTop (mkF m 35 #[rv r, iv n1, own_dv (FP.l2d c1), .second, iv n2, own_dv (FP.l2d c2), .second] [(.int n1), (.ref pa)]))
        obtain ⟨q9, hq9⟩ := own_get4 (a := q0) (b := q1) (c := q2) (d := q3) n1.toNatClampNeg
        have Vc10 := Vp
        obtain ⟨cl10, Ar10, -, Sa10, -, Ha10, -⟩ := Vc10
        have hin10 : ¬ (n1 < 0 ∨ cl10.slots.size ≤ (n1).toNatClampNeg) := inb_of Sa10 (own_dr hn1)
        refine own_st (fun t k => X8.iaload hx (j := n1) (v := (.int q9)) (by rw [e8]; exact Ar10.1) (State.isArrayOf_alike hZ.alike Ar10.2.1) Ar10.2.2 hin10 (Ha10.at hin10 hq9) (g := (mkF m 35 #[rv r, iv n1, own_dv (FP.l2d c1), .second, iv n2, own_dv (FP.l2d c2), .second] [(.int n1), (.ref pa)])) rfl rfl (hb hby d1_35) t k) ?_
        show own_Go p e below G (T8.setTop (mkF m 36 #[rv r, iv n1, own_dv (FP.l2d c1), .second, iv n2, own_dv (FP.l2d c2), .second] [(.int q9)]))
        refine own_st (fun t k => XS.aloadN X8.here hx rfl (hb hby d1_36) rfl rfl  k) ?_
        show own_Go p e below G (T8.setTop (mkF m 37 #[rv r, iv n1, own_dv (FP.l2d c1), .second, iv n2, own_dv (FP.l2d c2), .second] [(.ref r), (.int q9)]))
        obtain ⟨T11, X11, e11, st11⟩ := getF X8 hx hZ hown (host := "") (Or.inl (hw _ (List.mem_of_getElem? (i := 15) rfl))) Via.refl e8 Fp (g := (mkF m 37 #[rv r, iv n1, own_dv (FP.l2d c1), .second, iv n2, own_dv (FP.l2d c2), .second] [(.ref r), (.int q9)])) rfl rfl (hb hby d1_37)
        refine own_st st11 ?_
        show own_Go p e below G (T11.setTop (mkF m 40 #[rv r, iv n1, own_dv (FP.l2d c1), .second, iv n2, own_dv (FP.l2d c2), .second] [(.ref pa), (.int q9)]))
        refine own_st (fun t k => XS.iload X11.here hx rfl (hb hby d1_40) rfl  k) ?_
        show own_Go p e below G (T11.setTop (mkF m 42 #[rv r, iv n1, own_dv (FP.l2d c1), .second, iv n2, own_dv (FP.l2d c2), .second] [(.int n2), (.ref pa), (.int q9)]))
        obtain ⟨q12, hq12⟩ := own_get4 (a := q0) (b := q1) (c := q2) (d := q3) n2.toNatClampNeg
        have Vc13 := Vp
        obtain ⟨cl13, Ar13, -, Sa13, -, Ha13, -⟩ := Vc13
        have hin13 : ¬ (n2 < 0 ∨ cl13.slots.size ≤ (n2).toNatClampNeg) := inb_of Sa13 (own_dr hn2)
        refine own_st (fun t k => X11.iaload hx (j := n2) (v := (.int q12)) (by rw [e11]; exact Ar13.1) (State.isArrayOf_alike hZ.alike Ar13.2.1) Ar13.2.2 hin13 (Ha13.at hin13 hq12) (g := (mkF m 42 #[rv r, iv n1, own_dv (FP.l2d c1), .second, iv n2, own_dv (FP.l2d c2), .second] [(.int n2), (.ref pa), (.int q9)])) rfl rfl (hb hby d1_42) t k) ?_
        show own_Go p e below G (T11.setTop (mkF m 43 #[rv r, iv n1, own_dv (FP.l2d c1), .second, iv n2, own_dv (FP.l2d c2), .second] [(.int q12), (.int q9)]))
        by_cases c43_14 : q9 < q12
        · skip
          refine own_st (fun t k => XS.icmpNo X11.here hx rfl (hb hby d1_43) rfl (tlt c43_14).2.1 k) ?_
          show own_Go p e below G (T11.setTop (mkF m 46 #[rv r, iv n1, own_dv (FP.l2d c1), .second, iv n2, own_dv (FP.l2d c2), .second] []))
          refine own_st (fun t k => XS.iconst X11.here hx rfl (hb hby d1_46) k) ?_
          show own_Go p e below G (T11.setTop (mkF m 47 #[rv r, iv n1, own_dv (FP.l2d c1), .second, iv n2, own_dv (FP.l2d c2), .second] [(.int (1 : Int32))]))
          refine own_st (fun t k => XS.goto X11.here hx rfl (pc0 := 47) (pc' := 51) rfl (hb hby d1_47) (by decide) (by decide) k) ?_
          show own_Go p e below G (T11.setTop (mkF m 51 #[rv r, iv n1, own_dv (FP.l2d c1), .second, iv n2, own_dv (FP.l2d c2), .second] [(.int (1 : Int32))]))
          rw [hG]
          exact own_retZ X11 hx hlk (t := .boolean) hret (by simp) (hb hby d1_51) ⟨⟨1, rfl, Or.inr rfl, fun _ => Int.le_of_eq (congrArg Int64.toInt c11_6), fun q => absurd q (by decide)⟩, rfl, e11⟩ (by decide) (by decide)
        · skip
          refine own_st (fun t k => XS.icmpYes X11.here hx rfl (pc0 := 43) (pc' := 50) rfl (hb hby d1_43) rfl (flt c43_14).2.1 (by decide) (by decide) k) ?_
          show own_Go p e below G (T11.setTop (mkF m 50 #[rv r, iv n1, own_dv (FP.l2d c1), .second, iv n2, own_dv (FP.l2d c2), .second] []))
          refine own_st (fun t k => XS.iconst X11.here hx rfl (hb hby d1_50) k) ?_
          show own_Go p e below G (T11.setTop (mkF m 51 #[rv r, iv n1, own_dv (FP.l2d c1), .second, iv n2, own_dv (FP.l2d c2), .second] [(.int (0 : Int32))]))
          rw [hG]
          exact own_retZ X11 hx hlk (t := .boolean) hret (by simp) (hb hby d1_51) ⟨⟨0, rfl, Or.inl rfl, fun q => absurd q (by decide), fun _ => Int.not_lt.mp (fun q => c4_5 (Int64.lt_iff_toInt_lt.mpr q))⟩, rfl, e11⟩ (by decide) (by decide)
      · skip
        refine own_st (fun t k => XS.ifYes X0.here hx rfl (pc0 := 11) (pc' := 50) rfl (hb hby d1_11) rfl ((if0 _ _).trans (feq (fun q => c11_6 ((lw_eq _ _).1 q))).2) (by decide) (by decide) k) ?_
        show own_Go p e below G (s₁.setTop (mkF m 50 #[rv r, iv n1, own_dv (FP.l2d c1), .second, iv n2, own_dv (FP.l2d c2), .second] []))
        refine own_st (fun t k => XS.iconst X0.here hx rfl (hb hby d1_50) k) ?_
        show own_Go p e below G (s₁.setTop (mkF m 51 #[rv r, iv n1, own_dv (FP.l2d c1), .second, iv n2, own_dv (FP.l2d c2), .second] [(.int (0 : Int32))]))
        rw [hG]
        exact own_retZ X0 hx hlk (t := .boolean) hret (by simp) (hb hby d1_51) ⟨⟨0, rfl, Or.inl rfl, fun q => absurd q (by decide), fun _ => Int.not_lt.mp (fun q => c4_5 (Int64.lt_iff_toInt_lt.mpr q))⟩, rfl, e0⟩ (by decide) (by decide)
theorem d2_0 : decode prog_219_method_10_code 0 = .ok (.iconst 0, 1) := by decide +kernel
theorem d2_1 : decode prog_219_method_10_code 1 = .ok (.istore 5, 2) := by decide +kernel
theorem d2_3 : decode prog_219_method_10_code 3 = .ok (.iconst 2, 1) := by decide +kernel
theorem d2_4 : decode prog_219_method_10_code 4 = .ok (.iload 5, 2) := by decide +kernel
theorem d2_6 : decode prog_219_method_10_code 6 = .ok (.imul, 1) := by decide +kernel
theorem d2_7 : decode prog_219_method_10_code 7 = .ok (.iconst 1, 1) := by decide +kernel
theorem d2_8 : decode prog_219_method_10_code 8 = .ok (.iadd, 1) := by decide +kernel
theorem d2_9 : decode prog_219_method_10_code 9 = .ok (.iload 4, 2) := by decide +kernel
theorem d2_11 : decode prog_219_method_10_code 11 = .ok (.if_icmp .ge 123, 3) := by decide +kernel
theorem d2_14 : decode prog_219_method_10_code 14 = .ok (.iconst 2, 1) := by decide +kernel
theorem d2_15 : decode prog_219_method_10_code 15 = .ok (.iload 5, 2) := by decide +kernel
theorem d2_17 : decode prog_219_method_10_code 17 = .ok (.imul, 1) := by decide +kernel
theorem d2_18 : decode prog_219_method_10_code 18 = .ok (.iconst 1, 1) := by decide +kernel
theorem d2_19 : decode prog_219_method_10_code 19 = .ok (.iadd, 1) := by decide +kernel
theorem d2_20 : decode prog_219_method_10_code 20 = .ok (.istore 6, 2) := by decide +kernel
theorem d2_22 : decode prog_219_method_10_code 22 = .ok (.iload 6, 2) := by decide +kernel
theorem d2_24 : decode prog_219_method_10_code 24 = .ok (.iconst 1, 1) := by decide +kernel
theorem d2_25 : decode prog_219_method_10_code 25 = .ok (.iadd, 1) := by decide +kernel
theorem d2_26 : decode prog_219_method_10_code 26 = .ok (.iload 4, 2) := by decide +kernel
theorem d2_28 : decode prog_219_method_10_code 28 = .ok (.if_icmp .ge 45, 3) := by decide +kernel
theorem d2_31 : decode prog_219_method_10_code 31 = .ok (.aload_n 0, 1) := by decide +kernel
theorem d2_32 : decode prog_219_method_10_code 32 = .ok (.aload_n 0, 1) := by decide +kernel
theorem d2_33 : decode prog_219_method_10_code 33 = .ok (.getfield 12, 3) := by decide +kernel
theorem d2_36 : decode prog_219_method_10_code 36 = .ok (.iload 6, 2) := by decide +kernel
theorem d2_38 : decode prog_219_method_10_code 38 = .ok (.iconst 1, 1) := by decide +kernel
theorem d2_39 : decode prog_219_method_10_code 39 = .ok (.iadd, 1) := by decide +kernel
theorem d2_40 : decode prog_219_method_10_code 40 = .ok (.iaload, 1) := by decide +kernel
theorem d2_41 : decode prog_219_method_10_code 41 = .ok (.aload_n 0, 1) := by decide +kernel
theorem d2_42 : decode prog_219_method_10_code 42 = .ok (.getfield 16, 3) := by decide +kernel
theorem d2_45 : decode prog_219_method_10_code 45 = .ok (.iload 6, 2) := by decide +kernel
theorem d2_47 : decode prog_219_method_10_code 47 = .ok (.iconst 1, 1) := by decide +kernel
theorem d2_48 : decode prog_219_method_10_code 48 = .ok (.iadd, 1) := by decide +kernel
theorem d2_49 : decode prog_219_method_10_code 49 = .ok (.daload, 1) := by decide +kernel
theorem d2_50 : decode prog_219_method_10_code 50 = .ok (.aload_n 0, 1) := by decide +kernel
theorem d2_51 : decode prog_219_method_10_code 51 = .ok (.getfield 12, 3) := by decide +kernel
theorem d2_54 : decode prog_219_method_10_code 54 = .ok (.iload 6, 2) := by decide +kernel
theorem d2_56 : decode prog_219_method_10_code 56 = .ok (.iaload, 1) := by decide +kernel
theorem d2_57 : decode prog_219_method_10_code 57 = .ok (.aload_n 0, 1) := by decide +kernel
theorem d2_58 : decode prog_219_method_10_code 58 = .ok (.getfield 16, 3) := by decide +kernel
theorem d2_61 : decode prog_219_method_10_code 61 = .ok (.iload 6, 2) := by decide +kernel
theorem d2_63 : decode prog_219_method_10_code 63 = .ok (.daload, 1) := by decide +kernel
theorem d2_64 : decode prog_219_method_10_code 64 = .ok (.invokevirtual 33, 3) := by decide +kernel
theorem d2_67 : decode prog_219_method_10_code 67 = .ok (.ifCond .eq 6, 3) := by decide +kernel
theorem d2_70 : decode prog_219_method_10_code 70 = .ok (.iinc 6 1, 3) := by decide +kernel
theorem d2_73 : decode prog_219_method_10_code 73 = .ok (.aload_n 0, 1) := by decide +kernel
theorem d2_74 : decode prog_219_method_10_code 74 = .ok (.aload_n 0, 1) := by decide +kernel
theorem d2_75 : decode prog_219_method_10_code 75 = .ok (.getfield 12, 3) := by decide +kernel
theorem d2_78 : decode prog_219_method_10_code 78 = .ok (.iload 6, 2) := by decide +kernel
theorem d2_80 : decode prog_219_method_10_code 80 = .ok (.iaload, 1) := by decide +kernel
theorem d2_81 : decode prog_219_method_10_code 81 = .ok (.aload_n 0, 1) := by decide +kernel
theorem d2_82 : decode prog_219_method_10_code 82 = .ok (.getfield 16, 3) := by decide +kernel
theorem d2_85 : decode prog_219_method_10_code 85 = .ok (.iload 6, 2) := by decide +kernel
theorem d2_87 : decode prog_219_method_10_code 87 = .ok (.daload, 1) := by decide +kernel
theorem d2_88 : decode prog_219_method_10_code 88 = .ok (.iload_n 1, 1) := by decide +kernel
theorem d2_89 : decode prog_219_method_10_code 89 = .ok (.dload_n 2, 1) := by decide +kernel
theorem d2_90 : decode prog_219_method_10_code 90 = .ok (.invokevirtual 33, 3) := by decide +kernel
theorem d2_93 : decode prog_219_method_10_code 93 = .ok (.ifCond .ne 6, 3) := by decide +kernel
theorem d2_96 : decode prog_219_method_10_code 96 = .ok (.goto 38, 3) := by decide +kernel
theorem d2_99 : decode prog_219_method_10_code 99 = .ok (.aload_n 0, 1) := by decide +kernel
theorem d2_100 : decode prog_219_method_10_code 100 = .ok (.getfield 12, 3) := by decide +kernel
theorem d2_103 : decode prog_219_method_10_code 103 = .ok (.iload 5, 2) := by decide +kernel
theorem d2_105 : decode prog_219_method_10_code 105 = .ok (.aload_n 0, 1) := by decide +kernel
theorem d2_106 : decode prog_219_method_10_code 106 = .ok (.getfield 12, 3) := by decide +kernel
theorem d2_109 : decode prog_219_method_10_code 109 = .ok (.iload 6, 2) := by decide +kernel
theorem d2_111 : decode prog_219_method_10_code 111 = .ok (.iaload, 1) := by decide +kernel
theorem d2_112 : decode prog_219_method_10_code 112 = .ok (.iastore, 1) := by decide +kernel
theorem d2_113 : decode prog_219_method_10_code 113 = .ok (.aload_n 0, 1) := by decide +kernel
theorem d2_114 : decode prog_219_method_10_code 114 = .ok (.getfield 16, 3) := by decide +kernel
theorem d2_117 : decode prog_219_method_10_code 117 = .ok (.iload 5, 2) := by decide +kernel
theorem d2_119 : decode prog_219_method_10_code 119 = .ok (.aload_n 0, 1) := by decide +kernel
theorem d2_120 : decode prog_219_method_10_code 120 = .ok (.getfield 16, 3) := by decide +kernel
theorem d2_123 : decode prog_219_method_10_code 123 = .ok (.iload 6, 2) := by decide +kernel
theorem d2_125 : decode prog_219_method_10_code 125 = .ok (.daload, 1) := by decide +kernel
theorem d2_126 : decode prog_219_method_10_code 126 = .ok (.dastore, 1) := by decide +kernel
theorem d2_127 : decode prog_219_method_10_code 127 = .ok (.iload 6, 2) := by decide +kernel
theorem d2_129 : decode prog_219_method_10_code 129 = .ok (.istore 5, 2) := by decide +kernel
theorem d2_131 : decode prog_219_method_10_code 131 = .ok (.goto (-128), 3) := by decide +kernel
theorem d2_134 : decode prog_219_method_10_code 134 = .ok (.aload_n 0, 1) := by decide +kernel
theorem d2_135 : decode prog_219_method_10_code 135 = .ok (.getfield 12, 3) := by decide +kernel
theorem d2_138 : decode prog_219_method_10_code 138 = .ok (.iload 5, 2) := by decide +kernel
theorem d2_140 : decode prog_219_method_10_code 140 = .ok (.iload_n 1, 1) := by decide +kernel
theorem d2_141 : decode prog_219_method_10_code 141 = .ok (.iastore, 1) := by decide +kernel
theorem d2_142 : decode prog_219_method_10_code 142 = .ok (.aload_n 0, 1) := by decide +kernel
theorem d2_143 : decode prog_219_method_10_code 143 = .ok (.getfield 16, 3) := by decide +kernel
theorem d2_146 : decode prog_219_method_10_code 146 = .ok (.iload 5, 2) := by decide +kernel
theorem d2_148 : decode prog_219_method_10_code 148 = .ok (.dload_n 2, 1) := by decide +kernel
theorem d2_149 : decode prog_219_method_10_code 149 = .ok (.dastore, 1) := by decide +kernel
theorem d2_150 : decode prog_219_method_10_code 150 = .ok (.return_, 1) := by decide +kernel
theorem pn_rmS1 : plainFor (⟨"com/example/thinleaf/thinleaf/prune/Nearest", "sink", "(IDI)V"⟩ : MethodName) = true := by decide +kernel
theorem ef_rmS1 (m : MethodId) (x0 : Addr) (x1 : Int32) (x2 : UInt64) (x3 : Int32) : entryFrame m #[(.ref x0), (.int x1), (.double x2), (.int x3)] 7 = mkF m 0 #[rv x0, iv x1, own_dv x2, .second, iv x3, .unset, .unset] [] := by first | (simp [entryFrame, mkF, argsToLocals, Value.category]; done) | rfl
set_option maxRecDepth 65536 in
set_option maxHeartbeats 40000000 in
theorem rmS1 (l : Launch) (Z : State) (a0 : Array Value) (hw : ∀ d ∈ tables_1, d.before a0 Z = true) (r bn bc : Addr) (kn kc : ClassId) (pv : Value) (num : Int32) (v : Int64) (m0 : Int32) (c0 : Int64) (h0 : Heap) (n0 : Nat) (NB : own_NE Z h0 n0 r bn bc kn kc pv (1 : Int32) (1 : Int32) [(.int m0)] [(.double (FP.l2d c0))]) (hm0 : own_d m0) (hc0 : own_b c0) (hnum : own_d num) (hv : own_b v) :
    own_Met l Z (⟨"com/example/thinleaf/thinleaf/prune/Nearest", "sink", "(IDI)V"⟩ : MethodName) prog_219_method_10_code 7 none [] ({ frames := 1, cells := 0, slots := 0, locals := 18 } : Room) #[(.ref r), (.int num), (.double (FP.l2d v)), (.int (1 : Int32))] h0 (fun z h L => z = none ∧ Fr n0 L ∧ ∃ (p0 : Int32) (d0 : Int64), own_NE Z h n0 r bn bc kn kc pv (1 : Int32) (1 : Int32) [(.int p0)] [(.double (FP.l2d d0))] ∧ own_d p0 ∧ own_b d0 ∧ own_S1 c0 v d0) := by
  refine own_body pn_rmS1 ?_
  intro p e s m below meth c s₁ hx hby hml hown hnm hret hlk hZ X0 e0 G hG
  replace hml : c.maxLocals = 7 := hml
  replace hown : s.vm.findClass "com/example/thinleaf/thinleaf/prune/Nearest" = some m.cls := hown
  rw [ef_rmS1]
  obtain ⟨E_r, F_numbers_r, F_cosines_r, F_places_r, F_size_r, V_bn, V_bc, Pl, nrn, nrc, nnc, g_r, g_bn, g_bc, Z0⟩ := NB
  have N0 := Fr.nil n0
  show own_Go p e below G (s₁.setTop (mkF m 0 #[rv r, iv num, own_dv (FP.l2d v), .second, iv 1, .unset, .unset] []))
  refine own_st (fun t k => XS.iconst X0.here hx rfl (hb hby d2_0) k) ?_
  refine own_st (fun t k => XS.istore X0.here hx rfl (hb hby d2_1) rfl (l' := #[rv r, iv num, own_dv (FP.l2d v), .second, iv 1, iv 0, .unset]) rfl k) ?_
  refine own_st (fun t k => XS.iconst X0.here hx rfl (hb hby d2_3) k) ?_
  show own_Go p e below G (s₁.setTop (mkF m 4 #[rv r, iv num, own_dv (FP.l2d v), .second, iv 1, iv 0, .unset] [(.int (2 : Int32))]))
  refine own_st (fun t k => XS.iload X0.here hx rfl (hb hby d2_4) rfl  k) ?_
  refine own_st (fun t k => XS.imul X0.here hx rfl (hb hby d2_6) rfl k) ?_
  refine own_st (fun t k => XS.iconst X0.here hx rfl (hb hby d2_7) k) ?_
  show own_Go p e below G (s₁.setTop (mkF m 8 #[rv r, iv num, own_dv (FP.l2d v), .second, iv 1, iv 0, .unset] [(.int (1 : Int32)), (.int (0 : Int32))]))
  refine own_st (fun t k => XS.iadd X0.here hx rfl (hb hby d2_8) rfl k) ?_
  refine own_st (fun t k => XS.iload X0.here hx rfl (hb hby d2_9) rfl  k) ?_
  show own_Go p e below G (s₁.setTop (mkF m 11 #[rv r, iv num, own_dv (FP.l2d v), .second, iv 1, iv 0, .unset] [(.int (1 : Int32)), (.int (1 : Int32))]))
  refine own_st (fun t k => XS.icmpYes X0.here hx rfl (pc0 := 11) (pc' := 134) rfl (hb hby d2_11) rfl (flt (by decide)).2.1 (by decide) (by decide) k) ?_
  show own_Go p e below G (s₁.setTop (mkF m 134 #[rv r, iv num, own_dv (FP.l2d v), .second, iv 1, iv 0, .unset] []))
  refine own_st (fun t k => XS.aloadN X0.here hx rfl (hb hby d2_134) rfl rfl  k) ?_
  show own_Go p e below G (s₁.setTop (mkF m 135 #[rv r, iv num, own_dv (FP.l2d v), .second, iv 1, iv 0, .unset] [(.ref r)]))
  obtain ⟨T1, X1, e1, st1⟩ := getF X0 hx hZ hown (host := "") (Or.inl (hw _ (List.mem_of_getElem? (i := 10) rfl))) Via.refl e0 F_numbers_r (g := (mkF m 135 #[rv r, iv num, own_dv (FP.l2d v), .second, iv 1, iv 0, .unset] [(.ref r)])) rfl rfl (hb hby d2_135)
  refine own_st st1 ?_
  show own_Go p e below G (T1.setTop (mkF m 138 #[rv r, iv num, own_dv (FP.l2d v), .second, iv 1, iv 0, .unset] [(.ref bn)]))
  refine own_st (fun t k => XS.iload X1.here hx rfl (hb hby d2_138) rfl  k) ?_
  refine own_st (fun t k => XS.iloadN X1.here hx rfl (hb hby d2_140) rfl  k) ?_
  show own_Go p e below G (T1.setTop (mkF m 141 #[rv r, iv num, own_dv (FP.l2d v), .second, iv 1, iv 0, .unset] [(.int num), (.int (0 : Int32)), (.ref bn)]))
  obtain ⟨cl2, Ar2, qa2, Sa2, Na2, Ha2, Ga2⟩ := V_bn
  have hin2 : ¬ ((0 : Int32) < 0 ∨ cl2.slots.size ≤ ((0 : Int32)).toNatClampNeg) := inb_of Sa2 ⟨by decide, by decide⟩
  obtain ⟨T2, h2, X2, e2, W2, st2⟩ := stI X1 hx hZ e1 Ar2 (j := (0 : Int32)) hin2 (g := (mkF m 141 #[rv r, iv num, own_dv (FP.l2d v), .second, iv 1, iv 0, .unset] [(.int num), (.int (0 : Int32)), (.ref bn)])) rfl rfl (hb hby d2_141)
  have V_bn : Arv Z h2 bn kn .int (1 : Int32) [(.int num)] (.int (0 : Int32)) := Arv.set Ar2 qa2 Sa2 Na2 Ha2 Ga2 rfl W2 0 rfl (Nat.le_of_ble_eq_true rfl)
  replace E_r := E_r.wr W2
  replace F_numbers_r := F_numbers_r.other W2 (Or.inl nrn)
  replace F_cosines_r := F_cosines_r.other W2 (Or.inl nrn)
  replace F_places_r := F_places_r.other W2 (Or.inl nrn)
  replace F_size_r := F_size_r.other W2 (Or.inl nrn)
  replace V_bc := V_bc.other W2 (Ne.symm nnc)
  replace Pl := own_PlW Pl W2 (List.mem_of_getElem? (i := 1) rfl)
  replace Z0 := Nat.le_trans Z0 (Keep.of_wr W2).1
  replace N0 := Fr.snoc X2 N0 g_bn
  refine own_st st2 ?_
  show own_Go p e below G (T2.setTop (mkF m 142 #[rv r, iv num, own_dv (FP.l2d v), .second, iv 1, iv 0, .unset] []))
  refine own_st (fun t k => XS.aloadN X2.here hx rfl (hb hby d2_142) rfl rfl  k) ?_
  show own_Go p e below G (T2.setTop (mkF m 143 #[rv r, iv num, own_dv (FP.l2d v), .second, iv 1, iv 0, .unset] [(.ref r)]))
  obtain ⟨T3, X3, e3, st3⟩ := getF X2 hx hZ hown (host := "") (Or.inl (hw _ (List.mem_of_getElem? (i := 13) rfl))) Via.refl e2 F_cosines_r (g := (mkF m 143 #[rv r, iv num, own_dv (FP.l2d v), .second, iv 1, iv 0, .unset] [(.ref r)])) rfl rfl (hb hby d2_143)
  refine own_st st3 ?_
  show own_Go p e below G (T3.setTop (mkF m 146 #[rv r, iv num, own_dv (FP.l2d v), .second, iv 1, iv 0, .unset] [(.ref bc)]))
  refine own_st (fun t k => XS.iload X3.here hx rfl (hb hby d2_146) rfl  k) ?_
  refine own_st (fun t k => XS.dloadN X3.here hx rfl (hb hby d2_148) rfl  k) ?_
  show own_Go p e below G (T3.setTop (mkF m 149 #[rv r, iv num, own_dv (FP.l2d v), .second, iv 1, iv 0, .unset] [(.double (FP.l2d v)), (.int (0 : Int32)), (.ref bc)]))
  obtain ⟨cl4, Ar4, qa4, Sa4, Na4, Ha4, Ga4⟩ := V_bc
  have hin4 : ¬ ((0 : Int32) < 0 ∨ cl4.slots.size ≤ ((0 : Int32)).toNatClampNeg) := inb_of Sa4 ⟨by decide, by decide⟩
  obtain ⟨T4, h4, X4, e4, W4, st4⟩ := stD X3 hx hZ e3 Ar4 (j := (0 : Int32)) hin4 (g := (mkF m 149 #[rv r, iv num, own_dv (FP.l2d v), .second, iv 1, iv 0, .unset] [(.double (FP.l2d v)), (.int (0 : Int32)), (.ref bc)])) rfl rfl (hb hby d2_149)
  have V_bc : Arv Z h4 bc kc .double (1 : Int32) [(.double (FP.l2d v))] (.double (0 : UInt64)) := Arv.set Ar4 qa4 Sa4 Na4 Ha4 Ga4 rfl W4 0 rfl (Nat.le_of_ble_eq_true rfl)
  replace E_r := E_r.wr W4
  replace F_numbers_r := F_numbers_r.other W4 (Or.inl nrc)
  replace F_cosines_r := F_cosines_r.other W4 (Or.inl nrc)
  replace F_places_r := F_places_r.other W4 (Or.inl nrc)
  replace F_size_r := F_size_r.other W4 (Or.inl nrc)
  replace V_bn := V_bn.other W4 nnc
  replace Pl := own_PlW Pl W4 (List.mem_of_getElem? (i := 2) rfl)
  replace Z0 := Nat.le_trans Z0 (Keep.of_wr W4).1
  replace N0 := Fr.snoc X4 N0 g_bc
  refine own_st st4 ?_
  show own_Go p e below G (T4.setTop (mkF m 150 #[rv r, iv num, own_dv (FP.l2d v), .second, iv 1, iv 0, .unset] []))
  rw [hG]
  exact own_retV X4 hx hlk hret (hb hby d2_150) (by rw [e4]; exact ⟨rfl, N0, num, v, ⟨E_r, F_numbers_r, F_cosines_r, F_places_r, F_size_r, V_bn, V_bc, Pl, nrn, nrc, nnc, g_r, g_bn, g_bc, Z0⟩, hnum, hv, rfl⟩) (by decide) (by decide)
theorem pn_rmS2 : plainFor (⟨"com/example/thinleaf/thinleaf/prune/Nearest", "sink", "(IDI)V"⟩ : MethodName) = true := by decide +kernel
theorem ef_rmS2 (m : MethodId) (x0 : Addr) (x1 : Int32) (x2 : UInt64) (x3 : Int32) : entryFrame m #[(.ref x0), (.int x1), (.double x2), (.int x3)] 7 = mkF m 0 #[rv x0, iv x1, own_dv x2, .second, iv x3, .unset, .unset] [] := by first | (simp [entryFrame, mkF, argsToLocals, Value.category]; done) | rfl
set_option maxRecDepth 65536 in
set_option maxHeartbeats 40000000 in
theorem rmS2 (l : Launch) (Z : State) (a0 : Array Value) (hw : ∀ d ∈ tables_1, d.before a0 Z = true) (r bn bc : Addr) (kn kc : ClassId) (pv : Value) (num : Int32) (v : Int64) (m0 m1 : Int32) (c0 c1 : Int64) (h0 : Heap) (n0 : Nat) (NB : own_NE Z h0 n0 r bn bc kn kc pv (2 : Int32) (2 : Int32) [(.int m0), (.int m1)] [(.double (FP.l2d c0)), (.double (FP.l2d c1))]) (hm0 : own_d m0) (hc0 : own_b c0) (hm1 : own_d m1) (hc1 : own_b c1) (hnum : own_d num) (hv : own_b v) :
    own_Met l Z (⟨"com/example/thinleaf/thinleaf/prune/Nearest", "sink", "(IDI)V"⟩ : MethodName) prog_219_method_10_code 7 none [] ({ frames := 1, cells := 0, slots := 0, locals := 18 } : Room) #[(.ref r), (.int num), (.double (FP.l2d v)), (.int (2 : Int32))] h0 (fun z h L => z = none ∧ Fr n0 L ∧ ∃ (p0 p1 : Int32) (d0 d1 : Int64), own_NE Z h n0 r bn bc kn kc pv (2 : Int32) (2 : Int32) [(.int p0), (.int p1)] [(.double (FP.l2d d0)), (.double (FP.l2d d1))] ∧ own_d p0 ∧ own_b d0 ∧ own_d p1 ∧ own_b d1 ∧ own_S2 c0 c1 v d0 d1) := by
  refine own_body pn_rmS2 ?_
  intro p e s m below meth c s₁ hx hby hml hown hnm hret hlk hZ X0 e0 G hG
  replace hml : c.maxLocals = 7 := hml
  replace hown : s.vm.findClass "com/example/thinleaf/thinleaf/prune/Nearest" = some m.cls := hown
  rw [ef_rmS2]
  obtain ⟨E_r, F_numbers_r, F_cosines_r, F_places_r, F_size_r, V_bn, V_bc, Pl, nrn, nrc, nnc, g_r, g_bn, g_bc, Z0⟩ := NB
  have N0 := Fr.nil n0
  show own_Go p e below G (s₁.setTop (mkF m 0 #[rv r, iv num, own_dv (FP.l2d v), .second, iv 2, .unset, .unset] []))
  refine own_st (fun t k => XS.iconst X0.here hx rfl (hb hby d2_0) k) ?_
  refine own_st (fun t k => XS.istore X0.here hx rfl (hb hby d2_1) rfl (l' := #[rv r, iv num, own_dv (FP.l2d v), .second, iv 2, iv 0, .unset]) rfl k) ?_
  refine own_st (fun t k => XS.iconst X0.here hx rfl (hb hby d2_3) k) ?_
  show own_Go p e below G (s₁.setTop (mkF m 4 #[rv r, iv num, own_dv (FP.l2d v), .second, iv 2, iv 0, .unset] [(.int (2 : Int32))]))
  refine own_st (fun t k => XS.iload X0.here hx rfl (hb hby d2_4) rfl  k) ?_
  refine own_st (fun t k => XS.imul X0.here hx rfl (hb hby d2_6) rfl k) ?_
  refine own_st (fun t k => XS.iconst X0.here hx rfl (hb hby d2_7) k) ?_
  show own_Go p e below G (s₁.setTop (mkF m 8 #[rv r, iv num, own_dv (FP.l2d v), .second, iv 2, iv 0, .unset] [(.int (1 : Int32)), (.int (0 : Int32))]))
  refine own_st (fun t k => XS.iadd X0.here hx rfl (hb hby d2_8) rfl k) ?_
  refine own_st (fun t k => XS.iload X0.here hx rfl (hb hby d2_9) rfl  k) ?_
  show own_Go p e below G (s₁.setTop (mkF m 11 #[rv r, iv num, own_dv (FP.l2d v), .second, iv 2, iv 0, .unset] [(.int (2 : Int32)), (.int (1 : Int32))]))
  refine own_st (fun t k => XS.icmpNo X0.here hx rfl (hb hby d2_11) rfl (tlt (by decide)).2.1 k) ?_
  show own_Go p e below G (s₁.setTop (mkF m 14 #[rv r, iv num, own_dv (FP.l2d v), .second, iv 2, iv 0, .unset] []))
  refine own_st (fun t k => XS.iconst X0.here hx rfl (hb hby d2_14) k) ?_
  refine own_st (fun t k => XS.iload X0.here hx rfl (hb hby d2_15) rfl  k) ?_
  refine own_st (fun t k => XS.imul X0.here hx rfl (hb hby d2_17) rfl k) ?_
  show own_Go p e below G (s₁.setTop (mkF m 18 #[rv r, iv num, own_dv (FP.l2d v), .second, iv 2, iv 0, .unset] [(.int (0 : Int32))]))
  refine own_st (fun t k => XS.iconst X0.here hx rfl (hb hby d2_18) k) ?_
  refine own_st (fun t k => XS.iadd X0.here hx rfl (hb hby d2_19) rfl k) ?_
  refine own_st (fun t k => XS.istore X0.here hx rfl (hb hby d2_20) rfl (l' := #[rv r, iv num, own_dv (FP.l2d v), .second, iv 2, iv 0, iv 1]) rfl k) ?_
  show own_Go p e below G (s₁.setTop (mkF m 22 #[rv r, iv num, own_dv (FP.l2d v), .second, iv 2, iv 0, iv 1] []))
  refine own_st (fun t k => XS.iload X0.here hx rfl (hb hby d2_22) rfl  k) ?_
  refine own_st (fun t k => XS.iconst X0.here hx rfl (hb hby d2_24) k) ?_
  refine own_st (fun t k => XS.iadd X0.here hx rfl (hb hby d2_25) rfl k) ?_
  show own_Go p e below G (s₁.setTop (mkF m 26 #[rv r, iv num, own_dv (FP.l2d v), .second, iv 2, iv 0, iv 1] [(.int (2 : Int32))]))
  refine own_st (fun t k => XS.iload X0.here hx rfl (hb hby d2_26) rfl  k) ?_
  show own_Go p e below G (s₁.setTop (mkF m 28 #[rv r, iv num, own_dv (FP.l2d v), .second, iv 2, iv 0, iv 1] [(.int (2 : Int32)), (.int (2 : Int32))]))
  refine own_st (fun t k => XS.icmpYes X0.here hx rfl (pc0 := 28) (pc' := 73) rfl (hb hby d2_28) rfl (flt (by decide)).2.1 (by decide) (by decide) k) ?_
  show own_Go p e below G (s₁.setTop (mkF m 73 #[rv r, iv num, own_dv (FP.l2d v), .second, iv 2, iv 0, iv 1] []))
  refine own_st (fun t k => XS.aloadN X0.here hx rfl (hb hby d2_73) rfl rfl  k) ?_
  refine own_st (fun t k => XS.aloadN X0.here hx rfl (hb hby d2_74) rfl rfl  k) ?_
  show own_Go p e below G (s₁.setTop (mkF m 75 #[rv r, iv num, own_dv (FP.l2d v), .second, iv 2, iv 0, iv 1] [(.ref r), (.ref r)]))
  obtain ⟨T1, X1, e1, st1⟩ := getF X0 hx hZ hown (host := "") (Or.inl (hw _ (List.mem_of_getElem? (i := 10) rfl))) Via.refl e0 F_numbers_r (g := (mkF m 75 #[rv r, iv num, own_dv (FP.l2d v), .second, iv 2, iv 0, iv 1] [(.ref r), (.ref r)])) rfl rfl (hb hby d2_75)
  refine own_st st1 ?_
  show own_Go p e below G (T1.setTop (mkF m 78 #[rv r, iv num, own_dv (FP.l2d v), .second, iv 2, iv 0, iv 1] [(.ref bn), (.ref r)]))
  refine own_st (fun t k => XS.iload X1.here hx rfl (hb hby d2_78) rfl  k) ?_
  show own_Go p e below G (T1.setTop (mkF m 80 #[rv r, iv num, own_dv (FP.l2d v), .second, iv 2, iv 0, iv 1] [(.int (1 : Int32)), (.ref bn), (.ref r)]))
  have Vc2 := V_bn
  obtain ⟨cl2, Ar2, -, Sa2, -, Ha2, -⟩ := Vc2
  have hin2 : ¬ ((1 : Int32) < 0 ∨ cl2.slots.size ≤ ((1 : Int32)).toNatClampNeg) := inb_of Sa2 ⟨by decide, by decide⟩
  refine own_st (fun t k => X1.iaload hx (j := (1 : Int32)) (v := (.int m1)) (by rw [e1]; exact Ar2.1) (State.isArrayOf_alike hZ.alike Ar2.2.1) Ar2.2.2 hin2 (Ha2.at hin2 rfl) (g := (mkF m 80 #[rv r, iv num, own_dv (FP.l2d v), .second, iv 2, iv 0, iv 1] [(.int (1 : Int32)), (.ref bn), (.ref r)])) rfl rfl (hb hby d2_80) t k) ?_
  show own_Go p e below G (T1.setTop (mkF m 81 #[rv r, iv num, own_dv (FP.l2d v), .second, iv 2, iv 0, iv 1] [(.int m1), (.ref r)]))
  refine own_st (fun t k => XS.aloadN X1.here hx rfl (hb hby d2_81) rfl rfl  k) ?_
  show own_Go p e below G (T1.setTop (mkF m 82 #[rv r, iv num, own_dv (FP.l2d v), .second, iv 2, iv 0, iv 1] [(.ref r), (.int m1), (.ref r)]))
  obtain ⟨T3, X3, e3, st3⟩ := getF X1 hx hZ hown (host := "") (Or.inl (hw _ (List.mem_of_getElem? (i := 13) rfl))) Via.refl e1 F_cosines_r (g := (mkF m 82 #[rv r, iv num, own_dv (FP.l2d v), .second, iv 2, iv 0, iv 1] [(.ref r), (.int m1), (.ref r)])) rfl rfl (hb hby d2_82)
  refine own_st st3 ?_
  show own_Go p e below G (T3.setTop (mkF m 85 #[rv r, iv num, own_dv (FP.l2d v), .second, iv 2, iv 0, iv 1] [(.ref bc), (.int m1), (.ref r)]))
  refine own_st (fun t k => XS.iload X3.here hx rfl (hb hby d2_85) rfl  k) ?_
  show own_Go p e below G (T3.setTop (mkF m 87 #[rv r, iv num, own_dv (FP.l2d v), .second, iv 2, iv 0, iv 1] [(.int (1 : Int32)), (.ref bc), (.int m1), (.ref r)]))
  have Vc4 := V_bc
  obtain ⟨cl4, Ar4, -, Sa4, -, Ha4, -⟩ := Vc4
  have hin4 : ¬ ((1 : Int32) < 0 ∨ cl4.slots.size ≤ ((1 : Int32)).toNatClampNeg) := inb_of Sa4 ⟨by decide, by decide⟩
  refine own_st (fun t k => X3.daload hx (j := (1 : Int32)) (v := (.double (FP.l2d c1))) (by rw [e3]; exact Ar4.1) (State.isArrayOf_alike hZ.alike Ar4.2.1) Ar4.2.2 hin4 (Ha4.at hin4 rfl) (g := (mkF m 87 #[rv r, iv num, own_dv (FP.l2d v), .second, iv 2, iv 0, iv 1] [(.int (1 : Int32)), (.ref bc), (.int m1), (.ref r)])) rfl rfl (hb hby d2_87) t k) ?_
  show own_Go p e below G (T3.setTop (mkF m 88 #[rv r, iv num, own_dv (FP.l2d v), .second, iv 2, iv 0, iv 1] [(.double (FP.l2d c1)), (.int m1), (.ref r)]))
  refine own_st (fun t k => XS.iloadN X3.here hx rfl (hb hby d2_88) rfl  k) ?_
  refine own_st (fun t k => XS.dloadN X3.here hx rfl (hb hby d2_89) rfl  k) ?_
  show own_Go p e below G (T3.setTop (mkF m 90 #[rv r, iv num, own_dv (FP.l2d v), .second, iv 2, iv 0, iv 1] [(.double (FP.l2d v)), (.int num), (.double (FP.l2d c1)), (.int m1), (.ref r)]))
  obtain ⟨v5, T5, L5, X5, Q5, st5⟩ := own_callP X3 hx hZ (y := (⟨"com/example/thinleaf/thinleaf/prune/Nearest", "below", "(IDID)Z"⟩ : MethodName)) hown (hw _ (List.mem_of_getElem? (i := 31) rfl)) (hw _ (List.mem_of_getElem? (i := 32) rfl)) (hw _ (List.mem_of_getElem? (i := 33) rfl)) (hw _ (List.mem_of_getElem? (i := 2) rfl)) (hw _ (List.mem_of_getElem? (i := 3) rfl)) (hw _ (List.mem_of_getElem? (i := 34) rfl)) (by decide) (W := 0) (rmB l Z a0 hw r m1 c1 num v pv _ h0 F_places_r Pl hc1 hv hm1 hnum) (by decide) (by decide) e3 E_r (g := (mkF m 90 #[rv r, iv num, own_dv (FP.l2d v), .second, iv 2, iv 0, iv 1] [(.double (FP.l2d v)), (.int num), (.double (FP.l2d c1)), (.int m1), (.ref r)])) rfl (by rw [hml]; rfl) (argsL := [(.int m1), (.double (FP.l2d c1)), (.int num), (.double (FP.l2d v))]) (rest := []) own_pd0 rfl rfl (by show 2 * 0 + _ ≤ _; exact Nat.le_of_eq rfl) (hb hby d2_90) rfl (by decide) (by decide)
  obtain ⟨⟨q5, rfl, hq5, ht5, hf5⟩, rfl, e5⟩ := Q5
  simp only [List.append_nil, Nat.add_zero] at X5
  refine own_st st5 ?_
  show own_Go p e below G (T5.setTop (mkF m 93 #[rv r, iv num, own_dv (FP.l2d v), .second, iv 2, iv 0, iv 1] [(.int q5)]))
  by_cases c93_6 : q5 = (0 : Int32)
  · skip
    refine own_st (fun t k => XS.ifNo X5.here hx rfl (hb hby d2_93) rfl ((if0 _ _).trans (teq c93_6).2) k) ?_
    show own_Go p e below G (T5.setTop (mkF m 96 #[rv r, iv num, own_dv (FP.l2d v), .second, iv 2, iv 0, iv 1] []))
    refine own_st (fun t k => XS.goto X5.here hx rfl (pc0 := 96) (pc' := 134) rfl (hb hby d2_96) (by decide) (by decide) k) ?_
    refine own_st (fun t k => XS.aloadN X5.here hx rfl (hb hby d2_134) rfl rfl  k) ?_
    show own_Go p e below G (T5.setTop (mkF m 135 #[rv r, iv num, own_dv (FP.l2d v), .second, iv 2, iv 0, iv 1] [(.ref r)]))
    obtain ⟨T7, X7, e7, st7⟩ := getF X5 hx hZ hown (host := "") (Or.inl (hw _ (List.mem_of_getElem? (i := 10) rfl))) Via.refl e5 F_numbers_r (g := (mkF m 135 #[rv r, iv num, own_dv (FP.l2d v), .second, iv 2, iv 0, iv 1] [(.ref r)])) rfl rfl (hb hby d2_135)
    refine own_st st7 ?_
    show own_Go p e below G (T7.setTop (mkF m 138 #[rv r, iv num, own_dv (FP.l2d v), .second, iv 2, iv 0, iv 1] [(.ref bn)]))
    refine own_st (fun t k => XS.iload X7.here hx rfl (hb hby d2_138) rfl  k) ?_
    refine own_st (fun t k => XS.iloadN X7.here hx rfl (hb hby d2_140) rfl  k) ?_
    show own_Go p e below G (T7.setTop (mkF m 141 #[rv r, iv num, own_dv (FP.l2d v), .second, iv 2, iv 0, iv 1] [(.int num), (.int (0 : Int32)), (.ref bn)]))
    obtain ⟨cl8, Ar8, qa8, Sa8, Na8, Ha8, Ga8⟩ := V_bn
    have hin8 : ¬ ((0 : Int32) < 0 ∨ cl8.slots.size ≤ ((0 : Int32)).toNatClampNeg) := inb_of Sa8 ⟨by decide, by decide⟩
    obtain ⟨T8, h8, X8, e8, W8, st8⟩ := stI X7 hx hZ e7 Ar8 (j := (0 : Int32)) hin8 (g := (mkF m 141 #[rv r, iv num, own_dv (FP.l2d v), .second, iv 2, iv 0, iv 1] [(.int num), (.int (0 : Int32)), (.ref bn)])) rfl rfl (hb hby d2_141)
    have V_bn : Arv Z h8 bn kn .int (2 : Int32) [(.int num), (.int m1)] (.int (0 : Int32)) := Arv.set Ar8 qa8 Sa8 Na8 Ha8 Ga8 rfl W8 0 rfl (Nat.le_of_ble_eq_true rfl)
    replace E_r := E_r.wr W8
    replace F_numbers_r := F_numbers_r.other W8 (Or.inl nrn)
    replace F_cosines_r := F_cosines_r.other W8 (Or.inl nrn)
    replace F_places_r := F_places_r.other W8 (Or.inl nrn)
    replace F_size_r := F_size_r.other W8 (Or.inl nrn)
    replace V_bc := V_bc.other W8 (Ne.symm nnc)
    replace Pl := own_PlW Pl W8 (List.mem_of_getElem? (i := 1) rfl)
    replace Z0 := Nat.le_trans Z0 (Keep.of_wr W8).1
    replace N0 := Fr.snoc X8 N0 g_bn
    refine own_st st8 ?_
    show own_Go p e below G (T8.setTop (mkF m 142 #[rv r, iv num, own_dv (FP.l2d v), .second, iv 2, iv 0, iv 1] []))
    refine own_st (fun t k => XS.aloadN X8.here hx rfl (hb hby d2_142) rfl rfl  k) ?_
    show own_Go p e below G (T8.setTop (mkF m 143 #[rv r, iv num, own_dv (FP.l2d v), .second, iv 2, iv 0, iv 1] [(.ref r)]))
    obtain ⟨T9, X9, e9, st9⟩ := getF X8 hx hZ hown (host := "") (Or.inl (hw _ (List.mem_of_getElem? (i := 13) rfl))) Via.refl e8 F_cosines_r (g := (mkF m 143 #[rv r, iv num, own_dv (FP.l2d v), .second, iv 2, iv 0, iv 1] [(.ref r)])) rfl rfl (hb hby d2_143)
    refine own_st st9 ?_
    show own_Go p e below G (T9.setTop (mkF m 146 #[rv r, iv num, own_dv (FP.l2d v), .second, iv 2, iv 0, iv 1] [(.ref bc)]))
    refine own_st (fun t k => XS.iload X9.here hx rfl (hb hby d2_146) rfl  k) ?_
    refine own_st (fun t k => XS.dloadN X9.here hx rfl (hb hby d2_148) rfl  k) ?_
    show own_Go p e below G (T9.setTop (mkF m 149 #[rv r, iv num, own_dv (FP.l2d v), .second, iv 2, iv 0, iv 1] [(.double (FP.l2d v)), (.int (0 : Int32)), (.ref bc)]))
    obtain ⟨cl10, Ar10, qa10, Sa10, Na10, Ha10, Ga10⟩ := V_bc
    have hin10 : ¬ ((0 : Int32) < 0 ∨ cl10.slots.size ≤ ((0 : Int32)).toNatClampNeg) := inb_of Sa10 ⟨by decide, by decide⟩
    obtain ⟨T10, h10, X10, e10, W10, st10⟩ := stD X9 hx hZ e9 Ar10 (j := (0 : Int32)) hin10 (g := (mkF m 149 #[rv r, iv num, own_dv (FP.l2d v), .second, iv 2, iv 0, iv 1] [(.double (FP.l2d v)), (.int (0 : Int32)), (.ref bc)])) rfl rfl (hb hby d2_149)
    have V_bc : Arv Z h10 bc kc .double (2 : Int32) [(.double (FP.l2d v)), (.double (FP.l2d c1))] (.double (0 : UInt64)) := Arv.set Ar10 qa10 Sa10 Na10 Ha10 Ga10 rfl W10 0 rfl (Nat.le_of_ble_eq_true rfl)
    replace E_r := E_r.wr W10
    replace F_numbers_r := F_numbers_r.other W10 (Or.inl nrc)
    replace F_cosines_r := F_cosines_r.other W10 (Or.inl nrc)
    replace F_places_r := F_places_r.other W10 (Or.inl nrc)
    replace F_size_r := F_size_r.other W10 (Or.inl nrc)
    replace V_bn := V_bn.other W10 nnc
    replace Pl := own_PlW Pl W10 (List.mem_of_getElem? (i := 2) rfl)
    replace Z0 := Nat.le_trans Z0 (Keep.of_wr W10).1
    replace N0 := Fr.snoc X10 N0 g_bc
    refine own_st st10 ?_
    show own_Go p e below G (T10.setTop (mkF m 150 #[rv r, iv num, own_dv (FP.l2d v), .second, iv 2, iv 0, iv 1] []))
    rw [hG]
    exact own_retV X10 hx hlk hret (hb hby d2_150) (by rw [e10]; exact ⟨rfl, N0, num, m1, v, c1, ⟨E_r, F_numbers_r, F_cosines_r, F_places_r, F_size_r, V_bn, V_bc, Pl, nrn, nrc, nnc, g_r, g_bn, g_bc, Z0⟩, hnum, hv, hm1, hc1, Or.inr ⟨(hf5 c93_6), rfl, rfl⟩⟩) (by decide) (by decide)
  · skip
    refine own_st (fun t k => XS.ifYes X5.here hx rfl (pc0 := 93) (pc' := 99) rfl (hb hby d2_93) rfl ((if0 _ _).trans (feq c93_6).2) (by decide) (by decide) k) ?_
    show own_Go p e below G (T5.setTop (mkF m 99 #[rv r, iv num, own_dv (FP.l2d v), .second, iv 2, iv 0, iv 1] []))
    refine own_st (fun t k => XS.aloadN X5.here hx rfl (hb hby d2_99) rfl rfl  k) ?_
    show own_Go p e below G (T5.setTop (mkF m 100 #[rv r, iv num, own_dv (FP.l2d v), .second, iv 2, iv 0, iv 1] [(.ref r)]))
    obtain ⟨T11, X11, e11, st11⟩ := getF X5 hx hZ hown (host := "") (Or.inl (hw _ (List.mem_of_getElem? (i := 10) rfl))) Via.refl e5 F_numbers_r (g := (mkF m 100 #[rv r, iv num, own_dv (FP.l2d v), .second, iv 2, iv 0, iv 1] [(.ref r)])) rfl rfl (hb hby d2_100)
    refine own_st st11 ?_
    show own_Go p e below G (T11.setTop (mkF m 103 #[rv r, iv num, own_dv (FP.l2d v), .second, iv 2, iv 0, iv 1] [(.ref bn)]))
    refine own_st (fun t k => XS.iload X11.here hx rfl (hb hby d2_103) rfl  k) ?_
    refine own_st (fun t k => XS.aloadN X11.here hx rfl (hb hby d2_105) rfl rfl  k) ?_
    show own_Go p e below G (T11.setTop (mkF m 106 #[rv r, iv num, own_dv (FP.l2d v), .second, iv 2, iv 0, iv 1] [(.ref r), (.int (0 : Int32)), (.ref bn)]))
    obtain ⟨T12, X12, e12, st12⟩ := getF X11 hx hZ hown (host := "") (Or.inl (hw _ (List.mem_of_getElem? (i := 10) rfl))) Via.refl e11 F_numbers_r (g := (mkF m 106 #[rv r, iv num, own_dv (FP.l2d v), .second, iv 2, iv 0, iv 1] [(.ref r), (.int (0 : Int32)), (.ref bn)])) rfl rfl (hb hby d2_106)
    refine own_st st12 ?_
    show own_Go p e below G (T12.setTop (mkF m 109 #[rv r, iv num, own_dv (FP.l2d v), .second, iv 2, iv 0, iv 1] [(.ref bn), (.int (0 : Int32)), (.ref bn)]))
    refine own_st (fun t k => XS.iload X12.here hx rfl (hb hby d2_109) rfl  k) ?_
    show own_Go p e below G (T12.setTop (mkF m 111 #[rv r, iv num, own_dv (FP.l2d v), .second, iv 2, iv 0, iv 1] [(.int (1 : Int32)), (.ref bn), (.int (0 : Int32)), (.ref bn)]))
    have Vc13 := V_bn
    obtain ⟨cl13, Ar13, -, Sa13, -, Ha13, -⟩ := Vc13
    have hin13 : ¬ ((1 : Int32) < 0 ∨ cl13.slots.size ≤ ((1 : Int32)).toNatClampNeg) := inb_of Sa13 ⟨by decide, by decide⟩
    refine own_st (fun t k => X12.iaload hx (j := (1 : Int32)) (v := (.int m1)) (by rw [e12]; exact Ar13.1) (State.isArrayOf_alike hZ.alike Ar13.2.1) Ar13.2.2 hin13 (Ha13.at hin13 rfl) (g := (mkF m 111 #[rv r, iv num, own_dv (FP.l2d v), .second, iv 2, iv 0, iv 1] [(.int (1 : Int32)), (.ref bn), (.int (0 : Int32)), (.ref bn)])) rfl rfl (hb hby d2_111) t k) ?_
    show own_Go p e below G (T12.setTop (mkF m 112 #[rv r, iv num, own_dv (FP.l2d v), .second, iv 2, iv 0, iv 1] [(.int m1), (.int (0 : Int32)), (.ref bn)]))
    obtain ⟨cl14, Ar14, qa14, Sa14, Na14, Ha14, Ga14⟩ := V_bn
    have hin14 : ¬ ((0 : Int32) < 0 ∨ cl14.slots.size ≤ ((0 : Int32)).toNatClampNeg) := inb_of Sa14 ⟨by decide, by decide⟩
    obtain ⟨T14, h14, X14, e14, W14, st14⟩ := stI X12 hx hZ e12 Ar14 (j := (0 : Int32)) hin14 (g := (mkF m 112 #[rv r, iv num, own_dv (FP.l2d v), .second, iv 2, iv 0, iv 1] [(.int m1), (.int (0 : Int32)), (.ref bn)])) rfl rfl (hb hby d2_112)
    have V_bn : Arv Z h14 bn kn .int (2 : Int32) [(.int m1), (.int m1)] (.int (0 : Int32)) := Arv.set Ar14 qa14 Sa14 Na14 Ha14 Ga14 rfl W14 0 rfl (Nat.le_of_ble_eq_true rfl)
    replace E_r := E_r.wr W14
    replace F_numbers_r := F_numbers_r.other W14 (Or.inl nrn)
    replace F_cosines_r := F_cosines_r.other W14 (Or.inl nrn)
    replace F_places_r := F_places_r.other W14 (Or.inl nrn)
    replace F_size_r := F_size_r.other W14 (Or.inl nrn)
    replace V_bc := V_bc.other W14 (Ne.symm nnc)
    replace Pl := own_PlW Pl W14 (List.mem_of_getElem? (i := 1) rfl)
    replace Z0 := Nat.le_trans Z0 (Keep.of_wr W14).1
    replace N0 := Fr.snoc X14 N0 g_bn
    refine own_st st14 ?_
    show own_Go p e below G (T14.setTop (mkF m 113 #[rv r, iv num, own_dv (FP.l2d v), .second, iv 2, iv 0, iv 1] []))
    refine own_st (fun t k => XS.aloadN X14.here hx rfl (hb hby d2_113) rfl rfl  k) ?_
    show own_Go p e below G (T14.setTop (mkF m 114 #[rv r, iv num, own_dv (FP.l2d v), .second, iv 2, iv 0, iv 1] [(.ref r)]))
    obtain ⟨T15, X15, e15, st15⟩ := getF X14 hx hZ hown (host := "") (Or.inl (hw _ (List.mem_of_getElem? (i := 13) rfl))) Via.refl e14 F_cosines_r (g := (mkF m 114 #[rv r, iv num, own_dv (FP.l2d v), .second, iv 2, iv 0, iv 1] [(.ref r)])) rfl rfl (hb hby d2_114)
    refine own_st st15 ?_
    show own_Go p e below G (T15.setTop (mkF m 117 #[rv r, iv num, own_dv (FP.l2d v), .second, iv 2, iv 0, iv 1] [(.ref bc)]))
    refine own_st (fun t k => XS.iload X15.here hx rfl (hb hby d2_117) rfl  k) ?_
    refine own_st (fun t k => XS.aloadN X15.here hx rfl (hb hby d2_119) rfl rfl  k) ?_
    show own_Go p e below G (T15.setTop (mkF m 120 #[rv r, iv num, own_dv (FP.l2d v), .second, iv 2, iv 0, iv 1] [(.ref r), (.int (0 : Int32)), (.ref bc)]))
    obtain ⟨T16, X16, e16, st16⟩ := getF X15 hx hZ hown (host := "") (Or.inl (hw _ (List.mem_of_getElem? (i := 13) rfl))) Via.refl e15 F_cosines_r (g := (mkF m 120 #[rv r, iv num, own_dv (FP.l2d v), .second, iv 2, iv 0, iv 1] [(.ref r), (.int (0 : Int32)), (.ref bc)])) rfl rfl (hb hby d2_120)
    refine own_st st16 ?_
    show own_Go p e below G (T16.setTop (mkF m 123 #[rv r, iv num, own_dv (FP.l2d v), .second, iv 2, iv 0, iv 1] [(.ref bc), (.int (0 : Int32)), (.ref bc)]))
    refine own_st (fun t k => XS.iload X16.here hx rfl (hb hby d2_123) rfl  k) ?_
    show own_Go p e below G (T16.setTop (mkF m 125 #[rv r, iv num, own_dv (FP.l2d v), .second, iv 2, iv 0, iv 1] [(.int (1 : Int32)), (.ref bc), (.int (0 : Int32)), (.ref bc)]))
    have Vc17 := V_bc
    obtain ⟨cl17, Ar17, -, Sa17, -, Ha17, -⟩ := Vc17
    have hin17 : ¬ ((1 : Int32) < 0 ∨ cl17.slots.size ≤ ((1 : Int32)).toNatClampNeg) := inb_of Sa17 ⟨by decide, by decide⟩
    refine own_st (fun t k => X16.daload hx (j := (1 : Int32)) (v := (.double (FP.l2d c1))) (by rw [e16]; exact Ar17.1) (State.isArrayOf_alike hZ.alike Ar17.2.1) Ar17.2.2 hin17 (Ha17.at hin17 rfl) (g := (mkF m 125 #[rv r, iv num, own_dv (FP.l2d v), .second, iv 2, iv 0, iv 1] [(.int (1 : Int32)), (.ref bc), (.int (0 : Int32)), (.ref bc)])) rfl rfl (hb hby d2_125) t k) ?_
    show own_Go p e below G (T16.setTop (mkF m 126 #[rv r, iv num, own_dv (FP.l2d v), .second, iv 2, iv 0, iv 1] [(.double (FP.l2d c1)), (.int (0 : Int32)), (.ref bc)]))
    obtain ⟨cl18, Ar18, qa18, Sa18, Na18, Ha18, Ga18⟩ := V_bc
    have hin18 : ¬ ((0 : Int32) < 0 ∨ cl18.slots.size ≤ ((0 : Int32)).toNatClampNeg) := inb_of Sa18 ⟨by decide, by decide⟩
    obtain ⟨T18, h18, X18, e18, W18, st18⟩ := stD X16 hx hZ e16 Ar18 (j := (0 : Int32)) hin18 (g := (mkF m 126 #[rv r, iv num, own_dv (FP.l2d v), .second, iv 2, iv 0, iv 1] [(.double (FP.l2d c1)), (.int (0 : Int32)), (.ref bc)])) rfl rfl (hb hby d2_126)
    have V_bc : Arv Z h18 bc kc .double (2 : Int32) [(.double (FP.l2d c1)), (.double (FP.l2d c1))] (.double (0 : UInt64)) := Arv.set Ar18 qa18 Sa18 Na18 Ha18 Ga18 rfl W18 0 rfl (Nat.le_of_ble_eq_true rfl)
    replace E_r := E_r.wr W18
    replace F_numbers_r := F_numbers_r.other W18 (Or.inl nrc)
    replace F_cosines_r := F_cosines_r.other W18 (Or.inl nrc)
    replace F_places_r := F_places_r.other W18 (Or.inl nrc)
    replace F_size_r := F_size_r.other W18 (Or.inl nrc)
    replace V_bn := V_bn.other W18 nnc
    replace Pl := own_PlW Pl W18 (List.mem_of_getElem? (i := 2) rfl)
    replace Z0 := Nat.le_trans Z0 (Keep.of_wr W18).1
    replace N0 := Fr.snoc X18 N0 g_bc
    refine own_st st18 ?_
    show own_Go p e below G (T18.setTop (mkF m 127 #[rv r, iv num, own_dv (FP.l2d v), .second, iv 2, iv 0, iv 1] []))
    refine own_st (fun t k => XS.iload X18.here hx rfl (hb hby d2_127) rfl  k) ?_
    refine own_st (fun t k => XS.istore X18.here hx rfl (hb hby d2_129) rfl (l' := #[rv r, iv num, own_dv (FP.l2d v), .second, iv 2, iv 1, iv 1]) rfl k) ?_
    refine own_st (fun t k => XS.goto X18.here hx rfl (pc0 := 131) (pc' := 3) rfl (hb hby d2_131) (by decide) (by decide) k) ?_
    show own_Go p e below G (T18.setTop (mkF m 3 #[rv r, iv num, own_dv (FP.l2d v), .second, iv 2, iv 1, iv 1] []))
    refine own_st (fun t k => XS.iconst X18.here hx rfl (hb hby d2_3) k) ?_
    refine own_st (fun t k => XS.iload X18.here hx rfl (hb hby d2_4) rfl  k) ?_
    refine own_st (fun t k => XS.imul X18.here hx rfl (hb hby d2_6) rfl k) ?_
    show own_Go p e below G (T18.setTop (mkF m 7 #[rv r, iv num, own_dv (FP.l2d v), .second, iv 2, iv 1, iv 1] [(.int (2 : Int32))]))
    refine own_st (fun t k => XS.iconst X18.here hx rfl (hb hby d2_7) k) ?_
    refine own_st (fun t k => XS.iadd X18.here hx rfl (hb hby d2_8) rfl k) ?_
    refine own_st (fun t k => XS.iload X18.here hx rfl (hb hby d2_9) rfl  k) ?_
    show own_Go p e below G (T18.setTop (mkF m 11 #[rv r, iv num, own_dv (FP.l2d v), .second, iv 2, iv 1, iv 1] [(.int (2 : Int32)), (.int (3 : Int32))]))
    refine own_st (fun t k => XS.icmpYes X18.here hx rfl (pc0 := 11) (pc' := 134) rfl (hb hby d2_11) rfl (flt (by decide)).2.1 (by decide) (by decide) k) ?_
    show own_Go p e below G (T18.setTop (mkF m 134 #[rv r, iv num, own_dv (FP.l2d v), .second, iv 2, iv 1, iv 1] []))
    refine own_st (fun t k => XS.aloadN X18.here hx rfl (hb hby d2_134) rfl rfl  k) ?_
    show own_Go p e below G (T18.setTop (mkF m 135 #[rv r, iv num, own_dv (FP.l2d v), .second, iv 2, iv 1, iv 1] [(.ref r)]))
    obtain ⟨T19, X19, e19, st19⟩ := getF X18 hx hZ hown (host := "") (Or.inl (hw _ (List.mem_of_getElem? (i := 10) rfl))) Via.refl e18 F_numbers_r (g := (mkF m 135 #[rv r, iv num, own_dv (FP.l2d v), .second, iv 2, iv 1, iv 1] [(.ref r)])) rfl rfl (hb hby d2_135)
    refine own_st st19 ?_
    show own_Go p e below G (T19.setTop (mkF m 138 #[rv r, iv num, own_dv (FP.l2d v), .second, iv 2, iv 1, iv 1] [(.ref bn)]))
    refine own_st (fun t k => XS.iload X19.here hx rfl (hb hby d2_138) rfl  k) ?_
    refine own_st (fun t k => XS.iloadN X19.here hx rfl (hb hby d2_140) rfl  k) ?_
    show own_Go p e below G (T19.setTop (mkF m 141 #[rv r, iv num, own_dv (FP.l2d v), .second, iv 2, iv 1, iv 1] [(.int num), (.int (1 : Int32)), (.ref bn)]))
    obtain ⟨cl20, Ar20, qa20, Sa20, Na20, Ha20, Ga20⟩ := V_bn
    have hin20 : ¬ ((1 : Int32) < 0 ∨ cl20.slots.size ≤ ((1 : Int32)).toNatClampNeg) := inb_of Sa20 ⟨by decide, by decide⟩
    obtain ⟨T20, h20, X20, e20, W20, st20⟩ := stI X19 hx hZ e19 Ar20 (j := (1 : Int32)) hin20 (g := (mkF m 141 #[rv r, iv num, own_dv (FP.l2d v), .second, iv 2, iv 1, iv 1] [(.int num), (.int (1 : Int32)), (.ref bn)])) rfl rfl (hb hby d2_141)
    have V_bn : Arv Z h20 bn kn .int (2 : Int32) [(.int m1), (.int num)] (.int (0 : Int32)) := Arv.set Ar20 qa20 Sa20 Na20 Ha20 Ga20 rfl W20 1 rfl (Nat.le_of_ble_eq_true rfl)
    replace E_r := E_r.wr W20
    replace F_numbers_r := F_numbers_r.other W20 (Or.inl nrn)
    replace F_cosines_r := F_cosines_r.other W20 (Or.inl nrn)
    replace F_places_r := F_places_r.other W20 (Or.inl nrn)
    replace F_size_r := F_size_r.other W20 (Or.inl nrn)
    replace V_bc := V_bc.other W20 (Ne.symm nnc)
    replace Pl := own_PlW Pl W20 (List.mem_of_getElem? (i := 1) rfl)
    replace Z0 := Nat.le_trans Z0 (Keep.of_wr W20).1
    replace N0 := Fr.snoc X20 N0 g_bn
    refine own_st st20 ?_
    show own_Go p e below G (T20.setTop (mkF m 142 #[rv r, iv num, own_dv (FP.l2d v), .second, iv 2, iv 1, iv 1] []))
    refine own_st (fun t k => XS.aloadN X20.here hx rfl (hb hby d2_142) rfl rfl  k) ?_
    show own_Go p e below G (T20.setTop (mkF m 143 #[rv r, iv num, own_dv (FP.l2d v), .second, iv 2, iv 1, iv 1] [(.ref r)]))
    obtain ⟨T21, X21, e21, st21⟩ := getF X20 hx hZ hown (host := "") (Or.inl (hw _ (List.mem_of_getElem? (i := 13) rfl))) Via.refl e20 F_cosines_r (g := (mkF m 143 #[rv r, iv num, own_dv (FP.l2d v), .second, iv 2, iv 1, iv 1] [(.ref r)])) rfl rfl (hb hby d2_143)
    refine own_st st21 ?_
    show own_Go p e below G (T21.setTop (mkF m 146 #[rv r, iv num, own_dv (FP.l2d v), .second, iv 2, iv 1, iv 1] [(.ref bc)]))
    refine own_st (fun t k => XS.iload X21.here hx rfl (hb hby d2_146) rfl  k) ?_
    refine own_st (fun t k => XS.dloadN X21.here hx rfl (hb hby d2_148) rfl  k) ?_
    show own_Go p e below G (T21.setTop (mkF m 149 #[rv r, iv num, own_dv (FP.l2d v), .second, iv 2, iv 1, iv 1] [(.double (FP.l2d v)), (.int (1 : Int32)), (.ref bc)]))
    obtain ⟨cl22, Ar22, qa22, Sa22, Na22, Ha22, Ga22⟩ := V_bc
    have hin22 : ¬ ((1 : Int32) < 0 ∨ cl22.slots.size ≤ ((1 : Int32)).toNatClampNeg) := inb_of Sa22 ⟨by decide, by decide⟩
    obtain ⟨T22, h22, X22, e22, W22, st22⟩ := stD X21 hx hZ e21 Ar22 (j := (1 : Int32)) hin22 (g := (mkF m 149 #[rv r, iv num, own_dv (FP.l2d v), .second, iv 2, iv 1, iv 1] [(.double (FP.l2d v)), (.int (1 : Int32)), (.ref bc)])) rfl rfl (hb hby d2_149)
    have V_bc : Arv Z h22 bc kc .double (2 : Int32) [(.double (FP.l2d c1)), (.double (FP.l2d v))] (.double (0 : UInt64)) := Arv.set Ar22 qa22 Sa22 Na22 Ha22 Ga22 rfl W22 1 rfl (Nat.le_of_ble_eq_true rfl)
    replace E_r := E_r.wr W22
    replace F_numbers_r := F_numbers_r.other W22 (Or.inl nrc)
    replace F_cosines_r := F_cosines_r.other W22 (Or.inl nrc)
    replace F_places_r := F_places_r.other W22 (Or.inl nrc)
    replace F_size_r := F_size_r.other W22 (Or.inl nrc)
    replace V_bn := V_bn.other W22 nnc
    replace Pl := own_PlW Pl W22 (List.mem_of_getElem? (i := 2) rfl)
    replace Z0 := Nat.le_trans Z0 (Keep.of_wr W22).1
    replace N0 := Fr.snoc X22 N0 g_bc
    refine own_st st22 ?_
    show own_Go p e below G (T22.setTop (mkF m 150 #[rv r, iv num, own_dv (FP.l2d v), .second, iv 2, iv 1, iv 1] []))
    rw [hG]
    exact own_retV X22 hx hlk hret (hb hby d2_150) (by rw [e22]; exact ⟨rfl, N0, m1, num, c1, v, ⟨E_r, F_numbers_r, F_cosines_r, F_places_r, F_size_r, V_bn, V_bc, Pl, nrn, nrc, nnc, g_r, g_bn, g_bc, Z0⟩, hm1, hc1, hnum, hv, Or.inl ⟨(ht5 (hq5.resolve_left c93_6)), rfl, rfl⟩⟩) (by decide) (by decide)
theorem pn_rmS3 : plainFor (⟨"com/example/thinleaf/thinleaf/prune/Nearest", "sink", "(IDI)V"⟩ : MethodName) = true := by decide +kernel
theorem ef_rmS3 (m : MethodId) (x0 : Addr) (x1 : Int32) (x2 : UInt64) (x3 : Int32) : entryFrame m #[(.ref x0), (.int x1), (.double x2), (.int x3)] 7 = mkF m 0 #[rv x0, iv x1, own_dv x2, .second, iv x3, .unset, .unset] [] := by first | (simp [entryFrame, mkF, argsToLocals, Value.category]; done) | rfl
set_option maxRecDepth 65536 in
set_option maxHeartbeats 40000000 in
theorem rmS3 (l : Launch) (Z : State) (a0 : Array Value) (hw : ∀ d ∈ tables_1, d.before a0 Z = true) (r bn bc : Addr) (kn kc : ClassId) (pv : Value) (num : Int32) (v : Int64) (m0 m1 m2 : Int32) (c0 c1 c2 : Int64) (h0 : Heap) (n0 : Nat) (NB : own_NE Z h0 n0 r bn bc kn kc pv (3 : Int32) (3 : Int32) [(.int m0), (.int m1), (.int m2)] [(.double (FP.l2d c0)), (.double (FP.l2d c1)), (.double (FP.l2d c2))]) (hm0 : own_d m0) (hc0 : own_b c0) (hm1 : own_d m1) (hc1 : own_b c1) (hm2 : own_d m2) (hc2 : own_b c2) (hnum : own_d num) (hv : own_b v) :
    own_Met l Z (⟨"com/example/thinleaf/thinleaf/prune/Nearest", "sink", "(IDI)V"⟩ : MethodName) prog_219_method_10_code 7 none [] ({ frames := 1, cells := 0, slots := 0, locals := 18 } : Room) #[(.ref r), (.int num), (.double (FP.l2d v)), (.int (3 : Int32))] h0 (fun z h L => z = none ∧ Fr n0 L ∧ ∃ (p0 p1 p2 : Int32) (d0 d1 d2 : Int64), own_NE Z h n0 r bn bc kn kc pv (3 : Int32) (3 : Int32) [(.int p0), (.int p1), (.int p2)] [(.double (FP.l2d d0)), (.double (FP.l2d d1)), (.double (FP.l2d d2))] ∧ own_d p0 ∧ own_b d0 ∧ own_d p1 ∧ own_b d1 ∧ own_d p2 ∧ own_b d2 ∧ own_S3 c0 c1 c2 v d0 d1 d2) := by
  refine own_body pn_rmS3 ?_
  intro p e s m below meth c s₁ hx hby hml hown hnm hret hlk hZ X0 e0 G hG
  replace hml : c.maxLocals = 7 := hml
  replace hown : s.vm.findClass "com/example/thinleaf/thinleaf/prune/Nearest" = some m.cls := hown
  rw [ef_rmS3]
  obtain ⟨E_r, F_numbers_r, F_cosines_r, F_places_r, F_size_r, V_bn, V_bc, Pl, nrn, nrc, nnc, g_r, g_bn, g_bc, Z0⟩ := NB
  have N0 := Fr.nil n0
  show own_Go p e below G (s₁.setTop (mkF m 0 #[rv r, iv num, own_dv (FP.l2d v), .second, iv 3, .unset, .unset] []))
  refine own_st (fun t k => XS.iconst X0.here hx rfl (hb hby d2_0) k) ?_
  refine own_st (fun t k => XS.istore X0.here hx rfl (hb hby d2_1) rfl (l' := #[rv r, iv num, own_dv (FP.l2d v), .second, iv 3, iv 0, .unset]) rfl k) ?_
  refine own_st (fun t k => XS.iconst X0.here hx rfl (hb hby d2_3) k) ?_
  show own_Go p e below G (s₁.setTop (mkF m 4 #[rv r, iv num, own_dv (FP.l2d v), .second, iv 3, iv 0, .unset] [(.int (2 : Int32))]))
  refine own_st (fun t k => XS.iload X0.here hx rfl (hb hby d2_4) rfl  k) ?_
  refine own_st (fun t k => XS.imul X0.here hx rfl (hb hby d2_6) rfl k) ?_
  refine own_st (fun t k => XS.iconst X0.here hx rfl (hb hby d2_7) k) ?_
  show own_Go p e below G (s₁.setTop (mkF m 8 #[rv r, iv num, own_dv (FP.l2d v), .second, iv 3, iv 0, .unset] [(.int (1 : Int32)), (.int (0 : Int32))]))
  refine own_st (fun t k => XS.iadd X0.here hx rfl (hb hby d2_8) rfl k) ?_
  refine own_st (fun t k => XS.iload X0.here hx rfl (hb hby d2_9) rfl  k) ?_
  show own_Go p e below G (s₁.setTop (mkF m 11 #[rv r, iv num, own_dv (FP.l2d v), .second, iv 3, iv 0, .unset] [(.int (3 : Int32)), (.int (1 : Int32))]))
  refine own_st (fun t k => XS.icmpNo X0.here hx rfl (hb hby d2_11) rfl (tlt (by decide)).2.1 k) ?_
  show own_Go p e below G (s₁.setTop (mkF m 14 #[rv r, iv num, own_dv (FP.l2d v), .second, iv 3, iv 0, .unset] []))
  refine own_st (fun t k => XS.iconst X0.here hx rfl (hb hby d2_14) k) ?_
  refine own_st (fun t k => XS.iload X0.here hx rfl (hb hby d2_15) rfl  k) ?_
  refine own_st (fun t k => XS.imul X0.here hx rfl (hb hby d2_17) rfl k) ?_
  show own_Go p e below G (s₁.setTop (mkF m 18 #[rv r, iv num, own_dv (FP.l2d v), .second, iv 3, iv 0, .unset] [(.int (0 : Int32))]))
  refine own_st (fun t k => XS.iconst X0.here hx rfl (hb hby d2_18) k) ?_
  refine own_st (fun t k => XS.iadd X0.here hx rfl (hb hby d2_19) rfl k) ?_
  refine own_st (fun t k => XS.istore X0.here hx rfl (hb hby d2_20) rfl (l' := #[rv r, iv num, own_dv (FP.l2d v), .second, iv 3, iv 0, iv 1]) rfl k) ?_
  show own_Go p e below G (s₁.setTop (mkF m 22 #[rv r, iv num, own_dv (FP.l2d v), .second, iv 3, iv 0, iv 1] []))
  refine own_st (fun t k => XS.iload X0.here hx rfl (hb hby d2_22) rfl  k) ?_
  refine own_st (fun t k => XS.iconst X0.here hx rfl (hb hby d2_24) k) ?_
  refine own_st (fun t k => XS.iadd X0.here hx rfl (hb hby d2_25) rfl k) ?_
  show own_Go p e below G (s₁.setTop (mkF m 26 #[rv r, iv num, own_dv (FP.l2d v), .second, iv 3, iv 0, iv 1] [(.int (2 : Int32))]))
  refine own_st (fun t k => XS.iload X0.here hx rfl (hb hby d2_26) rfl  k) ?_
  show own_Go p e below G (s₁.setTop (mkF m 28 #[rv r, iv num, own_dv (FP.l2d v), .second, iv 3, iv 0, iv 1] [(.int (3 : Int32)), (.int (2 : Int32))]))
  refine own_st (fun t k => XS.icmpNo X0.here hx rfl (hb hby d2_28) rfl (tlt (by decide)).2.1 k) ?_
  show own_Go p e below G (s₁.setTop (mkF m 31 #[rv r, iv num, own_dv (FP.l2d v), .second, iv 3, iv 0, iv 1] []))
  refine own_st (fun t k => XS.aloadN X0.here hx rfl (hb hby d2_31) rfl rfl  k) ?_
  refine own_st (fun t k => XS.aloadN X0.here hx rfl (hb hby d2_32) rfl rfl  k) ?_
  show own_Go p e below G (s₁.setTop (mkF m 33 #[rv r, iv num, own_dv (FP.l2d v), .second, iv 3, iv 0, iv 1] [(.ref r), (.ref r)]))
  obtain ⟨T1, X1, e1, st1⟩ := getF X0 hx hZ hown (host := "") (Or.inl (hw _ (List.mem_of_getElem? (i := 10) rfl))) Via.refl e0 F_numbers_r (g := (mkF m 33 #[rv r, iv num, own_dv (FP.l2d v), .second, iv 3, iv 0, iv 1] [(.ref r), (.ref r)])) rfl rfl (hb hby d2_33)
  refine own_st st1 ?_
  show own_Go p e below G (T1.setTop (mkF m 36 #[rv r, iv num, own_dv (FP.l2d v), .second, iv 3, iv 0, iv 1] [(.ref bn), (.ref r)]))
  refine own_st (fun t k => XS.iload X1.here hx rfl (hb hby d2_36) rfl  k) ?_
  refine own_st (fun t k => XS.iconst X1.here hx rfl (hb hby d2_38) k) ?_
  refine own_st (fun t k => XS.iadd X1.here hx rfl (hb hby d2_39) rfl k) ?_
  show own_Go p e below G (T1.setTop (mkF m 40 #[rv r, iv num, own_dv (FP.l2d v), .second, iv 3, iv 0, iv 1] [(.int (2 : Int32)), (.ref bn), (.ref r)]))
  have Vc2 := V_bn
  obtain ⟨cl2, Ar2, -, Sa2, -, Ha2, -⟩ := Vc2
  have hin2 : ¬ ((2 : Int32) < 0 ∨ cl2.slots.size ≤ ((2 : Int32)).toNatClampNeg) := inb_of Sa2 ⟨by decide, by decide⟩
  refine own_st (fun t k => X1.iaload hx (j := (2 : Int32)) (v := (.int m2)) (by rw [e1]; exact Ar2.1) (State.isArrayOf_alike hZ.alike Ar2.2.1) Ar2.2.2 hin2 (Ha2.at hin2 rfl) (g := (mkF m 40 #[rv r, iv num, own_dv (FP.l2d v), .second, iv 3, iv 0, iv 1] [(.int (2 : Int32)), (.ref bn), (.ref r)])) rfl rfl (hb hby d2_40) t k) ?_
  show own_Go p e below G (T1.setTop (mkF m 41 #[rv r, iv num, own_dv (FP.l2d v), .second, iv 3, iv 0, iv 1] [(.int m2), (.ref r)]))
  refine own_st (fun t k => XS.aloadN X1.here hx rfl (hb hby d2_41) rfl rfl  k) ?_
  show own_Go p e below G (T1.setTop (mkF m 42 #[rv r, iv num, own_dv (FP.l2d v), .second, iv 3, iv 0, iv 1] [(.ref r), (.int m2), (.ref r)]))
  obtain ⟨T3, X3, e3, st3⟩ := getF X1 hx hZ hown (host := "") (Or.inl (hw _ (List.mem_of_getElem? (i := 13) rfl))) Via.refl e1 F_cosines_r (g := (mkF m 42 #[rv r, iv num, own_dv (FP.l2d v), .second, iv 3, iv 0, iv 1] [(.ref r), (.int m2), (.ref r)])) rfl rfl (hb hby d2_42)
  refine own_st st3 ?_
  show own_Go p e below G (T3.setTop (mkF m 45 #[rv r, iv num, own_dv (FP.l2d v), .second, iv 3, iv 0, iv 1] [(.ref bc), (.int m2), (.ref r)]))
  refine own_st (fun t k => XS.iload X3.here hx rfl (hb hby d2_45) rfl  k) ?_
  refine own_st (fun t k => XS.iconst X3.here hx rfl (hb hby d2_47) k) ?_
  refine own_st (fun t k => XS.iadd X3.here hx rfl (hb hby d2_48) rfl k) ?_
  show own_Go p e below G (T3.setTop (mkF m 49 #[rv r, iv num, own_dv (FP.l2d v), .second, iv 3, iv 0, iv 1] [(.int (2 : Int32)), (.ref bc), (.int m2), (.ref r)]))
  have Vc4 := V_bc
  obtain ⟨cl4, Ar4, -, Sa4, -, Ha4, -⟩ := Vc4
  have hin4 : ¬ ((2 : Int32) < 0 ∨ cl4.slots.size ≤ ((2 : Int32)).toNatClampNeg) := inb_of Sa4 ⟨by decide, by decide⟩
  refine own_st (fun t k => X3.daload hx (j := (2 : Int32)) (v := (.double (FP.l2d c2))) (by rw [e3]; exact Ar4.1) (State.isArrayOf_alike hZ.alike Ar4.2.1) Ar4.2.2 hin4 (Ha4.at hin4 rfl) (g := (mkF m 49 #[rv r, iv num, own_dv (FP.l2d v), .second, iv 3, iv 0, iv 1] [(.int (2 : Int32)), (.ref bc), (.int m2), (.ref r)])) rfl rfl (hb hby d2_49) t k) ?_
  show own_Go p e below G (T3.setTop (mkF m 50 #[rv r, iv num, own_dv (FP.l2d v), .second, iv 3, iv 0, iv 1] [(.double (FP.l2d c2)), (.int m2), (.ref r)]))
  refine own_st (fun t k => XS.aloadN X3.here hx rfl (hb hby d2_50) rfl rfl  k) ?_
  show own_Go p e below G (T3.setTop (mkF m 51 #[rv r, iv num, own_dv (FP.l2d v), .second, iv 3, iv 0, iv 1] [(.ref r), (.double (FP.l2d c2)), (.int m2), (.ref r)]))
  obtain ⟨T5, X5, e5, st5⟩ := getF X3 hx hZ hown (host := "") (Or.inl (hw _ (List.mem_of_getElem? (i := 10) rfl))) Via.refl e3 F_numbers_r (g := (mkF m 51 #[rv r, iv num, own_dv (FP.l2d v), .second, iv 3, iv 0, iv 1] [(.ref r), (.double (FP.l2d c2)), (.int m2), (.ref r)])) rfl rfl (hb hby d2_51)
  refine own_st st5 ?_
  show own_Go p e below G (T5.setTop (mkF m 54 #[rv r, iv num, own_dv (FP.l2d v), .second, iv 3, iv 0, iv 1] [(.ref bn), (.double (FP.l2d c2)), (.int m2), (.ref r)]))
  refine own_st (fun t k => XS.iload X5.here hx rfl (hb hby d2_54) rfl  k) ?_
  show own_Go p e below G (T5.setTop (mkF m 56 #[rv r, iv num, own_dv (FP.l2d v), .second, iv 3, iv 0, iv 1] [(.int (1 : Int32)), (.ref bn), (.double (FP.l2d c2)), (.int m2), (.ref r)]))
  have Vc6 := V_bn
  obtain ⟨cl6, Ar6, -, Sa6, -, Ha6, -⟩ := Vc6
  have hin6 : ¬ ((1 : Int32) < 0 ∨ cl6.slots.size ≤ ((1 : Int32)).toNatClampNeg) := inb_of Sa6 ⟨by decide, by decide⟩
  refine own_st (fun t k => X5.iaload hx (j := (1 : Int32)) (v := (.int m1)) (by rw [e5]; exact Ar6.1) (State.isArrayOf_alike hZ.alike Ar6.2.1) Ar6.2.2 hin6 (Ha6.at hin6 rfl) (g := (mkF m 56 #[rv r, iv num, own_dv (FP.l2d v), .second, iv 3, iv 0, iv 1] [(.int (1 : Int32)), (.ref bn), (.double (FP.l2d c2)), (.int m2), (.ref r)])) rfl rfl (hb hby d2_56) t k) ?_
  show own_Go p e below G (T5.setTop (mkF m 57 #[rv r, iv num, own_dv (FP.l2d v), .second, iv 3, iv 0, iv 1] [(.int m1), (.double (FP.l2d c2)), (.int m2), (.ref r)]))
  refine own_st (fun t k => XS.aloadN X5.here hx rfl (hb hby d2_57) rfl rfl  k) ?_
  show own_Go p e below G (T5.setTop (mkF m 58 #[rv r, iv num, own_dv (FP.l2d v), .second, iv 3, iv 0, iv 1] [(.ref r), (.int m1), (.double (FP.l2d c2)), (.int m2), (.ref r)]))
  obtain ⟨T7, X7, e7, st7⟩ := getF X5 hx hZ hown (host := "") (Or.inl (hw _ (List.mem_of_getElem? (i := 13) rfl))) Via.refl e5 F_cosines_r (g := (mkF m 58 #[rv r, iv num, own_dv (FP.l2d v), .second, iv 3, iv 0, iv 1] [(.ref r), (.int m1), (.double (FP.l2d c2)), (.int m2), (.ref r)])) rfl rfl (hb hby d2_58)
  refine own_st st7 ?_
  show own_Go p e below G (T7.setTop (mkF m 61 #[rv r, iv num, own_dv (FP.l2d v), .second, iv 3, iv 0, iv 1] [(.ref bc), (.int m1), (.double (FP.l2d c2)), (.int m2), (.ref r)]))
  refine own_st (fun t k => XS.iload X7.here hx rfl (hb hby d2_61) rfl  k) ?_
  show own_Go p e below G (T7.setTop (mkF m 63 #[rv r, iv num, own_dv (FP.l2d v), .second, iv 3, iv 0, iv 1] [(.int (1 : Int32)), (.ref bc), (.int m1), (.double (FP.l2d c2)), (.int m2), (.ref r)]))
  have Vc8 := V_bc
  obtain ⟨cl8, Ar8, -, Sa8, -, Ha8, -⟩ := Vc8
  have hin8 : ¬ ((1 : Int32) < 0 ∨ cl8.slots.size ≤ ((1 : Int32)).toNatClampNeg) := inb_of Sa8 ⟨by decide, by decide⟩
  refine own_st (fun t k => X7.daload hx (j := (1 : Int32)) (v := (.double (FP.l2d c1))) (by rw [e7]; exact Ar8.1) (State.isArrayOf_alike hZ.alike Ar8.2.1) Ar8.2.2 hin8 (Ha8.at hin8 rfl) (g := (mkF m 63 #[rv r, iv num, own_dv (FP.l2d v), .second, iv 3, iv 0, iv 1] [(.int (1 : Int32)), (.ref bc), (.int m1), (.double (FP.l2d c2)), (.int m2), (.ref r)])) rfl rfl (hb hby d2_63) t k) ?_
  show own_Go p e below G (T7.setTop (mkF m 64 #[rv r, iv num, own_dv (FP.l2d v), .second, iv 3, iv 0, iv 1] [(.double (FP.l2d c1)), (.int m1), (.double (FP.l2d c2)), (.int m2), (.ref r)]))
  obtain ⟨v9, T9, L9, X9, Q9, st9⟩ := own_callP X7 hx hZ (y := (⟨"com/example/thinleaf/thinleaf/prune/Nearest", "below", "(IDID)Z"⟩ : MethodName)) hown (hw _ (List.mem_of_getElem? (i := 31) rfl)) (hw _ (List.mem_of_getElem? (i := 32) rfl)) (hw _ (List.mem_of_getElem? (i := 33) rfl)) (hw _ (List.mem_of_getElem? (i := 2) rfl)) (hw _ (List.mem_of_getElem? (i := 3) rfl)) (hw _ (List.mem_of_getElem? (i := 34) rfl)) (by decide) (W := 0) (rmB l Z a0 hw r m2 c2 m1 c1 pv _ h0 F_places_r Pl hc2 hc1 hm2 hm1) (by decide) (by decide) e7 E_r (g := (mkF m 64 #[rv r, iv num, own_dv (FP.l2d v), .second, iv 3, iv 0, iv 1] [(.double (FP.l2d c1)), (.int m1), (.double (FP.l2d c2)), (.int m2), (.ref r)])) rfl (by rw [hml]; rfl) (argsL := [(.int m2), (.double (FP.l2d c2)), (.int m1), (.double (FP.l2d c1))]) (rest := []) own_pd0 rfl rfl (by show 2 * 0 + _ ≤ _; exact Nat.le_of_eq rfl) (hb hby d2_64) rfl (by decide) (by decide)
  obtain ⟨⟨q9, rfl, hq9, ht9, hf9⟩, rfl, e9⟩ := Q9
  simp only [List.append_nil, Nat.add_zero] at X9
  refine own_st st9 ?_
  show own_Go p e below G (T9.setTop (mkF m 67 #[rv r, iv num, own_dv (FP.l2d v), .second, iv 3, iv 0, iv 1] [(.int q9)]))
  by_cases c67_10 : q9 = (0 : Int32)
  · skip
    refine own_st (fun t k => XS.ifYes X9.here hx rfl (pc0 := 67) (pc' := 73) rfl (hb hby d2_67) rfl ((if0 _ _).trans (teq c67_10).1) (by decide) (by decide) k) ?_
    show own_Go p e below G (T9.setTop (mkF m 73 #[rv r, iv num, own_dv (FP.l2d v), .second, iv 3, iv 0, iv 1] []))
    refine own_st (fun t k => XS.aloadN X9.here hx rfl (hb hby d2_73) rfl rfl  k) ?_
    refine own_st (fun t k => XS.aloadN X9.here hx rfl (hb hby d2_74) rfl rfl  k) ?_
    show own_Go p e below G (T9.setTop (mkF m 75 #[rv r, iv num, own_dv (FP.l2d v), .second, iv 3, iv 0, iv 1] [(.ref r), (.ref r)]))
    obtain ⟨T11, X11, e11, st11⟩ := getF X9 hx hZ hown (host := "") (Or.inl (hw _ (List.mem_of_getElem? (i := 10) rfl))) Via.refl e9 F_numbers_r (g := (mkF m 75 #[rv r, iv num, own_dv (FP.l2d v), .second, iv 3, iv 0, iv 1] [(.ref r), (.ref r)])) rfl rfl (hb hby d2_75)
    refine own_st st11 ?_
    show own_Go p e below G (T11.setTop (mkF m 78 #[rv r, iv num, own_dv (FP.l2d v), .second, iv 3, iv 0, iv 1] [(.ref bn), (.ref r)]))
    refine own_st (fun t k => XS.iload X11.here hx rfl (hb hby d2_78) rfl  k) ?_
    show own_Go p e below G (T11.setTop (mkF m 80 #[rv r, iv num, own_dv (FP.l2d v), .second, iv 3, iv 0, iv 1] [(.int (1 : Int32)), (.ref bn), (.ref r)]))
    have Vc12 := V_bn
    obtain ⟨cl12, Ar12, -, Sa12, -, Ha12, -⟩ := Vc12
    have hin12 : ¬ ((1 : Int32) < 0 ∨ cl12.slots.size ≤ ((1 : Int32)).toNatClampNeg) := inb_of Sa12 ⟨by decide, by decide⟩
    refine own_st (fun t k => X11.iaload hx (j := (1 : Int32)) (v := (.int m1)) (by rw [e11]; exact Ar12.1) (State.isArrayOf_alike hZ.alike Ar12.2.1) Ar12.2.2 hin12 (Ha12.at hin12 rfl) (g := (mkF m 80 #[rv r, iv num, own_dv (FP.l2d v), .second, iv 3, iv 0, iv 1] [(.int (1 : Int32)), (.ref bn), (.ref r)])) rfl rfl (hb hby d2_80) t k) ?_
    show own_Go p e below G (T11.setTop (mkF m 81 #[rv r, iv num, own_dv (FP.l2d v), .second, iv 3, iv 0, iv 1] [(.int m1), (.ref r)]))
    refine own_st (fun t k => XS.aloadN X11.here hx rfl (hb hby d2_81) rfl rfl  k) ?_
    show own_Go p e below G (T11.setTop (mkF m 82 #[rv r, iv num, own_dv (FP.l2d v), .second, iv 3, iv 0, iv 1] [(.ref r), (.int m1), (.ref r)]))
    obtain ⟨T13, X13, e13, st13⟩ := getF X11 hx hZ hown (host := "") (Or.inl (hw _ (List.mem_of_getElem? (i := 13) rfl))) Via.refl e11 F_cosines_r (g := (mkF m 82 #[rv r, iv num, own_dv (FP.l2d v), .second, iv 3, iv 0, iv 1] [(.ref r), (.int m1), (.ref r)])) rfl rfl (hb hby d2_82)
    refine own_st st13 ?_
    show own_Go p e below G (T13.setTop (mkF m 85 #[rv r, iv num, own_dv (FP.l2d v), .second, iv 3, iv 0, iv 1] [(.ref bc), (.int m1), (.ref r)]))
    refine own_st (fun t k => XS.iload X13.here hx rfl (hb hby d2_85) rfl  k) ?_
    show own_Go p e below G (T13.setTop (mkF m 87 #[rv r, iv num, own_dv (FP.l2d v), .second, iv 3, iv 0, iv 1] [(.int (1 : Int32)), (.ref bc), (.int m1), (.ref r)]))
    have Vc14 := V_bc
    obtain ⟨cl14, Ar14, -, Sa14, -, Ha14, -⟩ := Vc14
    have hin14 : ¬ ((1 : Int32) < 0 ∨ cl14.slots.size ≤ ((1 : Int32)).toNatClampNeg) := inb_of Sa14 ⟨by decide, by decide⟩
    refine own_st (fun t k => X13.daload hx (j := (1 : Int32)) (v := (.double (FP.l2d c1))) (by rw [e13]; exact Ar14.1) (State.isArrayOf_alike hZ.alike Ar14.2.1) Ar14.2.2 hin14 (Ha14.at hin14 rfl) (g := (mkF m 87 #[rv r, iv num, own_dv (FP.l2d v), .second, iv 3, iv 0, iv 1] [(.int (1 : Int32)), (.ref bc), (.int m1), (.ref r)])) rfl rfl (hb hby d2_87) t k) ?_
    show own_Go p e below G (T13.setTop (mkF m 88 #[rv r, iv num, own_dv (FP.l2d v), .second, iv 3, iv 0, iv 1] [(.double (FP.l2d c1)), (.int m1), (.ref r)]))
    refine own_st (fun t k => XS.iloadN X13.here hx rfl (hb hby d2_88) rfl  k) ?_
    refine own_st (fun t k => XS.dloadN X13.here hx rfl (hb hby d2_89) rfl  k) ?_
    show own_Go p e below G (T13.setTop (mkF m 90 #[rv r, iv num, own_dv (FP.l2d v), .second, iv 3, iv 0, iv 1] [(.double (FP.l2d v)), (.int num), (.double (FP.l2d c1)), (.int m1), (.ref r)]))
    obtain ⟨v15, T15, L15, X15, Q15, st15⟩ := own_callP X13 hx hZ (y := (⟨"com/example/thinleaf/thinleaf/prune/Nearest", "below", "(IDID)Z"⟩ : MethodName)) hown (hw _ (List.mem_of_getElem? (i := 31) rfl)) (hw _ (List.mem_of_getElem? (i := 32) rfl)) (hw _ (List.mem_of_getElem? (i := 33) rfl)) (hw _ (List.mem_of_getElem? (i := 2) rfl)) (hw _ (List.mem_of_getElem? (i := 3) rfl)) (hw _ (List.mem_of_getElem? (i := 34) rfl)) (by decide) (W := 0) (rmB l Z a0 hw r m1 c1 num v pv _ h0 F_places_r Pl hc1 hv hm1 hnum) (by decide) (by decide) e13 E_r (g := (mkF m 90 #[rv r, iv num, own_dv (FP.l2d v), .second, iv 3, iv 0, iv 1] [(.double (FP.l2d v)), (.int num), (.double (FP.l2d c1)), (.int m1), (.ref r)])) rfl (by rw [hml]; rfl) (argsL := [(.int m1), (.double (FP.l2d c1)), (.int num), (.double (FP.l2d v))]) (rest := []) own_pd0 rfl rfl (by show 2 * 0 + _ ≤ _; exact Nat.le_of_eq rfl) (hb hby d2_90) rfl (by decide) (by decide)
    obtain ⟨⟨q15, rfl, hq15, ht15, hf15⟩, rfl, e15⟩ := Q15
    simp only [List.append_nil, Nat.add_zero] at X15
    refine own_st st15 ?_
    show own_Go p e below G (T15.setTop (mkF m 93 #[rv r, iv num, own_dv (FP.l2d v), .second, iv 3, iv 0, iv 1] [(.int q15)]))
    by_cases c93_16 : q15 = (0 : Int32)
    · skip
      refine own_st (fun t k => XS.ifNo X15.here hx rfl (hb hby d2_93) rfl ((if0 _ _).trans (teq c93_16).2) k) ?_
      show own_Go p e below G (T15.setTop (mkF m 96 #[rv r, iv num, own_dv (FP.l2d v), .second, iv 3, iv 0, iv 1] []))
      refine own_st (fun t k => XS.goto X15.here hx rfl (pc0 := 96) (pc' := 134) rfl (hb hby d2_96) (by decide) (by decide) k) ?_
      refine own_st (fun t k => XS.aloadN X15.here hx rfl (hb hby d2_134) rfl rfl  k) ?_
      show own_Go p e below G (T15.setTop (mkF m 135 #[rv r, iv num, own_dv (FP.l2d v), .second, iv 3, iv 0, iv 1] [(.ref r)]))
      obtain ⟨T17, X17, e17, st17⟩ := getF X15 hx hZ hown (host := "") (Or.inl (hw _ (List.mem_of_getElem? (i := 10) rfl))) Via.refl e15 F_numbers_r (g := (mkF m 135 #[rv r, iv num, own_dv (FP.l2d v), .second, iv 3, iv 0, iv 1] [(.ref r)])) rfl rfl (hb hby d2_135)
      refine own_st st17 ?_
      show own_Go p e below G (T17.setTop (mkF m 138 #[rv r, iv num, own_dv (FP.l2d v), .second, iv 3, iv 0, iv 1] [(.ref bn)]))
      refine own_st (fun t k => XS.iload X17.here hx rfl (hb hby d2_138) rfl  k) ?_
      refine own_st (fun t k => XS.iloadN X17.here hx rfl (hb hby d2_140) rfl  k) ?_
      show own_Go p e below G (T17.setTop (mkF m 141 #[rv r, iv num, own_dv (FP.l2d v), .second, iv 3, iv 0, iv 1] [(.int num), (.int (0 : Int32)), (.ref bn)]))
      obtain ⟨cl18, Ar18, qa18, Sa18, Na18, Ha18, Ga18⟩ := V_bn
      have hin18 : ¬ ((0 : Int32) < 0 ∨ cl18.slots.size ≤ ((0 : Int32)).toNatClampNeg) := inb_of Sa18 ⟨by decide, by decide⟩
      obtain ⟨T18, h18, X18, e18, W18, st18⟩ := stI X17 hx hZ e17 Ar18 (j := (0 : Int32)) hin18 (g := (mkF m 141 #[rv r, iv num, own_dv (FP.l2d v), .second, iv 3, iv 0, iv 1] [(.int num), (.int (0 : Int32)), (.ref bn)])) rfl rfl (hb hby d2_141)
      have V_bn : Arv Z h18 bn kn .int (3 : Int32) [(.int num), (.int m1), (.int m2)] (.int (0 : Int32)) := Arv.set Ar18 qa18 Sa18 Na18 Ha18 Ga18 rfl W18 0 rfl (Nat.le_of_ble_eq_true rfl)
      replace E_r := E_r.wr W18
      replace F_numbers_r := F_numbers_r.other W18 (Or.inl nrn)
      replace F_cosines_r := F_cosines_r.other W18 (Or.inl nrn)
      replace F_places_r := F_places_r.other W18 (Or.inl nrn)
      replace F_size_r := F_size_r.other W18 (Or.inl nrn)
      replace V_bc := V_bc.other W18 (Ne.symm nnc)
      replace Pl := own_PlW Pl W18 (List.mem_of_getElem? (i := 1) rfl)
      replace Z0 := Nat.le_trans Z0 (Keep.of_wr W18).1
      replace N0 := Fr.snoc X18 N0 g_bn
      refine own_st st18 ?_
      show own_Go p e below G (T18.setTop (mkF m 142 #[rv r, iv num, own_dv (FP.l2d v), .second, iv 3, iv 0, iv 1] []))
      refine own_st (fun t k => XS.aloadN X18.here hx rfl (hb hby d2_142) rfl rfl  k) ?_
      show own_Go p e below G (T18.setTop (mkF m 143 #[rv r, iv num, own_dv (FP.l2d v), .second, iv 3, iv 0, iv 1] [(.ref r)]))
      obtain ⟨T19, X19, e19, st19⟩ := getF X18 hx hZ hown (host := "") (Or.inl (hw _ (List.mem_of_getElem? (i := 13) rfl))) Via.refl e18 F_cosines_r (g := (mkF m 143 #[rv r, iv num, own_dv (FP.l2d v), .second, iv 3, iv 0, iv 1] [(.ref r)])) rfl rfl (hb hby d2_143)
      refine own_st st19 ?_
      show own_Go p e below G (T19.setTop (mkF m 146 #[rv r, iv num, own_dv (FP.l2d v), .second, iv 3, iv 0, iv 1] [(.ref bc)]))
      refine own_st (fun t k => XS.iload X19.here hx rfl (hb hby d2_146) rfl  k) ?_
      refine own_st (fun t k => XS.dloadN X19.here hx rfl (hb hby d2_148) rfl  k) ?_
      show own_Go p e below G (T19.setTop (mkF m 149 #[rv r, iv num, own_dv (FP.l2d v), .second, iv 3, iv 0, iv 1] [(.double (FP.l2d v)), (.int (0 : Int32)), (.ref bc)]))
      obtain ⟨cl20, Ar20, qa20, Sa20, Na20, Ha20, Ga20⟩ := V_bc
      have hin20 : ¬ ((0 : Int32) < 0 ∨ cl20.slots.size ≤ ((0 : Int32)).toNatClampNeg) := inb_of Sa20 ⟨by decide, by decide⟩
      obtain ⟨T20, h20, X20, e20, W20, st20⟩ := stD X19 hx hZ e19 Ar20 (j := (0 : Int32)) hin20 (g := (mkF m 149 #[rv r, iv num, own_dv (FP.l2d v), .second, iv 3, iv 0, iv 1] [(.double (FP.l2d v)), (.int (0 : Int32)), (.ref bc)])) rfl rfl (hb hby d2_149)
      have V_bc : Arv Z h20 bc kc .double (3 : Int32) [(.double (FP.l2d v)), (.double (FP.l2d c1)), (.double (FP.l2d c2))] (.double (0 : UInt64)) := Arv.set Ar20 qa20 Sa20 Na20 Ha20 Ga20 rfl W20 0 rfl (Nat.le_of_ble_eq_true rfl)
      replace E_r := E_r.wr W20
      replace F_numbers_r := F_numbers_r.other W20 (Or.inl nrc)
      replace F_cosines_r := F_cosines_r.other W20 (Or.inl nrc)
      replace F_places_r := F_places_r.other W20 (Or.inl nrc)
      replace F_size_r := F_size_r.other W20 (Or.inl nrc)
      replace V_bn := V_bn.other W20 nnc
      replace Pl := own_PlW Pl W20 (List.mem_of_getElem? (i := 2) rfl)
      replace Z0 := Nat.le_trans Z0 (Keep.of_wr W20).1
      replace N0 := Fr.snoc X20 N0 g_bc
      refine own_st st20 ?_
      show own_Go p e below G (T20.setTop (mkF m 150 #[rv r, iv num, own_dv (FP.l2d v), .second, iv 3, iv 0, iv 1] []))
      rw [hG]
      exact own_retV X20 hx hlk hret (hb hby d2_150) (by rw [e20]; exact ⟨rfl, N0, num, m1, m2, v, c1, c2, ⟨E_r, F_numbers_r, F_cosines_r, F_places_r, F_size_r, V_bn, V_bc, Pl, nrn, nrc, nnc, g_r, g_bn, g_bc, Z0⟩, hnum, hv, hm1, hc1, hm2, hc2, Or.inr (Or.inr (Or.inr ⟨(hf9 c67_10), (hf15 c93_16), rfl, rfl, rfl⟩))⟩) (by decide) (by decide)
    · skip
      refine own_st (fun t k => XS.ifYes X15.here hx rfl (pc0 := 93) (pc' := 99) rfl (hb hby d2_93) rfl ((if0 _ _).trans (feq c93_16).2) (by decide) (by decide) k) ?_
      show own_Go p e below G (T15.setTop (mkF m 99 #[rv r, iv num, own_dv (FP.l2d v), .second, iv 3, iv 0, iv 1] []))
      refine own_st (fun t k => XS.aloadN X15.here hx rfl (hb hby d2_99) rfl rfl  k) ?_
      show own_Go p e below G (T15.setTop (mkF m 100 #[rv r, iv num, own_dv (FP.l2d v), .second, iv 3, iv 0, iv 1] [(.ref r)]))
      obtain ⟨T21, X21, e21, st21⟩ := getF X15 hx hZ hown (host := "") (Or.inl (hw _ (List.mem_of_getElem? (i := 10) rfl))) Via.refl e15 F_numbers_r (g := (mkF m 100 #[rv r, iv num, own_dv (FP.l2d v), .second, iv 3, iv 0, iv 1] [(.ref r)])) rfl rfl (hb hby d2_100)
      refine own_st st21 ?_
      show own_Go p e below G (T21.setTop (mkF m 103 #[rv r, iv num, own_dv (FP.l2d v), .second, iv 3, iv 0, iv 1] [(.ref bn)]))
      refine own_st (fun t k => XS.iload X21.here hx rfl (hb hby d2_103) rfl  k) ?_
      refine own_st (fun t k => XS.aloadN X21.here hx rfl (hb hby d2_105) rfl rfl  k) ?_
      show own_Go p e below G (T21.setTop (mkF m 106 #[rv r, iv num, own_dv (FP.l2d v), .second, iv 3, iv 0, iv 1] [(.ref r), (.int (0 : Int32)), (.ref bn)]))
      obtain ⟨T22, X22, e22, st22⟩ := getF X21 hx hZ hown (host := "") (Or.inl (hw _ (List.mem_of_getElem? (i := 10) rfl))) Via.refl e21 F_numbers_r (g := (mkF m 106 #[rv r, iv num, own_dv (FP.l2d v), .second, iv 3, iv 0, iv 1] [(.ref r), (.int (0 : Int32)), (.ref bn)])) rfl rfl (hb hby d2_106)
      refine own_st st22 ?_
      show own_Go p e below G (T22.setTop (mkF m 109 #[rv r, iv num, own_dv (FP.l2d v), .second, iv 3, iv 0, iv 1] [(.ref bn), (.int (0 : Int32)), (.ref bn)]))
      refine own_st (fun t k => XS.iload X22.here hx rfl (hb hby d2_109) rfl  k) ?_
      show own_Go p e below G (T22.setTop (mkF m 111 #[rv r, iv num, own_dv (FP.l2d v), .second, iv 3, iv 0, iv 1] [(.int (1 : Int32)), (.ref bn), (.int (0 : Int32)), (.ref bn)]))
      have Vc23 := V_bn
      obtain ⟨cl23, Ar23, -, Sa23, -, Ha23, -⟩ := Vc23
      have hin23 : ¬ ((1 : Int32) < 0 ∨ cl23.slots.size ≤ ((1 : Int32)).toNatClampNeg) := inb_of Sa23 ⟨by decide, by decide⟩
      refine own_st (fun t k => X22.iaload hx (j := (1 : Int32)) (v := (.int m1)) (by rw [e22]; exact Ar23.1) (State.isArrayOf_alike hZ.alike Ar23.2.1) Ar23.2.2 hin23 (Ha23.at hin23 rfl) (g := (mkF m 111 #[rv r, iv num, own_dv (FP.l2d v), .second, iv 3, iv 0, iv 1] [(.int (1 : Int32)), (.ref bn), (.int (0 : Int32)), (.ref bn)])) rfl rfl (hb hby d2_111) t k) ?_
      show own_Go p e below G (T22.setTop (mkF m 112 #[rv r, iv num, own_dv (FP.l2d v), .second, iv 3, iv 0, iv 1] [(.int m1), (.int (0 : Int32)), (.ref bn)]))
      obtain ⟨cl24, Ar24, qa24, Sa24, Na24, Ha24, Ga24⟩ := V_bn
      have hin24 : ¬ ((0 : Int32) < 0 ∨ cl24.slots.size ≤ ((0 : Int32)).toNatClampNeg) := inb_of Sa24 ⟨by decide, by decide⟩
      obtain ⟨T24, h24, X24, e24, W24, st24⟩ := stI X22 hx hZ e22 Ar24 (j := (0 : Int32)) hin24 (g := (mkF m 112 #[rv r, iv num, own_dv (FP.l2d v), .second, iv 3, iv 0, iv 1] [(.int m1), (.int (0 : Int32)), (.ref bn)])) rfl rfl (hb hby d2_112)
      have V_bn : Arv Z h24 bn kn .int (3 : Int32) [(.int m1), (.int m1), (.int m2)] (.int (0 : Int32)) := Arv.set Ar24 qa24 Sa24 Na24 Ha24 Ga24 rfl W24 0 rfl (Nat.le_of_ble_eq_true rfl)
      replace E_r := E_r.wr W24
      replace F_numbers_r := F_numbers_r.other W24 (Or.inl nrn)
      replace F_cosines_r := F_cosines_r.other W24 (Or.inl nrn)
      replace F_places_r := F_places_r.other W24 (Or.inl nrn)
      replace F_size_r := F_size_r.other W24 (Or.inl nrn)
      replace V_bc := V_bc.other W24 (Ne.symm nnc)
      replace Pl := own_PlW Pl W24 (List.mem_of_getElem? (i := 1) rfl)
      replace Z0 := Nat.le_trans Z0 (Keep.of_wr W24).1
      replace N0 := Fr.snoc X24 N0 g_bn
      refine own_st st24 ?_
      show own_Go p e below G (T24.setTop (mkF m 113 #[rv r, iv num, own_dv (FP.l2d v), .second, iv 3, iv 0, iv 1] []))
      refine own_st (fun t k => XS.aloadN X24.here hx rfl (hb hby d2_113) rfl rfl  k) ?_
      show own_Go p e below G (T24.setTop (mkF m 114 #[rv r, iv num, own_dv (FP.l2d v), .second, iv 3, iv 0, iv 1] [(.ref r)]))
      obtain ⟨T25, X25, e25, st25⟩ := getF X24 hx hZ hown (host := "") (Or.inl (hw _ (List.mem_of_getElem? (i := 13) rfl))) Via.refl e24 F_cosines_r (g := (mkF m 114 #[rv r, iv num, own_dv (FP.l2d v), .second, iv 3, iv 0, iv 1] [(.ref r)])) rfl rfl (hb hby d2_114)
      refine own_st st25 ?_
      show own_Go p e below G (T25.setTop (mkF m 117 #[rv r, iv num, own_dv (FP.l2d v), .second, iv 3, iv 0, iv 1] [(.ref bc)]))
      refine own_st (fun t k => XS.iload X25.here hx rfl (hb hby d2_117) rfl  k) ?_
      refine own_st (fun t k => XS.aloadN X25.here hx rfl (hb hby d2_119) rfl rfl  k) ?_
      show own_Go p e below G (T25.setTop (mkF m 120 #[rv r, iv num, own_dv (FP.l2d v), .second, iv 3, iv 0, iv 1] [(.ref r), (.int (0 : Int32)), (.ref bc)]))
      obtain ⟨T26, X26, e26, st26⟩ := getF X25 hx hZ hown (host := "") (Or.inl (hw _ (List.mem_of_getElem? (i := 13) rfl))) Via.refl e25 F_cosines_r (g := (mkF m 120 #[rv r, iv num, own_dv (FP.l2d v), .second, iv 3, iv 0, iv 1] [(.ref r), (.int (0 : Int32)), (.ref bc)])) rfl rfl (hb hby d2_120)
      refine own_st st26 ?_
      show own_Go p e below G (T26.setTop (mkF m 123 #[rv r, iv num, own_dv (FP.l2d v), .second, iv 3, iv 0, iv 1] [(.ref bc), (.int (0 : Int32)), (.ref bc)]))
      refine own_st (fun t k => XS.iload X26.here hx rfl (hb hby d2_123) rfl  k) ?_
      show own_Go p e below G (T26.setTop (mkF m 125 #[rv r, iv num, own_dv (FP.l2d v), .second, iv 3, iv 0, iv 1] [(.int (1 : Int32)), (.ref bc), (.int (0 : Int32)), (.ref bc)]))
      have Vc27 := V_bc
      obtain ⟨cl27, Ar27, -, Sa27, -, Ha27, -⟩ := Vc27
      have hin27 : ¬ ((1 : Int32) < 0 ∨ cl27.slots.size ≤ ((1 : Int32)).toNatClampNeg) := inb_of Sa27 ⟨by decide, by decide⟩
      refine own_st (fun t k => X26.daload hx (j := (1 : Int32)) (v := (.double (FP.l2d c1))) (by rw [e26]; exact Ar27.1) (State.isArrayOf_alike hZ.alike Ar27.2.1) Ar27.2.2 hin27 (Ha27.at hin27 rfl) (g := (mkF m 125 #[rv r, iv num, own_dv (FP.l2d v), .second, iv 3, iv 0, iv 1] [(.int (1 : Int32)), (.ref bc), (.int (0 : Int32)), (.ref bc)])) rfl rfl (hb hby d2_125) t k) ?_
      show own_Go p e below G (T26.setTop (mkF m 126 #[rv r, iv num, own_dv (FP.l2d v), .second, iv 3, iv 0, iv 1] [(.double (FP.l2d c1)), (.int (0 : Int32)), (.ref bc)]))
      obtain ⟨cl28, Ar28, qa28, Sa28, Na28, Ha28, Ga28⟩ := V_bc
      have hin28 : ¬ ((0 : Int32) < 0 ∨ cl28.slots.size ≤ ((0 : Int32)).toNatClampNeg) := inb_of Sa28 ⟨by decide, by decide⟩
      obtain ⟨T28, h28, X28, e28, W28, st28⟩ := stD X26 hx hZ e26 Ar28 (j := (0 : Int32)) hin28 (g := (mkF m 126 #[rv r, iv num, own_dv (FP.l2d v), .second, iv 3, iv 0, iv 1] [(.double (FP.l2d c1)), (.int (0 : Int32)), (.ref bc)])) rfl rfl (hb hby d2_126)
      have V_bc : Arv Z h28 bc kc .double (3 : Int32) [(.double (FP.l2d c1)), (.double (FP.l2d c1)), (.double (FP.l2d c2))] (.double (0 : UInt64)) := Arv.set Ar28 qa28 Sa28 Na28 Ha28 Ga28 rfl W28 0 rfl (Nat.le_of_ble_eq_true rfl)
      replace E_r := E_r.wr W28
      replace F_numbers_r := F_numbers_r.other W28 (Or.inl nrc)
      replace F_cosines_r := F_cosines_r.other W28 (Or.inl nrc)
      replace F_places_r := F_places_r.other W28 (Or.inl nrc)
      replace F_size_r := F_size_r.other W28 (Or.inl nrc)
      replace V_bn := V_bn.other W28 nnc
      replace Pl := own_PlW Pl W28 (List.mem_of_getElem? (i := 2) rfl)
      replace Z0 := Nat.le_trans Z0 (Keep.of_wr W28).1
      replace N0 := Fr.snoc X28 N0 g_bc
      refine own_st st28 ?_
      show own_Go p e below G (T28.setTop (mkF m 127 #[rv r, iv num, own_dv (FP.l2d v), .second, iv 3, iv 0, iv 1] []))
      refine own_st (fun t k => XS.iload X28.here hx rfl (hb hby d2_127) rfl  k) ?_
      refine own_st (fun t k => XS.istore X28.here hx rfl (hb hby d2_129) rfl (l' := #[rv r, iv num, own_dv (FP.l2d v), .second, iv 3, iv 1, iv 1]) rfl k) ?_
      refine own_st (fun t k => XS.goto X28.here hx rfl (pc0 := 131) (pc' := 3) rfl (hb hby d2_131) (by decide) (by decide) k) ?_
      show own_Go p e below G (T28.setTop (mkF m 3 #[rv r, iv num, own_dv (FP.l2d v), .second, iv 3, iv 1, iv 1] []))
      refine own_st (fun t k => XS.iconst X28.here hx rfl (hb hby d2_3) k) ?_
      refine own_st (fun t k => XS.iload X28.here hx rfl (hb hby d2_4) rfl  k) ?_
      refine own_st (fun t k => XS.imul X28.here hx rfl (hb hby d2_6) rfl k) ?_
      show own_Go p e below G (T28.setTop (mkF m 7 #[rv r, iv num, own_dv (FP.l2d v), .second, iv 3, iv 1, iv 1] [(.int (2 : Int32))]))
      refine own_st (fun t k => XS.iconst X28.here hx rfl (hb hby d2_7) k) ?_
      refine own_st (fun t k => XS.iadd X28.here hx rfl (hb hby d2_8) rfl k) ?_
      refine own_st (fun t k => XS.iload X28.here hx rfl (hb hby d2_9) rfl  k) ?_
      show own_Go p e below G (T28.setTop (mkF m 11 #[rv r, iv num, own_dv (FP.l2d v), .second, iv 3, iv 1, iv 1] [(.int (3 : Int32)), (.int (3 : Int32))]))
      refine own_st (fun t k => XS.icmpYes X28.here hx rfl (pc0 := 11) (pc' := 134) rfl (hb hby d2_11) rfl (flt (by decide)).2.1 (by decide) (by decide) k) ?_
      show own_Go p e below G (T28.setTop (mkF m 134 #[rv r, iv num, own_dv (FP.l2d v), .second, iv 3, iv 1, iv 1] []))
      refine own_st (fun t k => XS.aloadN X28.here hx rfl (hb hby d2_134) rfl rfl  k) ?_
      show own_Go p e below G (T28.setTop (mkF m 135 #[rv r, iv num, own_dv (FP.l2d v), .second, iv 3, iv 1, iv 1] [(.ref r)]))
      obtain ⟨T29, X29, e29, st29⟩ := getF X28 hx hZ hown (host := "") (Or.inl (hw _ (List.mem_of_getElem? (i := 10) rfl))) Via.refl e28 F_numbers_r (g := (mkF m 135 #[rv r, iv num, own_dv (FP.l2d v), .second, iv 3, iv 1, iv 1] [(.ref r)])) rfl rfl (hb hby d2_135)
      refine own_st st29 ?_
      show own_Go p e below G (T29.setTop (mkF m 138 #[rv r, iv num, own_dv (FP.l2d v), .second, iv 3, iv 1, iv 1] [(.ref bn)]))
      refine own_st (fun t k => XS.iload X29.here hx rfl (hb hby d2_138) rfl  k) ?_
      refine own_st (fun t k => XS.iloadN X29.here hx rfl (hb hby d2_140) rfl  k) ?_
      show own_Go p e below G (T29.setTop (mkF m 141 #[rv r, iv num, own_dv (FP.l2d v), .second, iv 3, iv 1, iv 1] [(.int num), (.int (1 : Int32)), (.ref bn)]))
      obtain ⟨cl30, Ar30, qa30, Sa30, Na30, Ha30, Ga30⟩ := V_bn
      have hin30 : ¬ ((1 : Int32) < 0 ∨ cl30.slots.size ≤ ((1 : Int32)).toNatClampNeg) := inb_of Sa30 ⟨by decide, by decide⟩
      obtain ⟨T30, h30, X30, e30, W30, st30⟩ := stI X29 hx hZ e29 Ar30 (j := (1 : Int32)) hin30 (g := (mkF m 141 #[rv r, iv num, own_dv (FP.l2d v), .second, iv 3, iv 1, iv 1] [(.int num), (.int (1 : Int32)), (.ref bn)])) rfl rfl (hb hby d2_141)
      have V_bn : Arv Z h30 bn kn .int (3 : Int32) [(.int m1), (.int num), (.int m2)] (.int (0 : Int32)) := Arv.set Ar30 qa30 Sa30 Na30 Ha30 Ga30 rfl W30 1 rfl (Nat.le_of_ble_eq_true rfl)
      replace E_r := E_r.wr W30
      replace F_numbers_r := F_numbers_r.other W30 (Or.inl nrn)
      replace F_cosines_r := F_cosines_r.other W30 (Or.inl nrn)
      replace F_places_r := F_places_r.other W30 (Or.inl nrn)
      replace F_size_r := F_size_r.other W30 (Or.inl nrn)
      replace V_bc := V_bc.other W30 (Ne.symm nnc)
      replace Pl := own_PlW Pl W30 (List.mem_of_getElem? (i := 1) rfl)
      replace Z0 := Nat.le_trans Z0 (Keep.of_wr W30).1
      replace N0 := Fr.snoc X30 N0 g_bn
      refine own_st st30 ?_
      show own_Go p e below G (T30.setTop (mkF m 142 #[rv r, iv num, own_dv (FP.l2d v), .second, iv 3, iv 1, iv 1] []))
      refine own_st (fun t k => XS.aloadN X30.here hx rfl (hb hby d2_142) rfl rfl  k) ?_
      show own_Go p e below G (T30.setTop (mkF m 143 #[rv r, iv num, own_dv (FP.l2d v), .second, iv 3, iv 1, iv 1] [(.ref r)]))
      obtain ⟨T31, X31, e31, st31⟩ := getF X30 hx hZ hown (host := "") (Or.inl (hw _ (List.mem_of_getElem? (i := 13) rfl))) Via.refl e30 F_cosines_r (g := (mkF m 143 #[rv r, iv num, own_dv (FP.l2d v), .second, iv 3, iv 1, iv 1] [(.ref r)])) rfl rfl (hb hby d2_143)
      refine own_st st31 ?_
      show own_Go p e below G (T31.setTop (mkF m 146 #[rv r, iv num, own_dv (FP.l2d v), .second, iv 3, iv 1, iv 1] [(.ref bc)]))
      refine own_st (fun t k => XS.iload X31.here hx rfl (hb hby d2_146) rfl  k) ?_
      refine own_st (fun t k => XS.dloadN X31.here hx rfl (hb hby d2_148) rfl  k) ?_
      show own_Go p e below G (T31.setTop (mkF m 149 #[rv r, iv num, own_dv (FP.l2d v), .second, iv 3, iv 1, iv 1] [(.double (FP.l2d v)), (.int (1 : Int32)), (.ref bc)]))
      obtain ⟨cl32, Ar32, qa32, Sa32, Na32, Ha32, Ga32⟩ := V_bc
      have hin32 : ¬ ((1 : Int32) < 0 ∨ cl32.slots.size ≤ ((1 : Int32)).toNatClampNeg) := inb_of Sa32 ⟨by decide, by decide⟩
      obtain ⟨T32, h32, X32, e32, W32, st32⟩ := stD X31 hx hZ e31 Ar32 (j := (1 : Int32)) hin32 (g := (mkF m 149 #[rv r, iv num, own_dv (FP.l2d v), .second, iv 3, iv 1, iv 1] [(.double (FP.l2d v)), (.int (1 : Int32)), (.ref bc)])) rfl rfl (hb hby d2_149)
      have V_bc : Arv Z h32 bc kc .double (3 : Int32) [(.double (FP.l2d c1)), (.double (FP.l2d v)), (.double (FP.l2d c2))] (.double (0 : UInt64)) := Arv.set Ar32 qa32 Sa32 Na32 Ha32 Ga32 rfl W32 1 rfl (Nat.le_of_ble_eq_true rfl)
      replace E_r := E_r.wr W32
      replace F_numbers_r := F_numbers_r.other W32 (Or.inl nrc)
      replace F_cosines_r := F_cosines_r.other W32 (Or.inl nrc)
      replace F_places_r := F_places_r.other W32 (Or.inl nrc)
      replace F_size_r := F_size_r.other W32 (Or.inl nrc)
      replace V_bn := V_bn.other W32 nnc
      replace Pl := own_PlW Pl W32 (List.mem_of_getElem? (i := 2) rfl)
      replace Z0 := Nat.le_trans Z0 (Keep.of_wr W32).1
      replace N0 := Fr.snoc X32 N0 g_bc
      refine own_st st32 ?_
      show own_Go p e below G (T32.setTop (mkF m 150 #[rv r, iv num, own_dv (FP.l2d v), .second, iv 3, iv 1, iv 1] []))
      rw [hG]
      exact own_retV X32 hx hlk hret (hb hby d2_150) (by rw [e32]; exact ⟨rfl, N0, m1, num, m2, c1, v, c2, ⟨E_r, F_numbers_r, F_cosines_r, F_places_r, F_size_r, V_bn, V_bc, Pl, nrn, nrc, nnc, g_r, g_bn, g_bc, Z0⟩, hm1, hc1, hnum, hv, hm2, hc2, Or.inr (Or.inr (Or.inl ⟨(hf9 c67_10), (ht15 (hq15.resolve_left c93_16)), rfl, rfl, rfl⟩))⟩) (by decide) (by decide)
  · skip
    refine own_st (fun t k => XS.ifNo X9.here hx rfl (hb hby d2_67) rfl ((if0 _ _).trans (feq c67_10).1) k) ?_
    show own_Go p e below G (T9.setTop (mkF m 70 #[rv r, iv num, own_dv (FP.l2d v), .second, iv 3, iv 0, iv 1] []))
    refine own_st (fun t k => XS.iinc X9.here hx rfl (hb hby d2_70) rfl (l' := #[rv r, iv num, own_dv (FP.l2d v), .second, iv 3, iv 0, iv 2]) rfl k) ?_
    show own_Go p e below G (T9.setTop (mkF m 73 #[rv r, iv num, own_dv (FP.l2d v), .second, iv 3, iv 0, iv 2] []))
    refine own_st (fun t k => XS.aloadN X9.here hx rfl (hb hby d2_73) rfl rfl  k) ?_
    refine own_st (fun t k => XS.aloadN X9.here hx rfl (hb hby d2_74) rfl rfl  k) ?_
    show own_Go p e below G (T9.setTop (mkF m 75 #[rv r, iv num, own_dv (FP.l2d v), .second, iv 3, iv 0, iv 2] [(.ref r), (.ref r)]))
    obtain ⟨T33, X33, e33, st33⟩ := getF X9 hx hZ hown (host := "") (Or.inl (hw _ (List.mem_of_getElem? (i := 10) rfl))) Via.refl e9 F_numbers_r (g := (mkF m 75 #[rv r, iv num, own_dv (FP.l2d v), .second, iv 3, iv 0, iv 2] [(.ref r), (.ref r)])) rfl rfl (hb hby d2_75)
    refine own_st st33 ?_
    show own_Go p e below G (T33.setTop (mkF m 78 #[rv r, iv num, own_dv (FP.l2d v), .second, iv 3, iv 0, iv 2] [(.ref bn), (.ref r)]))
    refine own_st (fun t k => XS.iload X33.here hx rfl (hb hby d2_78) rfl  k) ?_
    show own_Go p e below G (T33.setTop (mkF m 80 #[rv r, iv num, own_dv (FP.l2d v), .second, iv 3, iv 0, iv 2] [(.int (2 : Int32)), (.ref bn), (.ref r)]))
    have Vc34 := V_bn
    obtain ⟨cl34, Ar34, -, Sa34, -, Ha34, -⟩ := Vc34
    have hin34 : ¬ ((2 : Int32) < 0 ∨ cl34.slots.size ≤ ((2 : Int32)).toNatClampNeg) := inb_of Sa34 ⟨by decide, by decide⟩
    refine own_st (fun t k => X33.iaload hx (j := (2 : Int32)) (v := (.int m2)) (by rw [e33]; exact Ar34.1) (State.isArrayOf_alike hZ.alike Ar34.2.1) Ar34.2.2 hin34 (Ha34.at hin34 rfl) (g := (mkF m 80 #[rv r, iv num, own_dv (FP.l2d v), .second, iv 3, iv 0, iv 2] [(.int (2 : Int32)), (.ref bn), (.ref r)])) rfl rfl (hb hby d2_80) t k) ?_
    show own_Go p e below G (T33.setTop (mkF m 81 #[rv r, iv num, own_dv (FP.l2d v), .second, iv 3, iv 0, iv 2] [(.int m2), (.ref r)]))
    refine own_st (fun t k => XS.aloadN X33.here hx rfl (hb hby d2_81) rfl rfl  k) ?_
    show own_Go p e below G (T33.setTop (mkF m 82 #[rv r, iv num, own_dv (FP.l2d v), .second, iv 3, iv 0, iv 2] [(.ref r), (.int m2), (.ref r)]))
    obtain ⟨T35, X35, e35, st35⟩ := getF X33 hx hZ hown (host := "") (Or.inl (hw _ (List.mem_of_getElem? (i := 13) rfl))) Via.refl e33 F_cosines_r (g := (mkF m 82 #[rv r, iv num, own_dv (FP.l2d v), .second, iv 3, iv 0, iv 2] [(.ref r), (.int m2), (.ref r)])) rfl rfl (hb hby d2_82)
    refine own_st st35 ?_
    show own_Go p e below G (T35.setTop (mkF m 85 #[rv r, iv num, own_dv (FP.l2d v), .second, iv 3, iv 0, iv 2] [(.ref bc), (.int m2), (.ref r)]))
    refine own_st (fun t k => XS.iload X35.here hx rfl (hb hby d2_85) rfl  k) ?_
    show own_Go p e below G (T35.setTop (mkF m 87 #[rv r, iv num, own_dv (FP.l2d v), .second, iv 3, iv 0, iv 2] [(.int (2 : Int32)), (.ref bc), (.int m2), (.ref r)]))
    have Vc36 := V_bc
    obtain ⟨cl36, Ar36, -, Sa36, -, Ha36, -⟩ := Vc36
    have hin36 : ¬ ((2 : Int32) < 0 ∨ cl36.slots.size ≤ ((2 : Int32)).toNatClampNeg) := inb_of Sa36 ⟨by decide, by decide⟩
    refine own_st (fun t k => X35.daload hx (j := (2 : Int32)) (v := (.double (FP.l2d c2))) (by rw [e35]; exact Ar36.1) (State.isArrayOf_alike hZ.alike Ar36.2.1) Ar36.2.2 hin36 (Ha36.at hin36 rfl) (g := (mkF m 87 #[rv r, iv num, own_dv (FP.l2d v), .second, iv 3, iv 0, iv 2] [(.int (2 : Int32)), (.ref bc), (.int m2), (.ref r)])) rfl rfl (hb hby d2_87) t k) ?_
    show own_Go p e below G (T35.setTop (mkF m 88 #[rv r, iv num, own_dv (FP.l2d v), .second, iv 3, iv 0, iv 2] [(.double (FP.l2d c2)), (.int m2), (.ref r)]))
    refine own_st (fun t k => XS.iloadN X35.here hx rfl (hb hby d2_88) rfl  k) ?_
    refine own_st (fun t k => XS.dloadN X35.here hx rfl (hb hby d2_89) rfl  k) ?_
    show own_Go p e below G (T35.setTop (mkF m 90 #[rv r, iv num, own_dv (FP.l2d v), .second, iv 3, iv 0, iv 2] [(.double (FP.l2d v)), (.int num), (.double (FP.l2d c2)), (.int m2), (.ref r)]))
    obtain ⟨v37, T37, L37, X37, Q37, st37⟩ := own_callP X35 hx hZ (y := (⟨"com/example/thinleaf/thinleaf/prune/Nearest", "below", "(IDID)Z"⟩ : MethodName)) hown (hw _ (List.mem_of_getElem? (i := 31) rfl)) (hw _ (List.mem_of_getElem? (i := 32) rfl)) (hw _ (List.mem_of_getElem? (i := 33) rfl)) (hw _ (List.mem_of_getElem? (i := 2) rfl)) (hw _ (List.mem_of_getElem? (i := 3) rfl)) (hw _ (List.mem_of_getElem? (i := 34) rfl)) (by decide) (W := 0) (rmB l Z a0 hw r m2 c2 num v pv _ h0 F_places_r Pl hc2 hv hm2 hnum) (by decide) (by decide) e35 E_r (g := (mkF m 90 #[rv r, iv num, own_dv (FP.l2d v), .second, iv 3, iv 0, iv 2] [(.double (FP.l2d v)), (.int num), (.double (FP.l2d c2)), (.int m2), (.ref r)])) rfl (by rw [hml]; rfl) (argsL := [(.int m2), (.double (FP.l2d c2)), (.int num), (.double (FP.l2d v))]) (rest := []) own_pd0 rfl rfl (by show 2 * 0 + _ ≤ _; exact Nat.le_of_eq rfl) (hb hby d2_90) rfl (by decide) (by decide)
    obtain ⟨⟨q37, rfl, hq37, ht37, hf37⟩, rfl, e37⟩ := Q37
    simp only [List.append_nil, Nat.add_zero] at X37
    refine own_st st37 ?_
    show own_Go p e below G (T37.setTop (mkF m 93 #[rv r, iv num, own_dv (FP.l2d v), .second, iv 3, iv 0, iv 2] [(.int q37)]))
    by_cases c93_38 : q37 = (0 : Int32)
    · skip
      refine own_st (fun t k => XS.ifNo X37.here hx rfl (hb hby d2_93) rfl ((if0 _ _).trans (teq c93_38).2) k) ?_
      show own_Go p e below G (T37.setTop (mkF m 96 #[rv r, iv num, own_dv (FP.l2d v), .second, iv 3, iv 0, iv 2] []))
      refine own_st (fun t k => XS.goto X37.here hx rfl (pc0 := 96) (pc' := 134) rfl (hb hby d2_96) (by decide) (by decide) k) ?_
      refine own_st (fun t k => XS.aloadN X37.here hx rfl (hb hby d2_134) rfl rfl  k) ?_
      show own_Go p e below G (T37.setTop (mkF m 135 #[rv r, iv num, own_dv (FP.l2d v), .second, iv 3, iv 0, iv 2] [(.ref r)]))
      obtain ⟨T39, X39, e39, st39⟩ := getF X37 hx hZ hown (host := "") (Or.inl (hw _ (List.mem_of_getElem? (i := 10) rfl))) Via.refl e37 F_numbers_r (g := (mkF m 135 #[rv r, iv num, own_dv (FP.l2d v), .second, iv 3, iv 0, iv 2] [(.ref r)])) rfl rfl (hb hby d2_135)
      refine own_st st39 ?_
      show own_Go p e below G (T39.setTop (mkF m 138 #[rv r, iv num, own_dv (FP.l2d v), .second, iv 3, iv 0, iv 2] [(.ref bn)]))
      refine own_st (fun t k => XS.iload X39.here hx rfl (hb hby d2_138) rfl  k) ?_
      refine own_st (fun t k => XS.iloadN X39.here hx rfl (hb hby d2_140) rfl  k) ?_
      show own_Go p e below G (T39.setTop (mkF m 141 #[rv r, iv num, own_dv (FP.l2d v), .second, iv 3, iv 0, iv 2] [(.int num), (.int (0 : Int32)), (.ref bn)]))
      obtain ⟨cl40, Ar40, qa40, Sa40, Na40, Ha40, Ga40⟩ := V_bn
      have hin40 : ¬ ((0 : Int32) < 0 ∨ cl40.slots.size ≤ ((0 : Int32)).toNatClampNeg) := inb_of Sa40 ⟨by decide, by decide⟩
      obtain ⟨T40, h40, X40, e40, W40, st40⟩ := stI X39 hx hZ e39 Ar40 (j := (0 : Int32)) hin40 (g := (mkF m 141 #[rv r, iv num, own_dv (FP.l2d v), .second, iv 3, iv 0, iv 2] [(.int num), (.int (0 : Int32)), (.ref bn)])) rfl rfl (hb hby d2_141)
      have V_bn : Arv Z h40 bn kn .int (3 : Int32) [(.int num), (.int m1), (.int m2)] (.int (0 : Int32)) := Arv.set Ar40 qa40 Sa40 Na40 Ha40 Ga40 rfl W40 0 rfl (Nat.le_of_ble_eq_true rfl)
      replace E_r := E_r.wr W40
      replace F_numbers_r := F_numbers_r.other W40 (Or.inl nrn)
      replace F_cosines_r := F_cosines_r.other W40 (Or.inl nrn)
      replace F_places_r := F_places_r.other W40 (Or.inl nrn)
      replace F_size_r := F_size_r.other W40 (Or.inl nrn)
      replace V_bc := V_bc.other W40 (Ne.symm nnc)
      replace Pl := own_PlW Pl W40 (List.mem_of_getElem? (i := 1) rfl)
      replace Z0 := Nat.le_trans Z0 (Keep.of_wr W40).1
      replace N0 := Fr.snoc X40 N0 g_bn
      refine own_st st40 ?_
      show own_Go p e below G (T40.setTop (mkF m 142 #[rv r, iv num, own_dv (FP.l2d v), .second, iv 3, iv 0, iv 2] []))
      refine own_st (fun t k => XS.aloadN X40.here hx rfl (hb hby d2_142) rfl rfl  k) ?_
      show own_Go p e below G (T40.setTop (mkF m 143 #[rv r, iv num, own_dv (FP.l2d v), .second, iv 3, iv 0, iv 2] [(.ref r)]))
      obtain ⟨T41, X41, e41, st41⟩ := getF X40 hx hZ hown (host := "") (Or.inl (hw _ (List.mem_of_getElem? (i := 13) rfl))) Via.refl e40 F_cosines_r (g := (mkF m 143 #[rv r, iv num, own_dv (FP.l2d v), .second, iv 3, iv 0, iv 2] [(.ref r)])) rfl rfl (hb hby d2_143)
      refine own_st st41 ?_
      show own_Go p e below G (T41.setTop (mkF m 146 #[rv r, iv num, own_dv (FP.l2d v), .second, iv 3, iv 0, iv 2] [(.ref bc)]))
      refine own_st (fun t k => XS.iload X41.here hx rfl (hb hby d2_146) rfl  k) ?_
      refine own_st (fun t k => XS.dloadN X41.here hx rfl (hb hby d2_148) rfl  k) ?_
      show own_Go p e below G (T41.setTop (mkF m 149 #[rv r, iv num, own_dv (FP.l2d v), .second, iv 3, iv 0, iv 2] [(.double (FP.l2d v)), (.int (0 : Int32)), (.ref bc)]))
      obtain ⟨cl42, Ar42, qa42, Sa42, Na42, Ha42, Ga42⟩ := V_bc
      have hin42 : ¬ ((0 : Int32) < 0 ∨ cl42.slots.size ≤ ((0 : Int32)).toNatClampNeg) := inb_of Sa42 ⟨by decide, by decide⟩
      obtain ⟨T42, h42, X42, e42, W42, st42⟩ := stD X41 hx hZ e41 Ar42 (j := (0 : Int32)) hin42 (g := (mkF m 149 #[rv r, iv num, own_dv (FP.l2d v), .second, iv 3, iv 0, iv 2] [(.double (FP.l2d v)), (.int (0 : Int32)), (.ref bc)])) rfl rfl (hb hby d2_149)
      have V_bc : Arv Z h42 bc kc .double (3 : Int32) [(.double (FP.l2d v)), (.double (FP.l2d c1)), (.double (FP.l2d c2))] (.double (0 : UInt64)) := Arv.set Ar42 qa42 Sa42 Na42 Ha42 Ga42 rfl W42 0 rfl (Nat.le_of_ble_eq_true rfl)
      replace E_r := E_r.wr W42
      replace F_numbers_r := F_numbers_r.other W42 (Or.inl nrc)
      replace F_cosines_r := F_cosines_r.other W42 (Or.inl nrc)
      replace F_places_r := F_places_r.other W42 (Or.inl nrc)
      replace F_size_r := F_size_r.other W42 (Or.inl nrc)
      replace V_bn := V_bn.other W42 nnc
      replace Pl := own_PlW Pl W42 (List.mem_of_getElem? (i := 2) rfl)
      replace Z0 := Nat.le_trans Z0 (Keep.of_wr W42).1
      replace N0 := Fr.snoc X42 N0 g_bc
      refine own_st st42 ?_
      show own_Go p e below G (T42.setTop (mkF m 150 #[rv r, iv num, own_dv (FP.l2d v), .second, iv 3, iv 0, iv 2] []))
      rw [hG]
      exact own_retV X42 hx hlk hret (hb hby d2_150) (by rw [e42]; exact ⟨rfl, N0, num, m1, m2, v, c1, c2, ⟨E_r, F_numbers_r, F_cosines_r, F_places_r, F_size_r, V_bn, V_bc, Pl, nrn, nrc, nnc, g_r, g_bn, g_bc, Z0⟩, hnum, hv, hm1, hc1, hm2, hc2, Or.inr (Or.inl ⟨(ht9 (hq9.resolve_left c67_10)), (hf37 c93_38), rfl, rfl, rfl⟩)⟩) (by decide) (by decide)
    · skip
      refine own_st (fun t k => XS.ifYes X37.here hx rfl (pc0 := 93) (pc' := 99) rfl (hb hby d2_93) rfl ((if0 _ _).trans (feq c93_38).2) (by decide) (by decide) k) ?_
      show own_Go p e below G (T37.setTop (mkF m 99 #[rv r, iv num, own_dv (FP.l2d v), .second, iv 3, iv 0, iv 2] []))
      refine own_st (fun t k => XS.aloadN X37.here hx rfl (hb hby d2_99) rfl rfl  k) ?_
      show own_Go p e below G (T37.setTop (mkF m 100 #[rv r, iv num, own_dv (FP.l2d v), .second, iv 3, iv 0, iv 2] [(.ref r)]))
      obtain ⟨T43, X43, e43, st43⟩ := getF X37 hx hZ hown (host := "") (Or.inl (hw _ (List.mem_of_getElem? (i := 10) rfl))) Via.refl e37 F_numbers_r (g := (mkF m 100 #[rv r, iv num, own_dv (FP.l2d v), .second, iv 3, iv 0, iv 2] [(.ref r)])) rfl rfl (hb hby d2_100)
      refine own_st st43 ?_
      show own_Go p e below G (T43.setTop (mkF m 103 #[rv r, iv num, own_dv (FP.l2d v), .second, iv 3, iv 0, iv 2] [(.ref bn)]))
      refine own_st (fun t k => XS.iload X43.here hx rfl (hb hby d2_103) rfl  k) ?_
      refine own_st (fun t k => XS.aloadN X43.here hx rfl (hb hby d2_105) rfl rfl  k) ?_
      show own_Go p e below G (T43.setTop (mkF m 106 #[rv r, iv num, own_dv (FP.l2d v), .second, iv 3, iv 0, iv 2] [(.ref r), (.int (0 : Int32)), (.ref bn)]))
      obtain ⟨T44, X44, e44, st44⟩ := getF X43 hx hZ hown (host := "") (Or.inl (hw _ (List.mem_of_getElem? (i := 10) rfl))) Via.refl e43 F_numbers_r (g := (mkF m 106 #[rv r, iv num, own_dv (FP.l2d v), .second, iv 3, iv 0, iv 2] [(.ref r), (.int (0 : Int32)), (.ref bn)])) rfl rfl (hb hby d2_106)
      refine own_st st44 ?_
      show own_Go p e below G (T44.setTop (mkF m 109 #[rv r, iv num, own_dv (FP.l2d v), .second, iv 3, iv 0, iv 2] [(.ref bn), (.int (0 : Int32)), (.ref bn)]))
      refine own_st (fun t k => XS.iload X44.here hx rfl (hb hby d2_109) rfl  k) ?_
      show own_Go p e below G (T44.setTop (mkF m 111 #[rv r, iv num, own_dv (FP.l2d v), .second, iv 3, iv 0, iv 2] [(.int (2 : Int32)), (.ref bn), (.int (0 : Int32)), (.ref bn)]))
      have Vc45 := V_bn
      obtain ⟨cl45, Ar45, -, Sa45, -, Ha45, -⟩ := Vc45
      have hin45 : ¬ ((2 : Int32) < 0 ∨ cl45.slots.size ≤ ((2 : Int32)).toNatClampNeg) := inb_of Sa45 ⟨by decide, by decide⟩
      refine own_st (fun t k => X44.iaload hx (j := (2 : Int32)) (v := (.int m2)) (by rw [e44]; exact Ar45.1) (State.isArrayOf_alike hZ.alike Ar45.2.1) Ar45.2.2 hin45 (Ha45.at hin45 rfl) (g := (mkF m 111 #[rv r, iv num, own_dv (FP.l2d v), .second, iv 3, iv 0, iv 2] [(.int (2 : Int32)), (.ref bn), (.int (0 : Int32)), (.ref bn)])) rfl rfl (hb hby d2_111) t k) ?_
      show own_Go p e below G (T44.setTop (mkF m 112 #[rv r, iv num, own_dv (FP.l2d v), .second, iv 3, iv 0, iv 2] [(.int m2), (.int (0 : Int32)), (.ref bn)]))
      obtain ⟨cl46, Ar46, qa46, Sa46, Na46, Ha46, Ga46⟩ := V_bn
      have hin46 : ¬ ((0 : Int32) < 0 ∨ cl46.slots.size ≤ ((0 : Int32)).toNatClampNeg) := inb_of Sa46 ⟨by decide, by decide⟩
      obtain ⟨T46, h46, X46, e46, W46, st46⟩ := stI X44 hx hZ e44 Ar46 (j := (0 : Int32)) hin46 (g := (mkF m 112 #[rv r, iv num, own_dv (FP.l2d v), .second, iv 3, iv 0, iv 2] [(.int m2), (.int (0 : Int32)), (.ref bn)])) rfl rfl (hb hby d2_112)
      have V_bn : Arv Z h46 bn kn .int (3 : Int32) [(.int m2), (.int m1), (.int m2)] (.int (0 : Int32)) := Arv.set Ar46 qa46 Sa46 Na46 Ha46 Ga46 rfl W46 0 rfl (Nat.le_of_ble_eq_true rfl)
      replace E_r := E_r.wr W46
      replace F_numbers_r := F_numbers_r.other W46 (Or.inl nrn)
      replace F_cosines_r := F_cosines_r.other W46 (Or.inl nrn)
      replace F_places_r := F_places_r.other W46 (Or.inl nrn)
      replace F_size_r := F_size_r.other W46 (Or.inl nrn)
      replace V_bc := V_bc.other W46 (Ne.symm nnc)
      replace Pl := own_PlW Pl W46 (List.mem_of_getElem? (i := 1) rfl)
      replace Z0 := Nat.le_trans Z0 (Keep.of_wr W46).1
      replace N0 := Fr.snoc X46 N0 g_bn
      refine own_st st46 ?_
      show own_Go p e below G (T46.setTop (mkF m 113 #[rv r, iv num, own_dv (FP.l2d v), .second, iv 3, iv 0, iv 2] []))
      refine own_st (fun t k => XS.aloadN X46.here hx rfl (hb hby d2_113) rfl rfl  k) ?_
      show own_Go p e below G (T46.setTop (mkF m 114 #[rv r, iv num, own_dv (FP.l2d v), .second, iv 3, iv 0, iv 2] [(.ref r)]))
      obtain ⟨T47, X47, e47, st47⟩ := getF X46 hx hZ hown (host := "") (Or.inl (hw _ (List.mem_of_getElem? (i := 13) rfl))) Via.refl e46 F_cosines_r (g := (mkF m 114 #[rv r, iv num, own_dv (FP.l2d v), .second, iv 3, iv 0, iv 2] [(.ref r)])) rfl rfl (hb hby d2_114)
      refine own_st st47 ?_
      show own_Go p e below G (T47.setTop (mkF m 117 #[rv r, iv num, own_dv (FP.l2d v), .second, iv 3, iv 0, iv 2] [(.ref bc)]))
      refine own_st (fun t k => XS.iload X47.here hx rfl (hb hby d2_117) rfl  k) ?_
      refine own_st (fun t k => XS.aloadN X47.here hx rfl (hb hby d2_119) rfl rfl  k) ?_
      show own_Go p e below G (T47.setTop (mkF m 120 #[rv r, iv num, own_dv (FP.l2d v), .second, iv 3, iv 0, iv 2] [(.ref r), (.int (0 : Int32)), (.ref bc)]))
      obtain ⟨T48, X48, e48, st48⟩ := getF X47 hx hZ hown (host := "") (Or.inl (hw _ (List.mem_of_getElem? (i := 13) rfl))) Via.refl e47 F_cosines_r (g := (mkF m 120 #[rv r, iv num, own_dv (FP.l2d v), .second, iv 3, iv 0, iv 2] [(.ref r), (.int (0 : Int32)), (.ref bc)])) rfl rfl (hb hby d2_120)
      refine own_st st48 ?_
      show own_Go p e below G (T48.setTop (mkF m 123 #[rv r, iv num, own_dv (FP.l2d v), .second, iv 3, iv 0, iv 2] [(.ref bc), (.int (0 : Int32)), (.ref bc)]))
      refine own_st (fun t k => XS.iload X48.here hx rfl (hb hby d2_123) rfl  k) ?_
      show own_Go p e below G (T48.setTop (mkF m 125 #[rv r, iv num, own_dv (FP.l2d v), .second, iv 3, iv 0, iv 2] [(.int (2 : Int32)), (.ref bc), (.int (0 : Int32)), (.ref bc)]))
      have Vc49 := V_bc
      obtain ⟨cl49, Ar49, -, Sa49, -, Ha49, -⟩ := Vc49
      have hin49 : ¬ ((2 : Int32) < 0 ∨ cl49.slots.size ≤ ((2 : Int32)).toNatClampNeg) := inb_of Sa49 ⟨by decide, by decide⟩
      refine own_st (fun t k => X48.daload hx (j := (2 : Int32)) (v := (.double (FP.l2d c2))) (by rw [e48]; exact Ar49.1) (State.isArrayOf_alike hZ.alike Ar49.2.1) Ar49.2.2 hin49 (Ha49.at hin49 rfl) (g := (mkF m 125 #[rv r, iv num, own_dv (FP.l2d v), .second, iv 3, iv 0, iv 2] [(.int (2 : Int32)), (.ref bc), (.int (0 : Int32)), (.ref bc)])) rfl rfl (hb hby d2_125) t k) ?_
      show own_Go p e below G (T48.setTop (mkF m 126 #[rv r, iv num, own_dv (FP.l2d v), .second, iv 3, iv 0, iv 2] [(.double (FP.l2d c2)), (.int (0 : Int32)), (.ref bc)]))
      obtain ⟨cl50, Ar50, qa50, Sa50, Na50, Ha50, Ga50⟩ := V_bc
      have hin50 : ¬ ((0 : Int32) < 0 ∨ cl50.slots.size ≤ ((0 : Int32)).toNatClampNeg) := inb_of Sa50 ⟨by decide, by decide⟩
      obtain ⟨T50, h50, X50, e50, W50, st50⟩ := stD X48 hx hZ e48 Ar50 (j := (0 : Int32)) hin50 (g := (mkF m 126 #[rv r, iv num, own_dv (FP.l2d v), .second, iv 3, iv 0, iv 2] [(.double (FP.l2d c2)), (.int (0 : Int32)), (.ref bc)])) rfl rfl (hb hby d2_126)
      have V_bc : Arv Z h50 bc kc .double (3 : Int32) [(.double (FP.l2d c2)), (.double (FP.l2d c1)), (.double (FP.l2d c2))] (.double (0 : UInt64)) := Arv.set Ar50 qa50 Sa50 Na50 Ha50 Ga50 rfl W50 0 rfl (Nat.le_of_ble_eq_true rfl)
      replace E_r := E_r.wr W50
      replace F_numbers_r := F_numbers_r.other W50 (Or.inl nrc)
      replace F_cosines_r := F_cosines_r.other W50 (Or.inl nrc)
      replace F_places_r := F_places_r.other W50 (Or.inl nrc)
      replace F_size_r := F_size_r.other W50 (Or.inl nrc)
      replace V_bn := V_bn.other W50 nnc
      replace Pl := own_PlW Pl W50 (List.mem_of_getElem? (i := 2) rfl)
      replace Z0 := Nat.le_trans Z0 (Keep.of_wr W50).1
      replace N0 := Fr.snoc X50 N0 g_bc
      refine own_st st50 ?_
      show own_Go p e below G (T50.setTop (mkF m 127 #[rv r, iv num, own_dv (FP.l2d v), .second, iv 3, iv 0, iv 2] []))
      refine own_st (fun t k => XS.iload X50.here hx rfl (hb hby d2_127) rfl  k) ?_
      refine own_st (fun t k => XS.istore X50.here hx rfl (hb hby d2_129) rfl (l' := #[rv r, iv num, own_dv (FP.l2d v), .second, iv 3, iv 2, iv 2]) rfl k) ?_
      refine own_st (fun t k => XS.goto X50.here hx rfl (pc0 := 131) (pc' := 3) rfl (hb hby d2_131) (by decide) (by decide) k) ?_
      show own_Go p e below G (T50.setTop (mkF m 3 #[rv r, iv num, own_dv (FP.l2d v), .second, iv 3, iv 2, iv 2] []))
      refine own_st (fun t k => XS.iconst X50.here hx rfl (hb hby d2_3) k) ?_
      refine own_st (fun t k => XS.iload X50.here hx rfl (hb hby d2_4) rfl  k) ?_
      refine own_st (fun t k => XS.imul X50.here hx rfl (hb hby d2_6) rfl k) ?_
      show own_Go p e below G (T50.setTop (mkF m 7 #[rv r, iv num, own_dv (FP.l2d v), .second, iv 3, iv 2, iv 2] [(.int (4 : Int32))]))
      refine own_st (fun t k => XS.iconst X50.here hx rfl (hb hby d2_7) k) ?_
      refine own_st (fun t k => XS.iadd X50.here hx rfl (hb hby d2_8) rfl k) ?_
      refine own_st (fun t k => XS.iload X50.here hx rfl (hb hby d2_9) rfl  k) ?_
      show own_Go p e below G (T50.setTop (mkF m 11 #[rv r, iv num, own_dv (FP.l2d v), .second, iv 3, iv 2, iv 2] [(.int (3 : Int32)), (.int (5 : Int32))]))
      refine own_st (fun t k => XS.icmpYes X50.here hx rfl (pc0 := 11) (pc' := 134) rfl (hb hby d2_11) rfl (flt (by decide)).2.1 (by decide) (by decide) k) ?_
      show own_Go p e below G (T50.setTop (mkF m 134 #[rv r, iv num, own_dv (FP.l2d v), .second, iv 3, iv 2, iv 2] []))
      refine own_st (fun t k => XS.aloadN X50.here hx rfl (hb hby d2_134) rfl rfl  k) ?_
      show own_Go p e below G (T50.setTop (mkF m 135 #[rv r, iv num, own_dv (FP.l2d v), .second, iv 3, iv 2, iv 2] [(.ref r)]))
      obtain ⟨T51, X51, e51, st51⟩ := getF X50 hx hZ hown (host := "") (Or.inl (hw _ (List.mem_of_getElem? (i := 10) rfl))) Via.refl e50 F_numbers_r (g := (mkF m 135 #[rv r, iv num, own_dv (FP.l2d v), .second, iv 3, iv 2, iv 2] [(.ref r)])) rfl rfl (hb hby d2_135)
      refine own_st st51 ?_
      show own_Go p e below G (T51.setTop (mkF m 138 #[rv r, iv num, own_dv (FP.l2d v), .second, iv 3, iv 2, iv 2] [(.ref bn)]))
      refine own_st (fun t k => XS.iload X51.here hx rfl (hb hby d2_138) rfl  k) ?_
      refine own_st (fun t k => XS.iloadN X51.here hx rfl (hb hby d2_140) rfl  k) ?_
      show own_Go p e below G (T51.setTop (mkF m 141 #[rv r, iv num, own_dv (FP.l2d v), .second, iv 3, iv 2, iv 2] [(.int num), (.int (2 : Int32)), (.ref bn)]))
      obtain ⟨cl52, Ar52, qa52, Sa52, Na52, Ha52, Ga52⟩ := V_bn
      have hin52 : ¬ ((2 : Int32) < 0 ∨ cl52.slots.size ≤ ((2 : Int32)).toNatClampNeg) := inb_of Sa52 ⟨by decide, by decide⟩
      obtain ⟨T52, h52, X52, e52, W52, st52⟩ := stI X51 hx hZ e51 Ar52 (j := (2 : Int32)) hin52 (g := (mkF m 141 #[rv r, iv num, own_dv (FP.l2d v), .second, iv 3, iv 2, iv 2] [(.int num), (.int (2 : Int32)), (.ref bn)])) rfl rfl (hb hby d2_141)
      have V_bn : Arv Z h52 bn kn .int (3 : Int32) [(.int m2), (.int m1), (.int num)] (.int (0 : Int32)) := Arv.set Ar52 qa52 Sa52 Na52 Ha52 Ga52 rfl W52 2 rfl (Nat.le_of_ble_eq_true rfl)
      replace E_r := E_r.wr W52
      replace F_numbers_r := F_numbers_r.other W52 (Or.inl nrn)
      replace F_cosines_r := F_cosines_r.other W52 (Or.inl nrn)
      replace F_places_r := F_places_r.other W52 (Or.inl nrn)
      replace F_size_r := F_size_r.other W52 (Or.inl nrn)
      replace V_bc := V_bc.other W52 (Ne.symm nnc)
      replace Pl := own_PlW Pl W52 (List.mem_of_getElem? (i := 1) rfl)
      replace Z0 := Nat.le_trans Z0 (Keep.of_wr W52).1
      replace N0 := Fr.snoc X52 N0 g_bn
      refine own_st st52 ?_
      show own_Go p e below G (T52.setTop (mkF m 142 #[rv r, iv num, own_dv (FP.l2d v), .second, iv 3, iv 2, iv 2] []))
      refine own_st (fun t k => XS.aloadN X52.here hx rfl (hb hby d2_142) rfl rfl  k) ?_
      show own_Go p e below G (T52.setTop (mkF m 143 #[rv r, iv num, own_dv (FP.l2d v), .second, iv 3, iv 2, iv 2] [(.ref r)]))
      obtain ⟨T53, X53, e53, st53⟩ := getF X52 hx hZ hown (host := "") (Or.inl (hw _ (List.mem_of_getElem? (i := 13) rfl))) Via.refl e52 F_cosines_r (g := (mkF m 143 #[rv r, iv num, own_dv (FP.l2d v), .second, iv 3, iv 2, iv 2] [(.ref r)])) rfl rfl (hb hby d2_143)
      refine own_st st53 ?_
      show own_Go p e below G (T53.setTop (mkF m 146 #[rv r, iv num, own_dv (FP.l2d v), .second, iv 3, iv 2, iv 2] [(.ref bc)]))
      refine own_st (fun t k => XS.iload X53.here hx rfl (hb hby d2_146) rfl  k) ?_
      refine own_st (fun t k => XS.dloadN X53.here hx rfl (hb hby d2_148) rfl  k) ?_
      show own_Go p e below G (T53.setTop (mkF m 149 #[rv r, iv num, own_dv (FP.l2d v), .second, iv 3, iv 2, iv 2] [(.double (FP.l2d v)), (.int (2 : Int32)), (.ref bc)]))
      obtain ⟨cl54, Ar54, qa54, Sa54, Na54, Ha54, Ga54⟩ := V_bc
      have hin54 : ¬ ((2 : Int32) < 0 ∨ cl54.slots.size ≤ ((2 : Int32)).toNatClampNeg) := inb_of Sa54 ⟨by decide, by decide⟩
      obtain ⟨T54, h54, X54, e54, W54, st54⟩ := stD X53 hx hZ e53 Ar54 (j := (2 : Int32)) hin54 (g := (mkF m 149 #[rv r, iv num, own_dv (FP.l2d v), .second, iv 3, iv 2, iv 2] [(.double (FP.l2d v)), (.int (2 : Int32)), (.ref bc)])) rfl rfl (hb hby d2_149)
      have V_bc : Arv Z h54 bc kc .double (3 : Int32) [(.double (FP.l2d c2)), (.double (FP.l2d c1)), (.double (FP.l2d v))] (.double (0 : UInt64)) := Arv.set Ar54 qa54 Sa54 Na54 Ha54 Ga54 rfl W54 2 rfl (Nat.le_of_ble_eq_true rfl)
      replace E_r := E_r.wr W54
      replace F_numbers_r := F_numbers_r.other W54 (Or.inl nrc)
      replace F_cosines_r := F_cosines_r.other W54 (Or.inl nrc)
      replace F_places_r := F_places_r.other W54 (Or.inl nrc)
      replace F_size_r := F_size_r.other W54 (Or.inl nrc)
      replace V_bn := V_bn.other W54 nnc
      replace Pl := own_PlW Pl W54 (List.mem_of_getElem? (i := 2) rfl)
      replace Z0 := Nat.le_trans Z0 (Keep.of_wr W54).1
      replace N0 := Fr.snoc X54 N0 g_bc
      refine own_st st54 ?_
      show own_Go p e below G (T54.setTop (mkF m 150 #[rv r, iv num, own_dv (FP.l2d v), .second, iv 3, iv 2, iv 2] []))
      rw [hG]
      exact own_retV X54 hx hlk hret (hb hby d2_150) (by rw [e54]; exact ⟨rfl, N0, m2, m1, num, c2, c1, v, ⟨E_r, F_numbers_r, F_cosines_r, F_places_r, F_size_r, V_bn, V_bc, Pl, nrn, nrc, nnc, g_r, g_bn, g_bc, Z0⟩, hm2, hc2, hm1, hc1, hnum, hv, Or.inl ⟨(ht9 (hq9.resolve_left c67_10)), (ht37 (hq37.resolve_left c93_38)), rfl, rfl, rfl⟩⟩) (by decide) (by decide)
theorem d3_0 : decode prog_219_method_8_code 0 = .ok (.iconst 1, 1) := by decide +kernel
theorem d3_1 : decode prog_219_method_8_code 1 = .ok (.istore 4, 2) := by decide +kernel
theorem d3_3 : decode prog_219_method_8_code 3 = .ok (.aload_n 0, 1) := by decide +kernel
theorem d3_4 : decode prog_219_method_8_code 4 = .ok (.getfield 23, 3) := by decide +kernel
theorem d3_7 : decode prog_219_method_8_code 7 = .ok (.aload_n 0, 1) := by decide +kernel
theorem d3_8 : decode prog_219_method_8_code 8 = .ok (.getfield 12, 3) := by decide +kernel
theorem d3_11 : decode prog_219_method_8_code 11 = .ok (.arraylength, 1) := by decide +kernel
theorem d3_12 : decode prog_219_method_8_code 12 = .ok (.if_icmp .ge 109, 3) := by decide +kernel
theorem d3_15 : decode prog_219_method_8_code 15 = .ok (.aload_n 0, 1) := by decide +kernel
theorem d3_16 : decode prog_219_method_8_code 16 = .ok (.dup, 1) := by decide +kernel
theorem d3_17 : decode prog_219_method_8_code 17 = .ok (.getfield 23, 3) := by decide +kernel
theorem d3_20 : decode prog_219_method_8_code 20 = .ok (.dup_x1, 1) := by decide +kernel
theorem d3_21 : decode prog_219_method_8_code 21 = .ok (.iconst 1, 1) := by decide +kernel
theorem d3_22 : decode prog_219_method_8_code 22 = .ok (.iadd, 1) := by decide +kernel
theorem d3_23 : decode prog_219_method_8_code 23 = .ok (.putfield 23, 3) := by decide +kernel
theorem d3_26 : decode prog_219_method_8_code 26 = .ok (.istore 5, 2) := by decide +kernel
theorem d3_28 : decode prog_219_method_8_code 28 = .ok (.iload 5, 2) := by decide +kernel
theorem d3_30 : decode prog_219_method_8_code 30 = .ok (.ifCond .le 72, 3) := by decide +kernel
theorem d3_33 : decode prog_219_method_8_code 33 = .ok (.iload 5, 2) := by decide +kernel
theorem d3_35 : decode prog_219_method_8_code 35 = .ok (.iconst 1, 1) := by decide +kernel
theorem d3_36 : decode prog_219_method_8_code 36 = .ok (.isub, 1) := by decide +kernel
theorem d3_37 : decode prog_219_method_8_code 37 = .ok (.iconst 2, 1) := by decide +kernel
theorem d3_38 : decode prog_219_method_8_code 38 = .ok (.idiv, 1) := by decide +kernel
theorem d3_39 : decode prog_219_method_8_code 39 = .ok (.istore 6, 2) := by decide +kernel
theorem d3_41 : decode prog_219_method_8_code 41 = .ok (.aload_n 0, 1) := by decide +kernel
theorem d3_42 : decode prog_219_method_8_code 42 = .ok (.iload_n 1, 1) := by decide +kernel
theorem d3_43 : decode prog_219_method_8_code 43 = .ok (.dload_n 2, 1) := by decide +kernel
theorem d3_44 : decode prog_219_method_8_code 44 = .ok (.aload_n 0, 1) := by decide +kernel
theorem d3_45 : decode prog_219_method_8_code 45 = .ok (.getfield 12, 3) := by decide +kernel
theorem d3_48 : decode prog_219_method_8_code 48 = .ok (.iload 6, 2) := by decide +kernel
theorem d3_50 : decode prog_219_method_8_code 50 = .ok (.iaload, 1) := by decide +kernel
theorem d3_51 : decode prog_219_method_8_code 51 = .ok (.aload_n 0, 1) := by decide +kernel
theorem d3_52 : decode prog_219_method_8_code 52 = .ok (.getfield 16, 3) := by decide +kernel
theorem d3_55 : decode prog_219_method_8_code 55 = .ok (.iload 6, 2) := by decide +kernel
theorem d3_57 : decode prog_219_method_8_code 57 = .ok (.daload, 1) := by decide +kernel
theorem d3_58 : decode prog_219_method_8_code 58 = .ok (.invokevirtual 33, 3) := by decide +kernel
theorem d3_61 : decode prog_219_method_8_code 61 = .ok (.ifCond .ne 6, 3) := by decide +kernel
theorem d3_64 : decode prog_219_method_8_code 64 = .ok (.goto 38, 3) := by decide +kernel
theorem d3_67 : decode prog_219_method_8_code 67 = .ok (.aload_n 0, 1) := by decide +kernel
theorem d3_68 : decode prog_219_method_8_code 68 = .ok (.getfield 12, 3) := by decide +kernel
theorem d3_71 : decode prog_219_method_8_code 71 = .ok (.iload 5, 2) := by decide +kernel
theorem d3_73 : decode prog_219_method_8_code 73 = .ok (.aload_n 0, 1) := by decide +kernel
theorem d3_74 : decode prog_219_method_8_code 74 = .ok (.getfield 12, 3) := by decide +kernel
theorem d3_77 : decode prog_219_method_8_code 77 = .ok (.iload 6, 2) := by decide +kernel
theorem d3_79 : decode prog_219_method_8_code 79 = .ok (.iaload, 1) := by decide +kernel
theorem d3_80 : decode prog_219_method_8_code 80 = .ok (.iastore, 1) := by decide +kernel
theorem d3_81 : decode prog_219_method_8_code 81 = .ok (.aload_n 0, 1) := by decide +kernel
theorem d3_82 : decode prog_219_method_8_code 82 = .ok (.getfield 16, 3) := by decide +kernel
theorem d3_85 : decode prog_219_method_8_code 85 = .ok (.iload 5, 2) := by decide +kernel
theorem d3_87 : decode prog_219_method_8_code 87 = .ok (.aload_n 0, 1) := by decide +kernel
theorem d3_88 : decode prog_219_method_8_code 88 = .ok (.getfield 16, 3) := by decide +kernel
theorem d3_91 : decode prog_219_method_8_code 91 = .ok (.iload 6, 2) := by decide +kernel
theorem d3_93 : decode prog_219_method_8_code 93 = .ok (.daload, 1) := by decide +kernel
theorem d3_94 : decode prog_219_method_8_code 94 = .ok (.dastore, 1) := by decide +kernel
theorem d3_95 : decode prog_219_method_8_code 95 = .ok (.iload 6, 2) := by decide +kernel
theorem d3_97 : decode prog_219_method_8_code 97 = .ok (.istore 5, 2) := by decide +kernel
theorem d3_99 : decode prog_219_method_8_code 99 = .ok (.goto (-71), 3) := by decide +kernel
theorem d3_102 : decode prog_219_method_8_code 102 = .ok (.aload_n 0, 1) := by decide +kernel
theorem d3_103 : decode prog_219_method_8_code 103 = .ok (.getfield 12, 3) := by decide +kernel
theorem d3_106 : decode prog_219_method_8_code 106 = .ok (.iload 5, 2) := by decide +kernel
theorem d3_108 : decode prog_219_method_8_code 108 = .ok (.iload_n 1, 1) := by decide +kernel
theorem d3_109 : decode prog_219_method_8_code 109 = .ok (.iastore, 1) := by decide +kernel
theorem d3_110 : decode prog_219_method_8_code 110 = .ok (.aload_n 0, 1) := by decide +kernel
theorem d3_111 : decode prog_219_method_8_code 111 = .ok (.getfield 16, 3) := by decide +kernel
theorem d3_114 : decode prog_219_method_8_code 114 = .ok (.iload 5, 2) := by decide +kernel
theorem d3_116 : decode prog_219_method_8_code 116 = .ok (.dload_n 2, 1) := by decide +kernel
theorem d3_117 : decode prog_219_method_8_code 117 = .ok (.dastore, 1) := by decide +kernel
theorem d3_118 : decode prog_219_method_8_code 118 = .ok (.goto 47, 3) := by decide +kernel
theorem d3_121 : decode prog_219_method_8_code 121 = .ok (.aload_n 0, 1) := by decide +kernel
theorem d3_122 : decode prog_219_method_8_code 122 = .ok (.getfield 23, 3) := by decide +kernel
theorem d3_125 : decode prog_219_method_8_code 125 = .ok (.ifCond .le 37, 3) := by decide +kernel
theorem d3_128 : decode prog_219_method_8_code 128 = .ok (.aload_n 0, 1) := by decide +kernel
theorem d3_129 : decode prog_219_method_8_code 129 = .ok (.aload_n 0, 1) := by decide +kernel
theorem d3_130 : decode prog_219_method_8_code 130 = .ok (.getfield 12, 3) := by decide +kernel
theorem d3_133 : decode prog_219_method_8_code 133 = .ok (.iconst 0, 1) := by decide +kernel
theorem d3_134 : decode prog_219_method_8_code 134 = .ok (.iaload, 1) := by decide +kernel
theorem d3_135 : decode prog_219_method_8_code 135 = .ok (.aload_n 0, 1) := by decide +kernel
theorem d3_136 : decode prog_219_method_8_code 136 = .ok (.getfield 16, 3) := by decide +kernel
theorem d3_139 : decode prog_219_method_8_code 139 = .ok (.iconst 0, 1) := by decide +kernel
theorem d3_140 : decode prog_219_method_8_code 140 = .ok (.daload, 1) := by decide +kernel
theorem d3_141 : decode prog_219_method_8_code 141 = .ok (.iload_n 1, 1) := by decide +kernel
theorem d3_142 : decode prog_219_method_8_code 142 = .ok (.dload_n 2, 1) := by decide +kernel
theorem d3_143 : decode prog_219_method_8_code 143 = .ok (.invokevirtual 33, 3) := by decide +kernel
theorem d3_146 : decode prog_219_method_8_code 146 = .ok (.ifCond .eq 16, 3) := by decide +kernel
theorem d3_149 : decode prog_219_method_8_code 149 = .ok (.aload_n 0, 1) := by decide +kernel
theorem d3_150 : decode prog_219_method_8_code 150 = .ok (.iload_n 1, 1) := by decide +kernel
theorem d3_151 : decode prog_219_method_8_code 151 = .ok (.dload_n 2, 1) := by decide +kernel
theorem d3_152 : decode prog_219_method_8_code 152 = .ok (.aload_n 0, 1) := by decide +kernel
theorem d3_153 : decode prog_219_method_8_code 153 = .ok (.getfield 23, 3) := by decide +kernel
theorem d3_156 : decode prog_219_method_8_code 156 = .ok (.invokevirtual 37, 3) := by decide +kernel
theorem d3_159 : decode prog_219_method_8_code 159 = .ok (.goto 6, 3) := by decide +kernel
theorem d3_162 : decode prog_219_method_8_code 162 = .ok (.iconst 0, 1) := by decide +kernel
theorem d3_163 : decode prog_219_method_8_code 163 = .ok (.istore 4, 2) := by decide +kernel
theorem d3_165 : decode prog_219_method_8_code 165 = .ok (.iload 4, 2) := by decide +kernel
theorem d3_167 : decode prog_219_method_8_code 167 = .ok (.ireturn, 1) := by decide +kernel
theorem pn_rmO00 : plainFor (⟨"com/example/thinleaf/thinleaf/prune/Nearest", "offer", "(ID)Z"⟩ : MethodName) = true := by decide +kernel
theorem ef_rmO00 (m : MethodId) (x0 : Addr) (x1 : Int32) (x2 : UInt64) : entryFrame m #[(.ref x0), (.int x1), (.double x2)] 7 = mkF m 0 #[rv x0, iv x1, own_dv x2, .second, .unset, .unset, .unset] [] := by first | (simp [entryFrame, mkF, argsToLocals, Value.category]; done) | rfl
set_option maxRecDepth 65536 in
set_option maxHeartbeats 40000000 in
theorem rmO00 (l : Launch) (Z : State) (a0 : Array Value) (hw : ∀ d ∈ tables_1, d.before a0 Z = true) (r bn bc : Addr) (kn kc : ClassId) (pv : Value) (num : Int32) (v : Int64) (h0 : Heap) (n0 : Nat) (NB : own_NE Z h0 n0 r bn bc kn kc pv (0 : Int32) (0 : Int32) [] []) (hnum : own_d num) (hv : own_b v) :
    own_Met l Z (⟨"com/example/thinleaf/thinleaf/prune/Nearest", "offer", "(ID)Z"⟩ : MethodName) prog_219_method_8_code 7 (some .boolean) [] ({ frames := 2, cells := 0, slots := 0, locals := 36 } : Room) #[(.ref r), (.int num), (.double (FP.l2d v))] h0 (fun z h L => (∃ q : Int32, z = some (.int q)) ∧ Fr n0 L ∧ own_NE Z h n0 r bn bc kn kc pv (0 : Int32) (0 : Int32) [] []) := by
  refine own_body pn_rmO00 ?_
  intro p e s m below meth c s₁ hx hby hml hown hnm hret hlk hZ X0 e0 G hG
  replace hml : c.maxLocals = 7 := hml
  replace hown : s.vm.findClass "com/example/thinleaf/thinleaf/prune/Nearest" = some m.cls := hown
  rw [ef_rmO00]
  obtain ⟨E_r, F_numbers_r, F_cosines_r, F_places_r, F_size_r, V_bn, V_bc, Pl, nrn, nrc, nnc, g_r, g_bn, g_bc, Z0⟩ := NB
  have N0 := Fr.nil n0
  show own_Go p e below G (s₁.setTop (mkF m 0 #[rv r, iv num, own_dv (FP.l2d v), .second, .unset, .unset, .unset] []))
  refine own_st (fun t k => XS.iconst X0.here hx rfl (hb hby d3_0) k) ?_
  refine own_st (fun t k => XS.istore X0.here hx rfl (hb hby d3_1) rfl (l' := #[rv r, iv num, own_dv (FP.l2d v), .second, iv 1, .unset, .unset]) rfl k) ?_
  refine own_st (fun t k => XS.aloadN X0.here hx rfl (hb hby d3_3) rfl rfl  k) ?_
  show own_Go p e below G (s₁.setTop (mkF m 4 #[rv r, iv num, own_dv (FP.l2d v), .second, iv 1, .unset, .unset] [(.ref r)]))
  obtain ⟨T1, X1, e1, st1⟩ := getF X0 hx hZ hown (host := "") (Or.inl (hw _ (List.mem_of_getElem? (i := 22) rfl))) Via.refl e0 F_size_r (g := (mkF m 4 #[rv r, iv num, own_dv (FP.l2d v), .second, iv 1, .unset, .unset] [(.ref r)])) rfl rfl (hb hby d3_4)
  refine own_st st1 ?_
  show own_Go p e below G (T1.setTop (mkF m 7 #[rv r, iv num, own_dv (FP.l2d v), .second, iv 1, .unset, .unset] [(.int (0 : Int32))]))
  refine own_st (fun t k => XS.aloadN X1.here hx rfl (hb hby d3_7) rfl rfl  k) ?_
  show own_Go p e below G (T1.setTop (mkF m 8 #[rv r, iv num, own_dv (FP.l2d v), .second, iv 1, .unset, .unset] [(.ref r), (.int (0 : Int32))]))
  obtain ⟨T2, X2, e2, st2⟩ := getF X1 hx hZ hown (host := "") (Or.inl (hw _ (List.mem_of_getElem? (i := 10) rfl))) Via.refl e1 F_numbers_r (g := (mkF m 8 #[rv r, iv num, own_dv (FP.l2d v), .second, iv 1, .unset, .unset] [(.ref r), (.int (0 : Int32))])) rfl rfl (hb hby d3_8)
  refine own_st st2 ?_
  show own_Go p e below G (T2.setTop (mkF m 11 #[rv r, iv num, own_dv (FP.l2d v), .second, iv 1, .unset, .unset] [(.ref bn), (.int (0 : Int32))]))
  have Vc3 := V_bn
  obtain ⟨cl3, Ar3, -, Sa3, Na3, -, -⟩ := Vc3
  refine own_st (fun t k => X2.arraylength hx (by rw [e2]; exact Ar3.1) (State.isArrayOf_alike hZ.alike Ar3.2.1) (g := (mkF m 11 #[rv r, iv num, own_dv (FP.l2d v), .second, iv 1, .unset, .unset] [(.ref bn), (.int (0 : Int32))])) rfl rfl (hb hby d3_11) t k) ?_
  rw [len_of Sa3 Na3]
  show own_Go p e below G (T2.setTop (mkF m 12 #[rv r, iv num, own_dv (FP.l2d v), .second, iv 1, .unset, .unset] [(.int (0 : Int32)), (.int (0 : Int32))]))
  refine own_st (fun t k => XS.icmpYes X2.here hx rfl (pc0 := 12) (pc' := 121) rfl (hb hby d3_12) rfl (flt (by decide)).2.1 (by decide) (by decide) k) ?_
  show own_Go p e below G (T2.setTop (mkF m 121 #[rv r, iv num, own_dv (FP.l2d v), .second, iv 1, .unset, .unset] []))
  refine own_st (fun t k => XS.aloadN X2.here hx rfl (hb hby d3_121) rfl rfl  k) ?_
  show own_Go p e below G (T2.setTop (mkF m 122 #[rv r, iv num, own_dv (FP.l2d v), .second, iv 1, .unset, .unset] [(.ref r)]))
  obtain ⟨T4, X4, e4, st4⟩ := getF X2 hx hZ hown (host := "") (Or.inl (hw _ (List.mem_of_getElem? (i := 22) rfl))) Via.refl e2 F_size_r (g := (mkF m 122 #[rv r, iv num, own_dv (FP.l2d v), .second, iv 1, .unset, .unset] [(.ref r)])) rfl rfl (hb hby d3_122)
  refine own_st st4 ?_
  show own_Go p e below G (T4.setTop (mkF m 125 #[rv r, iv num, own_dv (FP.l2d v), .second, iv 1, .unset, .unset] [(.int (0 : Int32))]))
  refine own_st (fun t k => XS.ifYes X4.here hx rfl (pc0 := 125) (pc' := 162) rfl (hb hby d3_125) rfl ((if0 _ _).trans (flt (by decide)).2.2.2) (by decide) (by decide) k) ?_
  show own_Go p e below G (T4.setTop (mkF m 162 #[rv r, iv num, own_dv (FP.l2d v), .second, iv 1, .unset, .unset] []))
  refine own_st (fun t k => XS.iconst X4.here hx rfl (hb hby d3_162) k) ?_
  refine own_st (fun t k => XS.istore X4.here hx rfl (hb hby d3_163) rfl (l' := #[rv r, iv num, own_dv (FP.l2d v), .second, iv 0, .unset, .unset]) rfl k) ?_
  refine own_st (fun t k => XS.iload X4.here hx rfl (hb hby d3_165) rfl  k) ?_
  show own_Go p e below G (T4.setTop (mkF m 167 #[rv r, iv num, own_dv (FP.l2d v), .second, iv 0, .unset, .unset] [(.int (0 : Int32))]))
  rw [hG]
  exact own_retZ X4 hx hlk (t := .boolean) hret (by simp) (hb hby d3_167) (by rw [e4]; exact ⟨⟨_, rfl⟩, N0, ⟨E_r, F_numbers_r, F_cosines_r, F_places_r, F_size_r, V_bn, V_bc, Pl, nrn, nrc, nnc, g_r, g_bn, g_bc, Z0⟩⟩) (by decide) (by decide)
theorem pn_rmO10 : plainFor (⟨"com/example/thinleaf/thinleaf/prune/Nearest", "offer", "(ID)Z"⟩ : MethodName) = true := by decide +kernel
theorem ef_rmO10 (m : MethodId) (x0 : Addr) (x1 : Int32) (x2 : UInt64) : entryFrame m #[(.ref x0), (.int x1), (.double x2)] 7 = mkF m 0 #[rv x0, iv x1, own_dv x2, .second, .unset, .unset, .unset] [] := by first | (simp [entryFrame, mkF, argsToLocals, Value.category]; done) | rfl
set_option maxRecDepth 65536 in
set_option maxHeartbeats 40000000 in
theorem rmO10 (l : Launch) (Z : State) (a0 : Array Value) (hw : ∀ d ∈ tables_1, d.before a0 Z = true) (r bn bc : Addr) (kn kc : ClassId) (pv : Value) (num : Int32) (v : Int64) (h0 : Heap) (n0 : Nat) (NB : own_NE Z h0 n0 r bn bc kn kc pv (1 : Int32) (0 : Int32) [(.int (0 : Int32))] [(.double (0 : UInt64))]) (hnum : own_d num) (hv : own_b v) :
    own_Met l Z (⟨"com/example/thinleaf/thinleaf/prune/Nearest", "offer", "(ID)Z"⟩ : MethodName) prog_219_method_8_code 7 (some .boolean) [] ({ frames := 2, cells := 0, slots := 0, locals := 36 } : Room) #[(.ref r), (.int num), (.double (FP.l2d v))] h0 (fun z h L => (∃ q : Int32, z = some (.int q)) ∧ Fr n0 L ∧ ∃ (p0 : Int32) (d0 : Int64), own_NE Z h n0 r bn bc kn kc pv (1 : Int32) (1 : Int32) [(.int p0)] [(.double (FP.l2d d0))] ∧ own_d p0 ∧ own_b d0 ∧ own_R10  v d0) := by
  refine own_body pn_rmO10 ?_
  intro p e s m below meth c s₁ hx hby hml hown hnm hret hlk hZ X0 e0 G hG
  replace hml : c.maxLocals = 7 := hml
  replace hown : s.vm.findClass "com/example/thinleaf/thinleaf/prune/Nearest" = some m.cls := hown
  rw [ef_rmO10]
  obtain ⟨E_r, F_numbers_r, F_cosines_r, F_places_r, F_size_r, V_bn, V_bc, Pl, nrn, nrc, nnc, g_r, g_bn, g_bc, Z0⟩ := NB
  have N0 := Fr.nil n0
  show own_Go p e below G (s₁.setTop (mkF m 0 #[rv r, iv num, own_dv (FP.l2d v), .second, .unset, .unset, .unset] []))
  refine own_st (fun t k => XS.iconst X0.here hx rfl (hb hby d3_0) k) ?_
  refine own_st (fun t k => XS.istore X0.here hx rfl (hb hby d3_1) rfl (l' := #[rv r, iv num, own_dv (FP.l2d v), .second, iv 1, .unset, .unset]) rfl k) ?_
  refine own_st (fun t k => XS.aloadN X0.here hx rfl (hb hby d3_3) rfl rfl  k) ?_
  show own_Go p e below G (s₁.setTop (mkF m 4 #[rv r, iv num, own_dv (FP.l2d v), .second, iv 1, .unset, .unset] [(.ref r)]))
  obtain ⟨T1, X1, e1, st1⟩ := getF X0 hx hZ hown (host := "") (Or.inl (hw _ (List.mem_of_getElem? (i := 22) rfl))) Via.refl e0 F_size_r (g := (mkF m 4 #[rv r, iv num, own_dv (FP.l2d v), .second, iv 1, .unset, .unset] [(.ref r)])) rfl rfl (hb hby d3_4)
  refine own_st st1 ?_
  show own_Go p e below G (T1.setTop (mkF m 7 #[rv r, iv num, own_dv (FP.l2d v), .second, iv 1, .unset, .unset] [(.int (0 : Int32))]))
  refine own_st (fun t k => XS.aloadN X1.here hx rfl (hb hby d3_7) rfl rfl  k) ?_
  show own_Go p e below G (T1.setTop (mkF m 8 #[rv r, iv num, own_dv (FP.l2d v), .second, iv 1, .unset, .unset] [(.ref r), (.int (0 : Int32))]))
  obtain ⟨T2, X2, e2, st2⟩ := getF X1 hx hZ hown (host := "") (Or.inl (hw _ (List.mem_of_getElem? (i := 10) rfl))) Via.refl e1 F_numbers_r (g := (mkF m 8 #[rv r, iv num, own_dv (FP.l2d v), .second, iv 1, .unset, .unset] [(.ref r), (.int (0 : Int32))])) rfl rfl (hb hby d3_8)
  refine own_st st2 ?_
  show own_Go p e below G (T2.setTop (mkF m 11 #[rv r, iv num, own_dv (FP.l2d v), .second, iv 1, .unset, .unset] [(.ref bn), (.int (0 : Int32))]))
  have Vc3 := V_bn
  obtain ⟨cl3, Ar3, -, Sa3, Na3, -, -⟩ := Vc3
  refine own_st (fun t k => X2.arraylength hx (by rw [e2]; exact Ar3.1) (State.isArrayOf_alike hZ.alike Ar3.2.1) (g := (mkF m 11 #[rv r, iv num, own_dv (FP.l2d v), .second, iv 1, .unset, .unset] [(.ref bn), (.int (0 : Int32))])) rfl rfl (hb hby d3_11) t k) ?_
  rw [len_of Sa3 Na3]
  show own_Go p e below G (T2.setTop (mkF m 12 #[rv r, iv num, own_dv (FP.l2d v), .second, iv 1, .unset, .unset] [(.int (1 : Int32)), (.int (0 : Int32))]))
  refine own_st (fun t k => XS.icmpNo X2.here hx rfl (hb hby d3_12) rfl (tlt (by decide)).2.1 k) ?_
  show own_Go p e below G (T2.setTop (mkF m 15 #[rv r, iv num, own_dv (FP.l2d v), .second, iv 1, .unset, .unset] []))
  refine own_st (fun t k => XS.aloadN X2.here hx rfl (hb hby d3_15) rfl rfl  k) ?_
  refine own_st (fun t k => XS.dup X2.here hx rfl (hb hby d3_16) rfl rfl k) ?_
  show own_Go p e below G (T2.setTop (mkF m 17 #[rv r, iv num, own_dv (FP.l2d v), .second, iv 1, .unset, .unset] [(.ref r), (.ref r)]))
  obtain ⟨T4, X4, e4, st4⟩ := getF X2 hx hZ hown (host := "") (Or.inl (hw _ (List.mem_of_getElem? (i := 22) rfl))) Via.refl e2 F_size_r (g := (mkF m 17 #[rv r, iv num, own_dv (FP.l2d v), .second, iv 1, .unset, .unset] [(.ref r), (.ref r)])) rfl rfl (hb hby d3_17)
  refine own_st st4 ?_
  show own_Go p e below G (T4.setTop (mkF m 20 #[rv r, iv num, own_dv (FP.l2d v), .second, iv 1, .unset, .unset] [(.int (0 : Int32)), (.ref r)]))
  refine own_st (fun t k => XS.dupX1 X4.here hx rfl (hb hby d3_20) rfl rfl rfl k) ?_
  show own_Go p e below G (T4.setTop (mkF m 21 #[rv r, iv num, own_dv (FP.l2d v), .second, iv 1, .unset, .unset] [(.int (0 : Int32)), (.ref r), (.int (0 : Int32))]))
  refine own_st (fun t k => XS.iconst X4.here hx rfl (hb hby d3_21) k) ?_
  refine own_st (fun t k => XS.iadd X4.here hx rfl (hb hby d3_22) rfl k) ?_
  show own_Go p e below G (T4.setTop (mkF m 23 #[rv r, iv num, own_dv (FP.l2d v), .second, iv 1, .unset, .unset] [(.int (1 : Int32)), (.ref r), (.int (0 : Int32))]))
  obtain ⟨T5, h5, X5, e5, W5, st5⟩ := putF X4 hx hZ hown (host := "") (Or.inl (hw _ (List.mem_of_getElem? (i := 22) rfl))) Via.refl e4 F_size_r E_r (Or.inl (hw _ (List.mem_of_getElem? (i := 23) rfl))) (hw _ (List.mem_of_getElem? (i := 2) rfl)) (ty := .int) (by decide) rfl rfl (g := (mkF m 23 #[rv r, iv num, own_dv (FP.l2d v), .second, iv 1, .unset, .unset] [(.int (1 : Int32)), (.ref r), (.int (0 : Int32))])) rfl rfl (hb hby d3_23)
  replace E_r := E_r.wr W5
  replace F_numbers_r := F_numbers_r.other W5 (Or.inr (slot_ne (Or.inr (hw _ (List.mem_of_getElem? (i := 11) rfl))) (Or.inl (hw _ (List.mem_of_getElem? (i := 23) rfl))) (by decide) (t := (.array .int)) (t' := .int) (by decide) (by decide)))
  replace F_cosines_r := F_cosines_r.other W5 (Or.inr (slot_ne (Or.inr (hw _ (List.mem_of_getElem? (i := 14) rfl))) (Or.inl (hw _ (List.mem_of_getElem? (i := 23) rfl))) (by decide) (t := (.array .double)) (t' := .int) (by decide) (by decide)))
  replace F_places_r := F_places_r.other W5 (Or.inr (slot_ne (Or.inr (hw _ (List.mem_of_getElem? (i := 16) rfl))) (Or.inl (hw _ (List.mem_of_getElem? (i := 23) rfl))) (by decide) (t := (.array .int)) (t' := .int) (by decide) (by decide)))
  replace F_size_r := F_size_r.same W5
  replace V_bn := V_bn.other W5 (Ne.symm nrn)
  replace V_bc := V_bc.other W5 (Ne.symm nrc)
  replace Pl := own_PlW Pl W5 (List.mem_of_getElem? (i := 0) rfl)
  replace Z0 := Nat.le_trans Z0 (Keep.of_wr W5).1
  replace N0 := Fr.snoc X5 N0 g_r
  refine own_st st5 ?_
  show own_Go p e below G (T5.setTop (mkF m 26 #[rv r, iv num, own_dv (FP.l2d v), .second, iv 1, .unset, .unset] [(.int (0 : Int32))]))
  refine own_st (fun t k => XS.istore X5.here hx rfl (hb hby d3_26) rfl (l' := #[rv r, iv num, own_dv (FP.l2d v), .second, iv 1, iv 0, .unset]) rfl k) ?_
  refine own_st (fun t k => XS.iload X5.here hx rfl (hb hby d3_28) rfl  k) ?_
  show own_Go p e below G (T5.setTop (mkF m 30 #[rv r, iv num, own_dv (FP.l2d v), .second, iv 1, iv 0, .unset] [(.int (0 : Int32))]))
  refine own_st (fun t k => XS.ifYes X5.here hx rfl (pc0 := 30) (pc' := 102) rfl (hb hby d3_30) rfl ((if0 _ _).trans (flt (by decide)).2.2.2) (by decide) (by decide) k) ?_
  show own_Go p e below G (T5.setTop (mkF m 102 #[rv r, iv num, own_dv (FP.l2d v), .second, iv 1, iv 0, .unset] []))
  refine own_st (fun t k => XS.aloadN X5.here hx rfl (hb hby d3_102) rfl rfl  k) ?_
  show own_Go p e below G (T5.setTop (mkF m 103 #[rv r, iv num, own_dv (FP.l2d v), .second, iv 1, iv 0, .unset] [(.ref r)]))
  obtain ⟨T6, X6, e6, st6⟩ := getF X5 hx hZ hown (host := "") (Or.inl (hw _ (List.mem_of_getElem? (i := 10) rfl))) Via.refl e5 F_numbers_r (g := (mkF m 103 #[rv r, iv num, own_dv (FP.l2d v), .second, iv 1, iv 0, .unset] [(.ref r)])) rfl rfl (hb hby d3_103)
  refine own_st st6 ?_
  show own_Go p e below G (T6.setTop (mkF m 106 #[rv r, iv num, own_dv (FP.l2d v), .second, iv 1, iv 0, .unset] [(.ref bn)]))
  refine own_st (fun t k => XS.iload X6.here hx rfl (hb hby d3_106) rfl  k) ?_
  refine own_st (fun t k => XS.iloadN X6.here hx rfl (hb hby d3_108) rfl  k) ?_
  show own_Go p e below G (T6.setTop (mkF m 109 #[rv r, iv num, own_dv (FP.l2d v), .second, iv 1, iv 0, .unset] [(.int num), (.int (0 : Int32)), (.ref bn)]))
  obtain ⟨cl7, Ar7, qa7, Sa7, Na7, Ha7, Ga7⟩ := V_bn
  have hin7 : ¬ ((0 : Int32) < 0 ∨ cl7.slots.size ≤ ((0 : Int32)).toNatClampNeg) := inb_of Sa7 ⟨by decide, by decide⟩
  obtain ⟨T7, h7, X7, e7, W7, st7⟩ := stI X6 hx hZ e6 Ar7 (j := (0 : Int32)) hin7 (g := (mkF m 109 #[rv r, iv num, own_dv (FP.l2d v), .second, iv 1, iv 0, .unset] [(.int num), (.int (0 : Int32)), (.ref bn)])) rfl rfl (hb hby d3_109)
  have V_bn : Arv Z h7 bn kn .int (1 : Int32) [(.int num)] (.int (0 : Int32)) := Arv.set Ar7 qa7 Sa7 Na7 Ha7 Ga7 rfl W7 0 rfl (Nat.le_of_ble_eq_true rfl)
  replace E_r := E_r.wr W7
  replace F_numbers_r := F_numbers_r.other W7 (Or.inl nrn)
  replace F_cosines_r := F_cosines_r.other W7 (Or.inl nrn)
  replace F_places_r := F_places_r.other W7 (Or.inl nrn)
  replace F_size_r := F_size_r.other W7 (Or.inl nrn)
  replace V_bc := V_bc.other W7 (Ne.symm nnc)
  replace Pl := own_PlW Pl W7 (List.mem_of_getElem? (i := 1) rfl)
  replace Z0 := Nat.le_trans Z0 (Keep.of_wr W7).1
  replace N0 := Fr.snoc X7 N0 g_bn
  refine own_st st7 ?_
  show own_Go p e below G (T7.setTop (mkF m 110 #[rv r, iv num, own_dv (FP.l2d v), .second, iv 1, iv 0, .unset] []))
  refine own_st (fun t k => XS.aloadN X7.here hx rfl (hb hby d3_110) rfl rfl  k) ?_
  show own_Go p e below G (T7.setTop (mkF m 111 #[rv r, iv num, own_dv (FP.l2d v), .second, iv 1, iv 0, .unset] [(.ref r)]))
  obtain ⟨T8, X8, e8, st8⟩ := getF X7 hx hZ hown (host := "") (Or.inl (hw _ (List.mem_of_getElem? (i := 13) rfl))) Via.refl e7 F_cosines_r (g := (mkF m 111 #[rv r, iv num, own_dv (FP.l2d v), .second, iv 1, iv 0, .unset] [(.ref r)])) rfl rfl (hb hby d3_111)
  refine own_st st8 ?_
  show own_Go p e below G (T8.setTop (mkF m 114 #[rv r, iv num, own_dv (FP.l2d v), .second, iv 1, iv 0, .unset] [(.ref bc)]))
  refine own_st (fun t k => XS.iload X8.here hx rfl (hb hby d3_114) rfl  k) ?_
  refine own_st (fun t k => XS.dloadN X8.here hx rfl (hb hby d3_116) rfl  k) ?_
  show own_Go p e below G (T8.setTop (mkF m 117 #[rv r, iv num, own_dv (FP.l2d v), .second, iv 1, iv 0, .unset] [(.double (FP.l2d v)), (.int (0 : Int32)), (.ref bc)]))
  obtain ⟨cl9, Ar9, qa9, Sa9, Na9, Ha9, Ga9⟩ := V_bc
  have hin9 : ¬ ((0 : Int32) < 0 ∨ cl9.slots.size ≤ ((0 : Int32)).toNatClampNeg) := inb_of Sa9 ⟨by decide, by decide⟩
  obtain ⟨T9, h9, X9, e9, W9, st9⟩ := stD X8 hx hZ e8 Ar9 (j := (0 : Int32)) hin9 (g := (mkF m 117 #[rv r, iv num, own_dv (FP.l2d v), .second, iv 1, iv 0, .unset] [(.double (FP.l2d v)), (.int (0 : Int32)), (.ref bc)])) rfl rfl (hb hby d3_117)
  have V_bc : Arv Z h9 bc kc .double (1 : Int32) [(.double (FP.l2d v))] (.double (0 : UInt64)) := Arv.set Ar9 qa9 Sa9 Na9 Ha9 Ga9 rfl W9 0 rfl (Nat.le_of_ble_eq_true rfl)
  replace E_r := E_r.wr W9
  replace F_numbers_r := F_numbers_r.other W9 (Or.inl nrc)
  replace F_cosines_r := F_cosines_r.other W9 (Or.inl nrc)
  replace F_places_r := F_places_r.other W9 (Or.inl nrc)
  replace F_size_r := F_size_r.other W9 (Or.inl nrc)
  replace V_bn := V_bn.other W9 nnc
  replace Pl := own_PlW Pl W9 (List.mem_of_getElem? (i := 2) rfl)
  replace Z0 := Nat.le_trans Z0 (Keep.of_wr W9).1
  replace N0 := Fr.snoc X9 N0 g_bc
  refine own_st st9 ?_
  show own_Go p e below G (T9.setTop (mkF m 118 #[rv r, iv num, own_dv (FP.l2d v), .second, iv 1, iv 0, .unset] []))
  refine own_st (fun t k => XS.goto X9.here hx rfl (pc0 := 118) (pc' := 165) rfl (hb hby d3_118) (by decide) (by decide) k) ?_
  refine own_st (fun t k => XS.iload X9.here hx rfl (hb hby d3_165) rfl  k) ?_
  show own_Go p e below G (T9.setTop (mkF m 167 #[rv r, iv num, own_dv (FP.l2d v), .second, iv 1, iv 0, .unset] [(.int (1 : Int32))]))
  rw [hG]
  exact own_retZ X9 hx hlk (t := .boolean) hret (by simp) (hb hby d3_167) (by rw [e9]; exact ⟨⟨_, rfl⟩, N0, num, v, ⟨E_r, F_numbers_r, F_cosines_r, F_places_r, F_size_r, V_bn, V_bc, Pl, nrn, nrc, nnc, g_r, g_bn, g_bc, Z0⟩, hnum, hv, rfl⟩) (by decide) (by decide)
theorem pn_rmO11 : plainFor (⟨"com/example/thinleaf/thinleaf/prune/Nearest", "offer", "(ID)Z"⟩ : MethodName) = true := by decide +kernel
theorem ef_rmO11 (m : MethodId) (x0 : Addr) (x1 : Int32) (x2 : UInt64) : entryFrame m #[(.ref x0), (.int x1), (.double x2)] 7 = mkF m 0 #[rv x0, iv x1, own_dv x2, .second, .unset, .unset, .unset] [] := by first | (simp [entryFrame, mkF, argsToLocals, Value.category]; done) | rfl
set_option maxRecDepth 65536 in
set_option maxHeartbeats 40000000 in
theorem rmO11 (l : Launch) (Z : State) (a0 : Array Value) (hw : ∀ d ∈ tables_1, d.before a0 Z = true) (r bn bc : Addr) (kn kc : ClassId) (pv : Value) (num : Int32) (v : Int64)(m0 : Int32) (c0 : Int64) (h0 : Heap) (n0 : Nat) (NB : own_NE Z h0 n0 r bn bc kn kc pv (1 : Int32) (1 : Int32) [(.int m0)] [(.double (FP.l2d c0))]) (hm0 : own_d m0) (hc0 : own_b c0) (hnum : own_d num) (hv : own_b v) :
    own_Met l Z (⟨"com/example/thinleaf/thinleaf/prune/Nearest", "offer", "(ID)Z"⟩ : MethodName) prog_219_method_8_code 7 (some .boolean) [] ({ frames := 2, cells := 0, slots := 0, locals := 36 } : Room) #[(.ref r), (.int num), (.double (FP.l2d v))] h0 (fun z h L => (∃ q : Int32, z = some (.int q)) ∧ Fr n0 L ∧ ∃ (p0 : Int32) (d0 : Int64), own_NE Z h n0 r bn bc kn kc pv (1 : Int32) (1 : Int32) [(.int p0)] [(.double (FP.l2d d0))] ∧ own_d p0 ∧ own_b d0 ∧ own_R11 c0 v d0) := by
  refine own_body pn_rmO11 ?_
  intro p e s m below meth c s₁ hx hby hml hown hnm hret hlk hZ X0 e0 G hG
  replace hml : c.maxLocals = 7 := hml
  replace hown : s.vm.findClass "com/example/thinleaf/thinleaf/prune/Nearest" = some m.cls := hown
  rw [ef_rmO11]
  obtain ⟨E_r, F_numbers_r, F_cosines_r, F_places_r, F_size_r, V_bn, V_bc, Pl, nrn, nrc, nnc, g_r, g_bn, g_bc, Z0⟩ := NB
  have N0 := Fr.nil n0
  show own_Go p e below G (s₁.setTop (mkF m 0 #[rv r, iv num, own_dv (FP.l2d v), .second, .unset, .unset, .unset] []))
  refine own_st (fun t k => XS.iconst X0.here hx rfl (hb hby d3_0) k) ?_
  refine own_st (fun t k => XS.istore X0.here hx rfl (hb hby d3_1) rfl (l' := #[rv r, iv num, own_dv (FP.l2d v), .second, iv 1, .unset, .unset]) rfl k) ?_
  refine own_st (fun t k => XS.aloadN X0.here hx rfl (hb hby d3_3) rfl rfl  k) ?_
  show own_Go p e below G (s₁.setTop (mkF m 4 #[rv r, iv num, own_dv (FP.l2d v), .second, iv 1, .unset, .unset] [(.ref r)]))
  obtain ⟨T1, X1, e1, st1⟩ := getF X0 hx hZ hown (host := "") (Or.inl (hw _ (List.mem_of_getElem? (i := 22) rfl))) Via.refl e0 F_size_r (g := (mkF m 4 #[rv r, iv num, own_dv (FP.l2d v), .second, iv 1, .unset, .unset] [(.ref r)])) rfl rfl (hb hby d3_4)
  refine own_st st1 ?_
  show own_Go p e below G (T1.setTop (mkF m 7 #[rv r, iv num, own_dv (FP.l2d v), .second, iv 1, .unset, .unset] [(.int (1 : Int32))]))
  refine own_st (fun t k => XS.aloadN X1.here hx rfl (hb hby d3_7) rfl rfl  k) ?_
  show own_Go p e below G (T1.setTop (mkF m 8 #[rv r, iv num, own_dv (FP.l2d v), .second, iv 1, .unset, .unset] [(.ref r), (.int (1 : Int32))]))
  obtain ⟨T2, X2, e2, st2⟩ := getF X1 hx hZ hown (host := "") (Or.inl (hw _ (List.mem_of_getElem? (i := 10) rfl))) Via.refl e1 F_numbers_r (g := (mkF m 8 #[rv r, iv num, own_dv (FP.l2d v), .second, iv 1, .unset, .unset] [(.ref r), (.int (1 : Int32))])) rfl rfl (hb hby d3_8)
  refine own_st st2 ?_
  show own_Go p e below G (T2.setTop (mkF m 11 #[rv r, iv num, own_dv (FP.l2d v), .second, iv 1, .unset, .unset] [(.ref bn), (.int (1 : Int32))]))
  have Vc3 := V_bn
  obtain ⟨cl3, Ar3, -, Sa3, Na3, -, -⟩ := Vc3
  refine own_st (fun t k => X2.arraylength hx (by rw [e2]; exact Ar3.1) (State.isArrayOf_alike hZ.alike Ar3.2.1) (g := (mkF m 11 #[rv r, iv num, own_dv (FP.l2d v), .second, iv 1, .unset, .unset] [(.ref bn), (.int (1 : Int32))])) rfl rfl (hb hby d3_11) t k) ?_
  rw [len_of Sa3 Na3]
  show own_Go p e below G (T2.setTop (mkF m 12 #[rv r, iv num, own_dv (FP.l2d v), .second, iv 1, .unset, .unset] [(.int (1 : Int32)), (.int (1 : Int32))]))
  refine own_st (fun t k => XS.icmpYes X2.here hx rfl (pc0 := 12) (pc' := 121) rfl (hb hby d3_12) rfl (flt (by decide)).2.1 (by decide) (by decide) k) ?_
  show own_Go p e below G (T2.setTop (mkF m 121 #[rv r, iv num, own_dv (FP.l2d v), .second, iv 1, .unset, .unset] []))
  refine own_st (fun t k => XS.aloadN X2.here hx rfl (hb hby d3_121) rfl rfl  k) ?_
  show own_Go p e below G (T2.setTop (mkF m 122 #[rv r, iv num, own_dv (FP.l2d v), .second, iv 1, .unset, .unset] [(.ref r)]))
  obtain ⟨T4, X4, e4, st4⟩ := getF X2 hx hZ hown (host := "") (Or.inl (hw _ (List.mem_of_getElem? (i := 22) rfl))) Via.refl e2 F_size_r (g := (mkF m 122 #[rv r, iv num, own_dv (FP.l2d v), .second, iv 1, .unset, .unset] [(.ref r)])) rfl rfl (hb hby d3_122)
  refine own_st st4 ?_
  show own_Go p e below G (T4.setTop (mkF m 125 #[rv r, iv num, own_dv (FP.l2d v), .second, iv 1, .unset, .unset] [(.int (1 : Int32))]))
  refine own_st (fun t k => XS.ifNo X4.here hx rfl (hb hby d3_125) rfl ((if0 _ _).trans (tlt (by decide)).2.2.2) k) ?_
  show own_Go p e below G (T4.setTop (mkF m 128 #[rv r, iv num, own_dv (FP.l2d v), .second, iv 1, .unset, .unset] []))
  refine own_st (fun t k => XS.aloadN X4.here hx rfl (hb hby d3_128) rfl rfl  k) ?_
  refine own_st (fun t k => XS.aloadN X4.here hx rfl (hb hby d3_129) rfl rfl  k) ?_
  show own_Go p e below G (T4.setTop (mkF m 130 #[rv r, iv num, own_dv (FP.l2d v), .second, iv 1, .unset, .unset] [(.ref r), (.ref r)]))
  obtain ⟨T5, X5, e5, st5⟩ := getF X4 hx hZ hown (host := "") (Or.inl (hw _ (List.mem_of_getElem? (i := 10) rfl))) Via.refl e4 F_numbers_r (g := (mkF m 130 #[rv r, iv num, own_dv (FP.l2d v), .second, iv 1, .unset, .unset] [(.ref r), (.ref r)])) rfl rfl (hb hby d3_130)
  refine own_st st5 ?_
  show own_Go p e below G (T5.setTop (mkF m 133 #[rv r, iv num, own_dv (FP.l2d v), .second, iv 1, .unset, .unset] [(.ref bn), (.ref r)]))
  refine own_st (fun t k => XS.iconst X5.here hx rfl (hb hby d3_133) k) ?_
  show own_Go p e below G (T5.setTop (mkF m 134 #[rv r, iv num, own_dv (FP.l2d v), .second, iv 1, .unset, .unset] [(.int (0 : Int32)), (.ref bn), (.ref r)]))
  have Vc6 := V_bn
  obtain ⟨cl6, Ar6, -, Sa6, -, Ha6, -⟩ := Vc6
  have hin6 : ¬ ((0 : Int32) < 0 ∨ cl6.slots.size ≤ ((0 : Int32)).toNatClampNeg) := inb_of Sa6 ⟨by decide, by decide⟩
  refine own_st (fun t k => X5.iaload hx (j := (0 : Int32)) (v := (.int m0)) (by rw [e5]; exact Ar6.1) (State.isArrayOf_alike hZ.alike Ar6.2.1) Ar6.2.2 hin6 (Ha6.at hin6 rfl) (g := (mkF m 134 #[rv r, iv num, own_dv (FP.l2d v), .second, iv 1, .unset, .unset] [(.int (0 : Int32)), (.ref bn), (.ref r)])) rfl rfl (hb hby d3_134) t k) ?_
  show own_Go p e below G (T5.setTop (mkF m 135 #[rv r, iv num, own_dv (FP.l2d v), .second, iv 1, .unset, .unset] [(.int m0), (.ref r)]))
  refine own_st (fun t k => XS.aloadN X5.here hx rfl (hb hby d3_135) rfl rfl  k) ?_
  show own_Go p e below G (T5.setTop (mkF m 136 #[rv r, iv num, own_dv (FP.l2d v), .second, iv 1, .unset, .unset] [(.ref r), (.int m0), (.ref r)]))
  obtain ⟨T7, X7, e7, st7⟩ := getF X5 hx hZ hown (host := "") (Or.inl (hw _ (List.mem_of_getElem? (i := 13) rfl))) Via.refl e5 F_cosines_r (g := (mkF m 136 #[rv r, iv num, own_dv (FP.l2d v), .second, iv 1, .unset, .unset] [(.ref r), (.int m0), (.ref r)])) rfl rfl (hb hby d3_136)
  refine own_st st7 ?_
  show own_Go p e below G (T7.setTop (mkF m 139 #[rv r, iv num, own_dv (FP.l2d v), .second, iv 1, .unset, .unset] [(.ref bc), (.int m0), (.ref r)]))
  refine own_st (fun t k => XS.iconst X7.here hx rfl (hb hby d3_139) k) ?_
  show own_Go p e below G (T7.setTop (mkF m 140 #[rv r, iv num, own_dv (FP.l2d v), .second, iv 1, .unset, .unset] [(.int (0 : Int32)), (.ref bc), (.int m0), (.ref r)]))
  have Vc8 := V_bc
  obtain ⟨cl8, Ar8, -, Sa8, -, Ha8, -⟩ := Vc8
  have hin8 : ¬ ((0 : Int32) < 0 ∨ cl8.slots.size ≤ ((0 : Int32)).toNatClampNeg) := inb_of Sa8 ⟨by decide, by decide⟩
  refine own_st (fun t k => X7.daload hx (j := (0 : Int32)) (v := (.double (FP.l2d c0))) (by rw [e7]; exact Ar8.1) (State.isArrayOf_alike hZ.alike Ar8.2.1) Ar8.2.2 hin8 (Ha8.at hin8 rfl) (g := (mkF m 140 #[rv r, iv num, own_dv (FP.l2d v), .second, iv 1, .unset, .unset] [(.int (0 : Int32)), (.ref bc), (.int m0), (.ref r)])) rfl rfl (hb hby d3_140) t k) ?_
  show own_Go p e below G (T7.setTop (mkF m 141 #[rv r, iv num, own_dv (FP.l2d v), .second, iv 1, .unset, .unset] [(.double (FP.l2d c0)), (.int m0), (.ref r)]))
  refine own_st (fun t k => XS.iloadN X7.here hx rfl (hb hby d3_141) rfl  k) ?_
  refine own_st (fun t k => XS.dloadN X7.here hx rfl (hb hby d3_142) rfl  k) ?_
  show own_Go p e below G (T7.setTop (mkF m 143 #[rv r, iv num, own_dv (FP.l2d v), .second, iv 1, .unset, .unset] [(.double (FP.l2d v)), (.int num), (.double (FP.l2d c0)), (.int m0), (.ref r)]))
  obtain ⟨v9, T9, L9, X9, Q9, st9⟩ := own_callP X7 hx hZ (y := (⟨"com/example/thinleaf/thinleaf/prune/Nearest", "below", "(IDID)Z"⟩ : MethodName)) hown (hw _ (List.mem_of_getElem? (i := 31) rfl)) (hw _ (List.mem_of_getElem? (i := 32) rfl)) (hw _ (List.mem_of_getElem? (i := 33) rfl)) (hw _ (List.mem_of_getElem? (i := 2) rfl)) (hw _ (List.mem_of_getElem? (i := 3) rfl)) (hw _ (List.mem_of_getElem? (i := 34) rfl)) (by decide) (W := 0) (rmB l Z a0 hw r m0 c0 num v pv _ h0 F_places_r Pl hc0 hv hm0 hnum) (by decide) (by decide) e7 E_r (g := (mkF m 143 #[rv r, iv num, own_dv (FP.l2d v), .second, iv 1, .unset, .unset] [(.double (FP.l2d v)), (.int num), (.double (FP.l2d c0)), (.int m0), (.ref r)])) rfl (by rw [hml]; rfl) (argsL := [(.int m0), (.double (FP.l2d c0)), (.int num), (.double (FP.l2d v))]) (rest := []) own_pd0 rfl rfl (by show 2 * 0 + _ ≤ _; exact Nat.le_of_eq rfl) (hb hby d3_143) rfl (by decide) (by decide)
  obtain ⟨⟨q9, rfl, hq9, ht9, hf9⟩, rfl, e9⟩ := Q9
  simp only [List.append_nil, Nat.add_zero] at X9
  refine own_st st9 ?_
  show own_Go p e below G (T9.setTop (mkF m 146 #[rv r, iv num, own_dv (FP.l2d v), .second, iv 1, .unset, .unset] [(.int q9)]))
  by_cases c146_10 : q9 = (0 : Int32)
  · skip
    refine own_st (fun t k => XS.ifYes X9.here hx rfl (pc0 := 146) (pc' := 162) rfl (hb hby d3_146) rfl ((if0 _ _).trans (teq c146_10).1) (by decide) (by decide) k) ?_
    show own_Go p e below G (T9.setTop (mkF m 162 #[rv r, iv num, own_dv (FP.l2d v), .second, iv 1, .unset, .unset] []))
    refine own_st (fun t k => XS.iconst X9.here hx rfl (hb hby d3_162) k) ?_
    refine own_st (fun t k => XS.istore X9.here hx rfl (hb hby d3_163) rfl (l' := #[rv r, iv num, own_dv (FP.l2d v), .second, iv 0, .unset, .unset]) rfl k) ?_
    refine own_st (fun t k => XS.iload X9.here hx rfl (hb hby d3_165) rfl  k) ?_
    show own_Go p e below G (T9.setTop (mkF m 167 #[rv r, iv num, own_dv (FP.l2d v), .second, iv 0, .unset, .unset] [(.int (0 : Int32))]))
    rw [hG]
    exact own_retZ X9 hx hlk (t := .boolean) hret (by simp) (hb hby d3_167) (by rw [e9]; exact ⟨⟨_, rfl⟩, N0, m0, c0, ⟨E_r, F_numbers_r, F_cosines_r, F_places_r, F_size_r, V_bn, V_bc, Pl, nrn, nrc, nnc, g_r, g_bn, g_bc, Z0⟩, hm0, hc0, Or.inl ⟨(hf9 c146_10), rfl⟩⟩) (by decide) (by decide)
  · skip
    refine own_st (fun t k => XS.ifNo X9.here hx rfl (hb hby d3_146) rfl ((if0 _ _).trans (feq c146_10).1) k) ?_
    show own_Go p e below G (T9.setTop (mkF m 149 #[rv r, iv num, own_dv (FP.l2d v), .second, iv 1, .unset, .unset] []))
    refine own_st (fun t k => XS.aloadN X9.here hx rfl (hb hby d3_149) rfl rfl  k) ?_
    refine own_st (fun t k => XS.iloadN X9.here hx rfl (hb hby d3_150) rfl  k) ?_
    refine own_st (fun t k => XS.dloadN X9.here hx rfl (hb hby d3_151) rfl  k) ?_
    show own_Go p e below G (T9.setTop (mkF m 152 #[rv r, iv num, own_dv (FP.l2d v), .second, iv 1, .unset, .unset] [(.double (FP.l2d v)), (.int num), (.ref r)]))
    refine own_st (fun t k => XS.aloadN X9.here hx rfl (hb hby d3_152) rfl rfl  k) ?_
    show own_Go p e below G (T9.setTop (mkF m 153 #[rv r, iv num, own_dv (FP.l2d v), .second, iv 1, .unset, .unset] [(.ref r), (.double (FP.l2d v)), (.int num), (.ref r)]))
    obtain ⟨T11, X11, e11, st11⟩ := getF X9 hx hZ hown (host := "") (Or.inl (hw _ (List.mem_of_getElem? (i := 22) rfl))) Via.refl e9 F_size_r (g := (mkF m 153 #[rv r, iv num, own_dv (FP.l2d v), .second, iv 1, .unset, .unset] [(.ref r), (.double (FP.l2d v)), (.int num), (.ref r)])) rfl rfl (hb hby d3_153)
    refine own_st st11 ?_
    show own_Go p e below G (T11.setTop (mkF m 156 #[rv r, iv num, own_dv (FP.l2d v), .second, iv 1, .unset, .unset] [(.int (1 : Int32)), (.double (FP.l2d v)), (.int num), (.ref r)]))
    obtain ⟨v12, T12, L12, X12, Q12, st12⟩ := own_callP X11 hx hZ (y := (⟨"com/example/thinleaf/thinleaf/prune/Nearest", "sink", "(IDI)V"⟩ : MethodName)) hown (hw _ (List.mem_of_getElem? (i := 42) rfl)) (hw _ (List.mem_of_getElem? (i := 43) rfl)) (hw _ (List.mem_of_getElem? (i := 44) rfl)) (hw _ (List.mem_of_getElem? (i := 2) rfl)) (hw _ (List.mem_of_getElem? (i := 3) rfl)) (hw _ (List.mem_of_getElem? (i := 45) rfl)) (by decide) (W := 0) (rmS1 l Z a0 hw r bn bc kn kc pv num v m0 c0 h0 n0 ⟨E_r, F_numbers_r, F_cosines_r, F_places_r, F_size_r, V_bn, V_bc, Pl, nrn, nrc, nnc, g_r, g_bn, g_bc, Z0⟩ hm0 hc0 hnum hv) (by decide) (by decide) e11 E_r (g := (mkF m 156 #[rv r, iv num, own_dv (FP.l2d v), .second, iv 1, .unset, .unset] [(.int (1 : Int32)), (.double (FP.l2d v)), (.int num), (.ref r)])) rfl (by rw [hml]; rfl) (argsL := [(.int num), (.double (FP.l2d v)), (.int (1 : Int32))]) (rest := []) own_pd1 rfl rfl (by show 2 * 0 + _ ≤ _; exact Nat.le_of_eq rfl) (hb hby d3_156) rfl (by decide) (by decide)
    obtain ⟨rfl, Nq, p0, d0, NB', hp0, hd0, hS⟩ := Q12
    replace N0 := Fr.app N0 Nq
    refine own_st st12 ?_
    show own_Go p e below G (T12.setTop (mkF m 159 #[rv r, iv num, own_dv (FP.l2d v), .second, iv 1, .unset, .unset] []))
    refine own_st (fun t k => XS.goto X12.here hx rfl (pc0 := 159) (pc' := 165) rfl (hb hby d3_159) (by decide) (by decide) k) ?_
    refine own_st (fun t k => XS.iload X12.here hx rfl (hb hby d3_165) rfl  k) ?_
    show own_Go p e below G (T12.setTop (mkF m 167 #[rv r, iv num, own_dv (FP.l2d v), .second, iv 1, .unset, .unset] [(.int (1 : Int32))]))
    rw [hG]
    exact own_retZ X12 hx hlk (t := .boolean) hret (by simp) (hb hby d3_167) ⟨⟨_, rfl⟩, N0, p0, d0, NB', hp0, hd0, Or.inr ⟨(ht9 (hq9.resolve_left c146_10)), hS⟩⟩ (by decide) (by decide)
theorem pn_rmO20 : plainFor (⟨"com/example/thinleaf/thinleaf/prune/Nearest", "offer", "(ID)Z"⟩ : MethodName) = true := by decide +kernel
theorem ef_rmO20 (m : MethodId) (x0 : Addr) (x1 : Int32) (x2 : UInt64) : entryFrame m #[(.ref x0), (.int x1), (.double x2)] 7 = mkF m 0 #[rv x0, iv x1, own_dv x2, .second, .unset, .unset, .unset] [] := by first | (simp [entryFrame, mkF, argsToLocals, Value.category]; done) | rfl
set_option maxRecDepth 65536 in
set_option maxHeartbeats 40000000 in
theorem rmO20 (l : Launch) (Z : State) (a0 : Array Value) (hw : ∀ d ∈ tables_1, d.before a0 Z = true) (r bn bc : Addr) (kn kc : ClassId) (pv : Value) (num : Int32) (v : Int64) (h0 : Heap) (n0 : Nat) (NB : own_NE Z h0 n0 r bn bc kn kc pv (2 : Int32) (0 : Int32) [(.int (0 : Int32)), (.int (0 : Int32))] [(.double (0 : UInt64)), (.double (0 : UInt64))]) (hnum : own_d num) (hv : own_b v) :
    own_Met l Z (⟨"com/example/thinleaf/thinleaf/prune/Nearest", "offer", "(ID)Z"⟩ : MethodName) prog_219_method_8_code 7 (some .boolean) [] ({ frames := 2, cells := 0, slots := 0, locals := 36 } : Room) #[(.ref r), (.int num), (.double (FP.l2d v))] h0 (fun z h L => (∃ q : Int32, z = some (.int q)) ∧ Fr n0 L ∧ ∃ (p0 : Int32) (d0 : Int64), own_NE Z h n0 r bn bc kn kc pv (2 : Int32) (1 : Int32) [(.int p0), (.int (0 : Int32))] [(.double (FP.l2d d0)), (.double (0 : UInt64))] ∧ own_d p0 ∧ own_b d0 ∧ own_R20  v d0) := by
  refine own_body pn_rmO20 ?_
  intro p e s m below meth c s₁ hx hby hml hown hnm hret hlk hZ X0 e0 G hG
  replace hml : c.maxLocals = 7 := hml
  replace hown : s.vm.findClass "com/example/thinleaf/thinleaf/prune/Nearest" = some m.cls := hown
  rw [ef_rmO20]
  obtain ⟨E_r, F_numbers_r, F_cosines_r, F_places_r, F_size_r, V_bn, V_bc, Pl, nrn, nrc, nnc, g_r, g_bn, g_bc, Z0⟩ := NB
  have N0 := Fr.nil n0
  show own_Go p e below G (s₁.setTop (mkF m 0 #[rv r, iv num, own_dv (FP.l2d v), .second, .unset, .unset, .unset] []))
  refine own_st (fun t k => XS.iconst X0.here hx rfl (hb hby d3_0) k) ?_
  refine own_st (fun t k => XS.istore X0.here hx rfl (hb hby d3_1) rfl (l' := #[rv r, iv num, own_dv (FP.l2d v), .second, iv 1, .unset, .unset]) rfl k) ?_
  refine own_st (fun t k => XS.aloadN X0.here hx rfl (hb hby d3_3) rfl rfl  k) ?_
  show own_Go p e below G (s₁.setTop (mkF m 4 #[rv r, iv num, own_dv (FP.l2d v), .second, iv 1, .unset, .unset] [(.ref r)]))
  obtain ⟨T1, X1, e1, st1⟩ := getF X0 hx hZ hown (host := "") (Or.inl (hw _ (List.mem_of_getElem? (i := 22) rfl))) Via.refl e0 F_size_r (g := (mkF m 4 #[rv r, iv num, own_dv (FP.l2d v), .second, iv 1, .unset, .unset] [(.ref r)])) rfl rfl (hb hby d3_4)
  refine own_st st1 ?_
  show own_Go p e below G (T1.setTop (mkF m 7 #[rv r, iv num, own_dv (FP.l2d v), .second, iv 1, .unset, .unset] [(.int (0 : Int32))]))
  refine own_st (fun t k => XS.aloadN X1.here hx rfl (hb hby d3_7) rfl rfl  k) ?_
  show own_Go p e below G (T1.setTop (mkF m 8 #[rv r, iv num, own_dv (FP.l2d v), .second, iv 1, .unset, .unset] [(.ref r), (.int (0 : Int32))]))
  obtain ⟨T2, X2, e2, st2⟩ := getF X1 hx hZ hown (host := "") (Or.inl (hw _ (List.mem_of_getElem? (i := 10) rfl))) Via.refl e1 F_numbers_r (g := (mkF m 8 #[rv r, iv num, own_dv (FP.l2d v), .second, iv 1, .unset, .unset] [(.ref r), (.int (0 : Int32))])) rfl rfl (hb hby d3_8)
  refine own_st st2 ?_
  show own_Go p e below G (T2.setTop (mkF m 11 #[rv r, iv num, own_dv (FP.l2d v), .second, iv 1, .unset, .unset] [(.ref bn), (.int (0 : Int32))]))
  have Vc3 := V_bn
  obtain ⟨cl3, Ar3, -, Sa3, Na3, -, -⟩ := Vc3
  refine own_st (fun t k => X2.arraylength hx (by rw [e2]; exact Ar3.1) (State.isArrayOf_alike hZ.alike Ar3.2.1) (g := (mkF m 11 #[rv r, iv num, own_dv (FP.l2d v), .second, iv 1, .unset, .unset] [(.ref bn), (.int (0 : Int32))])) rfl rfl (hb hby d3_11) t k) ?_
  rw [len_of Sa3 Na3]
  show own_Go p e below G (T2.setTop (mkF m 12 #[rv r, iv num, own_dv (FP.l2d v), .second, iv 1, .unset, .unset] [(.int (2 : Int32)), (.int (0 : Int32))]))
  refine own_st (fun t k => XS.icmpNo X2.here hx rfl (hb hby d3_12) rfl (tlt (by decide)).2.1 k) ?_
  show own_Go p e below G (T2.setTop (mkF m 15 #[rv r, iv num, own_dv (FP.l2d v), .second, iv 1, .unset, .unset] []))
  refine own_st (fun t k => XS.aloadN X2.here hx rfl (hb hby d3_15) rfl rfl  k) ?_
  refine own_st (fun t k => XS.dup X2.here hx rfl (hb hby d3_16) rfl rfl k) ?_
  show own_Go p e below G (T2.setTop (mkF m 17 #[rv r, iv num, own_dv (FP.l2d v), .second, iv 1, .unset, .unset] [(.ref r), (.ref r)]))
  obtain ⟨T4, X4, e4, st4⟩ := getF X2 hx hZ hown (host := "") (Or.inl (hw _ (List.mem_of_getElem? (i := 22) rfl))) Via.refl e2 F_size_r (g := (mkF m 17 #[rv r, iv num, own_dv (FP.l2d v), .second, iv 1, .unset, .unset] [(.ref r), (.ref r)])) rfl rfl (hb hby d3_17)
  refine own_st st4 ?_
  show own_Go p e below G (T4.setTop (mkF m 20 #[rv r, iv num, own_dv (FP.l2d v), .second, iv 1, .unset, .unset] [(.int (0 : Int32)), (.ref r)]))
  refine own_st (fun t k => XS.dupX1 X4.here hx rfl (hb hby d3_20) rfl rfl rfl k) ?_
  show own_Go p e below G (T4.setTop (mkF m 21 #[rv r, iv num, own_dv (FP.l2d v), .second, iv 1, .unset, .unset] [(.int (0 : Int32)), (.ref r), (.int (0 : Int32))]))
  refine own_st (fun t k => XS.iconst X4.here hx rfl (hb hby d3_21) k) ?_
  refine own_st (fun t k => XS.iadd X4.here hx rfl (hb hby d3_22) rfl k) ?_
  show own_Go p e below G (T4.setTop (mkF m 23 #[rv r, iv num, own_dv (FP.l2d v), .second, iv 1, .unset, .unset] [(.int (1 : Int32)), (.ref r), (.int (0 : Int32))]))
  obtain ⟨T5, h5, X5, e5, W5, st5⟩ := putF X4 hx hZ hown (host := "") (Or.inl (hw _ (List.mem_of_getElem? (i := 22) rfl))) Via.refl e4 F_size_r E_r (Or.inl (hw _ (List.mem_of_getElem? (i := 23) rfl))) (hw _ (List.mem_of_getElem? (i := 2) rfl)) (ty := .int) (by decide) rfl rfl (g := (mkF m 23 #[rv r, iv num, own_dv (FP.l2d v), .second, iv 1, .unset, .unset] [(.int (1 : Int32)), (.ref r), (.int (0 : Int32))])) rfl rfl (hb hby d3_23)
  replace E_r := E_r.wr W5
  replace F_numbers_r := F_numbers_r.other W5 (Or.inr (slot_ne (Or.inr (hw _ (List.mem_of_getElem? (i := 11) rfl))) (Or.inl (hw _ (List.mem_of_getElem? (i := 23) rfl))) (by decide) (t := (.array .int)) (t' := .int) (by decide) (by decide)))
  replace F_cosines_r := F_cosines_r.other W5 (Or.inr (slot_ne (Or.inr (hw _ (List.mem_of_getElem? (i := 14) rfl))) (Or.inl (hw _ (List.mem_of_getElem? (i := 23) rfl))) (by decide) (t := (.array .double)) (t' := .int) (by decide) (by decide)))
  replace F_places_r := F_places_r.other W5 (Or.inr (slot_ne (Or.inr (hw _ (List.mem_of_getElem? (i := 16) rfl))) (Or.inl (hw _ (List.mem_of_getElem? (i := 23) rfl))) (by decide) (t := (.array .int)) (t' := .int) (by decide) (by decide)))
  replace F_size_r := F_size_r.same W5
  replace V_bn := V_bn.other W5 (Ne.symm nrn)
  replace V_bc := V_bc.other W5 (Ne.symm nrc)
  replace Pl := own_PlW Pl W5 (List.mem_of_getElem? (i := 0) rfl)
  replace Z0 := Nat.le_trans Z0 (Keep.of_wr W5).1
  replace N0 := Fr.snoc X5 N0 g_r
  refine own_st st5 ?_
  show own_Go p e below G (T5.setTop (mkF m 26 #[rv r, iv num, own_dv (FP.l2d v), .second, iv 1, .unset, .unset] [(.int (0 : Int32))]))
  refine own_st (fun t k => XS.istore X5.here hx rfl (hb hby d3_26) rfl (l' := #[rv r, iv num, own_dv (FP.l2d v), .second, iv 1, iv 0, .unset]) rfl k) ?_
  refine own_st (fun t k => XS.iload X5.here hx rfl (hb hby d3_28) rfl  k) ?_
  show own_Go p e below G (T5.setTop (mkF m 30 #[rv r, iv num, own_dv (FP.l2d v), .second, iv 1, iv 0, .unset] [(.int (0 : Int32))]))
  refine own_st (fun t k => XS.ifYes X5.here hx rfl (pc0 := 30) (pc' := 102) rfl (hb hby d3_30) rfl ((if0 _ _).trans (flt (by decide)).2.2.2) (by decide) (by decide) k) ?_
  show own_Go p e below G (T5.setTop (mkF m 102 #[rv r, iv num, own_dv (FP.l2d v), .second, iv 1, iv 0, .unset] []))
  refine own_st (fun t k => XS.aloadN X5.here hx rfl (hb hby d3_102) rfl rfl  k) ?_
  show own_Go p e below G (T5.setTop (mkF m 103 #[rv r, iv num, own_dv (FP.l2d v), .second, iv 1, iv 0, .unset] [(.ref r)]))
  obtain ⟨T6, X6, e6, st6⟩ := getF X5 hx hZ hown (host := "") (Or.inl (hw _ (List.mem_of_getElem? (i := 10) rfl))) Via.refl e5 F_numbers_r (g := (mkF m 103 #[rv r, iv num, own_dv (FP.l2d v), .second, iv 1, iv 0, .unset] [(.ref r)])) rfl rfl (hb hby d3_103)
  refine own_st st6 ?_
  show own_Go p e below G (T6.setTop (mkF m 106 #[rv r, iv num, own_dv (FP.l2d v), .second, iv 1, iv 0, .unset] [(.ref bn)]))
  refine own_st (fun t k => XS.iload X6.here hx rfl (hb hby d3_106) rfl  k) ?_
  refine own_st (fun t k => XS.iloadN X6.here hx rfl (hb hby d3_108) rfl  k) ?_
  show own_Go p e below G (T6.setTop (mkF m 109 #[rv r, iv num, own_dv (FP.l2d v), .second, iv 1, iv 0, .unset] [(.int num), (.int (0 : Int32)), (.ref bn)]))
  obtain ⟨cl7, Ar7, qa7, Sa7, Na7, Ha7, Ga7⟩ := V_bn
  have hin7 : ¬ ((0 : Int32) < 0 ∨ cl7.slots.size ≤ ((0 : Int32)).toNatClampNeg) := inb_of Sa7 ⟨by decide, by decide⟩
  obtain ⟨T7, h7, X7, e7, W7, st7⟩ := stI X6 hx hZ e6 Ar7 (j := (0 : Int32)) hin7 (g := (mkF m 109 #[rv r, iv num, own_dv (FP.l2d v), .second, iv 1, iv 0, .unset] [(.int num), (.int (0 : Int32)), (.ref bn)])) rfl rfl (hb hby d3_109)
  have V_bn : Arv Z h7 bn kn .int (2 : Int32) [(.int num), (.int (0 : Int32))] (.int (0 : Int32)) := Arv.set Ar7 qa7 Sa7 Na7 Ha7 Ga7 rfl W7 0 rfl (Nat.le_of_ble_eq_true rfl)
  replace E_r := E_r.wr W7
  replace F_numbers_r := F_numbers_r.other W7 (Or.inl nrn)
  replace F_cosines_r := F_cosines_r.other W7 (Or.inl nrn)
  replace F_places_r := F_places_r.other W7 (Or.inl nrn)
  replace F_size_r := F_size_r.other W7 (Or.inl nrn)
  replace V_bc := V_bc.other W7 (Ne.symm nnc)
  replace Pl := own_PlW Pl W7 (List.mem_of_getElem? (i := 1) rfl)
  replace Z0 := Nat.le_trans Z0 (Keep.of_wr W7).1
  replace N0 := Fr.snoc X7 N0 g_bn
  refine own_st st7 ?_
  show own_Go p e below G (T7.setTop (mkF m 110 #[rv r, iv num, own_dv (FP.l2d v), .second, iv 1, iv 0, .unset] []))
  refine own_st (fun t k => XS.aloadN X7.here hx rfl (hb hby d3_110) rfl rfl  k) ?_
  show own_Go p e below G (T7.setTop (mkF m 111 #[rv r, iv num, own_dv (FP.l2d v), .second, iv 1, iv 0, .unset] [(.ref r)]))
  obtain ⟨T8, X8, e8, st8⟩ := getF X7 hx hZ hown (host := "") (Or.inl (hw _ (List.mem_of_getElem? (i := 13) rfl))) Via.refl e7 F_cosines_r (g := (mkF m 111 #[rv r, iv num, own_dv (FP.l2d v), .second, iv 1, iv 0, .unset] [(.ref r)])) rfl rfl (hb hby d3_111)
  refine own_st st8 ?_
  show own_Go p e below G (T8.setTop (mkF m 114 #[rv r, iv num, own_dv (FP.l2d v), .second, iv 1, iv 0, .unset] [(.ref bc)]))
  refine own_st (fun t k => XS.iload X8.here hx rfl (hb hby d3_114) rfl  k) ?_
  refine own_st (fun t k => XS.dloadN X8.here hx rfl (hb hby d3_116) rfl  k) ?_
  show own_Go p e below G (T8.setTop (mkF m 117 #[rv r, iv num, own_dv (FP.l2d v), .second, iv 1, iv 0, .unset] [(.double (FP.l2d v)), (.int (0 : Int32)), (.ref bc)]))
  obtain ⟨cl9, Ar9, qa9, Sa9, Na9, Ha9, Ga9⟩ := V_bc
  have hin9 : ¬ ((0 : Int32) < 0 ∨ cl9.slots.size ≤ ((0 : Int32)).toNatClampNeg) := inb_of Sa9 ⟨by decide, by decide⟩
  obtain ⟨T9, h9, X9, e9, W9, st9⟩ := stD X8 hx hZ e8 Ar9 (j := (0 : Int32)) hin9 (g := (mkF m 117 #[rv r, iv num, own_dv (FP.l2d v), .second, iv 1, iv 0, .unset] [(.double (FP.l2d v)), (.int (0 : Int32)), (.ref bc)])) rfl rfl (hb hby d3_117)
  have V_bc : Arv Z h9 bc kc .double (2 : Int32) [(.double (FP.l2d v)), (.double (0 : UInt64))] (.double (0 : UInt64)) := Arv.set Ar9 qa9 Sa9 Na9 Ha9 Ga9 rfl W9 0 rfl (Nat.le_of_ble_eq_true rfl)
  replace E_r := E_r.wr W9
  replace F_numbers_r := F_numbers_r.other W9 (Or.inl nrc)
  replace F_cosines_r := F_cosines_r.other W9 (Or.inl nrc)
  replace F_places_r := F_places_r.other W9 (Or.inl nrc)
  replace F_size_r := F_size_r.other W9 (Or.inl nrc)
  replace V_bn := V_bn.other W9 nnc
  replace Pl := own_PlW Pl W9 (List.mem_of_getElem? (i := 2) rfl)
  replace Z0 := Nat.le_trans Z0 (Keep.of_wr W9).1
  replace N0 := Fr.snoc X9 N0 g_bc
  refine own_st st9 ?_
  show own_Go p e below G (T9.setTop (mkF m 118 #[rv r, iv num, own_dv (FP.l2d v), .second, iv 1, iv 0, .unset] []))
  refine own_st (fun t k => XS.goto X9.here hx rfl (pc0 := 118) (pc' := 165) rfl (hb hby d3_118) (by decide) (by decide) k) ?_
  refine own_st (fun t k => XS.iload X9.here hx rfl (hb hby d3_165) rfl  k) ?_
  show own_Go p e below G (T9.setTop (mkF m 167 #[rv r, iv num, own_dv (FP.l2d v), .second, iv 1, iv 0, .unset] [(.int (1 : Int32))]))
  rw [hG]
  exact own_retZ X9 hx hlk (t := .boolean) hret (by simp) (hb hby d3_167) (by rw [e9]; exact ⟨⟨_, rfl⟩, N0, num, v, ⟨E_r, F_numbers_r, F_cosines_r, F_places_r, F_size_r, V_bn, V_bc, Pl, nrn, nrc, nnc, g_r, g_bn, g_bc, Z0⟩, hnum, hv, rfl⟩) (by decide) (by decide)
theorem pn_rmO21 : plainFor (⟨"com/example/thinleaf/thinleaf/prune/Nearest", "offer", "(ID)Z"⟩ : MethodName) = true := by decide +kernel
theorem ef_rmO21 (m : MethodId) (x0 : Addr) (x1 : Int32) (x2 : UInt64) : entryFrame m #[(.ref x0), (.int x1), (.double x2)] 7 = mkF m 0 #[rv x0, iv x1, own_dv x2, .second, .unset, .unset, .unset] [] := by first | (simp [entryFrame, mkF, argsToLocals, Value.category]; done) | rfl
set_option maxRecDepth 65536 in
set_option maxHeartbeats 40000000 in
theorem rmO21 (l : Launch) (Z : State) (a0 : Array Value) (hw : ∀ d ∈ tables_1, d.before a0 Z = true) (r bn bc : Addr) (kn kc : ClassId) (pv : Value) (num : Int32) (v : Int64)(m0 : Int32) (c0 : Int64) (h0 : Heap) (n0 : Nat) (NB : own_NE Z h0 n0 r bn bc kn kc pv (2 : Int32) (1 : Int32) [(.int m0), (.int (0 : Int32))] [(.double (FP.l2d c0)), (.double (0 : UInt64))]) (hm0 : own_d m0) (hc0 : own_b c0) (hnum : own_d num) (hv : own_b v) :
    own_Met l Z (⟨"com/example/thinleaf/thinleaf/prune/Nearest", "offer", "(ID)Z"⟩ : MethodName) prog_219_method_8_code 7 (some .boolean) [] ({ frames := 2, cells := 0, slots := 0, locals := 36 } : Room) #[(.ref r), (.int num), (.double (FP.l2d v))] h0 (fun z h L => (∃ q : Int32, z = some (.int q)) ∧ Fr n0 L ∧ ∃ (p0 p1 : Int32) (d0 d1 : Int64), own_NE Z h n0 r bn bc kn kc pv (2 : Int32) (2 : Int32) [(.int p0), (.int p1)] [(.double (FP.l2d d0)), (.double (FP.l2d d1))] ∧ own_d p0 ∧ own_b d0 ∧ own_d p1 ∧ own_b d1 ∧ own_R21 c0 v d0 d1) := by
  refine own_body pn_rmO21 ?_
  intro p e s m below meth c s₁ hx hby hml hown hnm hret hlk hZ X0 e0 G hG
  replace hml : c.maxLocals = 7 := hml
  replace hown : s.vm.findClass "com/example/thinleaf/thinleaf/prune/Nearest" = some m.cls := hown
  rw [ef_rmO21]
  obtain ⟨E_r, F_numbers_r, F_cosines_r, F_places_r, F_size_r, V_bn, V_bc, Pl, nrn, nrc, nnc, g_r, g_bn, g_bc, Z0⟩ := NB
  have N0 := Fr.nil n0
  show own_Go p e below G (s₁.setTop (mkF m 0 #[rv r, iv num, own_dv (FP.l2d v), .second, .unset, .unset, .unset] []))
  refine own_st (fun t k => XS.iconst X0.here hx rfl (hb hby d3_0) k) ?_
  refine own_st (fun t k => XS.istore X0.here hx rfl (hb hby d3_1) rfl (l' := #[rv r, iv num, own_dv (FP.l2d v), .second, iv 1, .unset, .unset]) rfl k) ?_
  refine own_st (fun t k => XS.aloadN X0.here hx rfl (hb hby d3_3) rfl rfl  k) ?_
  show own_Go p e below G (s₁.setTop (mkF m 4 #[rv r, iv num, own_dv (FP.l2d v), .second, iv 1, .unset, .unset] [(.ref r)]))
  obtain ⟨T1, X1, e1, st1⟩ := getF X0 hx hZ hown (host := "") (Or.inl (hw _ (List.mem_of_getElem? (i := 22) rfl))) Via.refl e0 F_size_r (g := (mkF m 4 #[rv r, iv num, own_dv (FP.l2d v), .second, iv 1, .unset, .unset] [(.ref r)])) rfl rfl (hb hby d3_4)
  refine own_st st1 ?_
  show own_Go p e below G (T1.setTop (mkF m 7 #[rv r, iv num, own_dv (FP.l2d v), .second, iv 1, .unset, .unset] [(.int (1 : Int32))]))
  refine own_st (fun t k => XS.aloadN X1.here hx rfl (hb hby d3_7) rfl rfl  k) ?_
  show own_Go p e below G (T1.setTop (mkF m 8 #[rv r, iv num, own_dv (FP.l2d v), .second, iv 1, .unset, .unset] [(.ref r), (.int (1 : Int32))]))
  obtain ⟨T2, X2, e2, st2⟩ := getF X1 hx hZ hown (host := "") (Or.inl (hw _ (List.mem_of_getElem? (i := 10) rfl))) Via.refl e1 F_numbers_r (g := (mkF m 8 #[rv r, iv num, own_dv (FP.l2d v), .second, iv 1, .unset, .unset] [(.ref r), (.int (1 : Int32))])) rfl rfl (hb hby d3_8)
  refine own_st st2 ?_
  show own_Go p e below G (T2.setTop (mkF m 11 #[rv r, iv num, own_dv (FP.l2d v), .second, iv 1, .unset, .unset] [(.ref bn), (.int (1 : Int32))]))
  have Vc3 := V_bn
  obtain ⟨cl3, Ar3, -, Sa3, Na3, -, -⟩ := Vc3
  refine own_st (fun t k => X2.arraylength hx (by rw [e2]; exact Ar3.1) (State.isArrayOf_alike hZ.alike Ar3.2.1) (g := (mkF m 11 #[rv r, iv num, own_dv (FP.l2d v), .second, iv 1, .unset, .unset] [(.ref bn), (.int (1 : Int32))])) rfl rfl (hb hby d3_11) t k) ?_
  rw [len_of Sa3 Na3]
  show own_Go p e below G (T2.setTop (mkF m 12 #[rv r, iv num, own_dv (FP.l2d v), .second, iv 1, .unset, .unset] [(.int (2 : Int32)), (.int (1 : Int32))]))
  refine own_st (fun t k => XS.icmpNo X2.here hx rfl (hb hby d3_12) rfl (tlt (by decide)).2.1 k) ?_
  show own_Go p e below G (T2.setTop (mkF m 15 #[rv r, iv num, own_dv (FP.l2d v), .second, iv 1, .unset, .unset] []))
  refine own_st (fun t k => XS.aloadN X2.here hx rfl (hb hby d3_15) rfl rfl  k) ?_
  refine own_st (fun t k => XS.dup X2.here hx rfl (hb hby d3_16) rfl rfl k) ?_
  show own_Go p e below G (T2.setTop (mkF m 17 #[rv r, iv num, own_dv (FP.l2d v), .second, iv 1, .unset, .unset] [(.ref r), (.ref r)]))
  obtain ⟨T4, X4, e4, st4⟩ := getF X2 hx hZ hown (host := "") (Or.inl (hw _ (List.mem_of_getElem? (i := 22) rfl))) Via.refl e2 F_size_r (g := (mkF m 17 #[rv r, iv num, own_dv (FP.l2d v), .second, iv 1, .unset, .unset] [(.ref r), (.ref r)])) rfl rfl (hb hby d3_17)
  refine own_st st4 ?_
  show own_Go p e below G (T4.setTop (mkF m 20 #[rv r, iv num, own_dv (FP.l2d v), .second, iv 1, .unset, .unset] [(.int (1 : Int32)), (.ref r)]))
  refine own_st (fun t k => XS.dupX1 X4.here hx rfl (hb hby d3_20) rfl rfl rfl k) ?_
  show own_Go p e below G (T4.setTop (mkF m 21 #[rv r, iv num, own_dv (FP.l2d v), .second, iv 1, .unset, .unset] [(.int (1 : Int32)), (.ref r), (.int (1 : Int32))]))
  refine own_st (fun t k => XS.iconst X4.here hx rfl (hb hby d3_21) k) ?_
  refine own_st (fun t k => XS.iadd X4.here hx rfl (hb hby d3_22) rfl k) ?_
  show own_Go p e below G (T4.setTop (mkF m 23 #[rv r, iv num, own_dv (FP.l2d v), .second, iv 1, .unset, .unset] [(.int (2 : Int32)), (.ref r), (.int (1 : Int32))]))
  obtain ⟨T5, h5, X5, e5, W5, st5⟩ := putF X4 hx hZ hown (host := "") (Or.inl (hw _ (List.mem_of_getElem? (i := 22) rfl))) Via.refl e4 F_size_r E_r (Or.inl (hw _ (List.mem_of_getElem? (i := 23) rfl))) (hw _ (List.mem_of_getElem? (i := 2) rfl)) (ty := .int) (by decide) rfl rfl (g := (mkF m 23 #[rv r, iv num, own_dv (FP.l2d v), .second, iv 1, .unset, .unset] [(.int (2 : Int32)), (.ref r), (.int (1 : Int32))])) rfl rfl (hb hby d3_23)
  replace E_r := E_r.wr W5
  replace F_numbers_r := F_numbers_r.other W5 (Or.inr (slot_ne (Or.inr (hw _ (List.mem_of_getElem? (i := 11) rfl))) (Or.inl (hw _ (List.mem_of_getElem? (i := 23) rfl))) (by decide) (t := (.array .int)) (t' := .int) (by decide) (by decide)))
  replace F_cosines_r := F_cosines_r.other W5 (Or.inr (slot_ne (Or.inr (hw _ (List.mem_of_getElem? (i := 14) rfl))) (Or.inl (hw _ (List.mem_of_getElem? (i := 23) rfl))) (by decide) (t := (.array .double)) (t' := .int) (by decide) (by decide)))
  replace F_places_r := F_places_r.other W5 (Or.inr (slot_ne (Or.inr (hw _ (List.mem_of_getElem? (i := 16) rfl))) (Or.inl (hw _ (List.mem_of_getElem? (i := 23) rfl))) (by decide) (t := (.array .int)) (t' := .int) (by decide) (by decide)))
  replace F_size_r := F_size_r.same W5
  replace V_bn := V_bn.other W5 (Ne.symm nrn)
  replace V_bc := V_bc.other W5 (Ne.symm nrc)
  replace Pl := own_PlW Pl W5 (List.mem_of_getElem? (i := 0) rfl)
  replace Z0 := Nat.le_trans Z0 (Keep.of_wr W5).1
  replace N0 := Fr.snoc X5 N0 g_r
  refine own_st st5 ?_
  show own_Go p e below G (T5.setTop (mkF m 26 #[rv r, iv num, own_dv (FP.l2d v), .second, iv 1, .unset, .unset] [(.int (1 : Int32))]))
  refine own_st (fun t k => XS.istore X5.here hx rfl (hb hby d3_26) rfl (l' := #[rv r, iv num, own_dv (FP.l2d v), .second, iv 1, iv 1, .unset]) rfl k) ?_
  refine own_st (fun t k => XS.iload X5.here hx rfl (hb hby d3_28) rfl  k) ?_
  show own_Go p e below G (T5.setTop (mkF m 30 #[rv r, iv num, own_dv (FP.l2d v), .second, iv 1, iv 1, .unset] [(.int (1 : Int32))]))
  refine own_st (fun t k => XS.ifNo X5.here hx rfl (hb hby d3_30) rfl ((if0 _ _).trans (tlt (by decide)).2.2.2) k) ?_
  show own_Go p e below G (T5.setTop (mkF m 33 #[rv r, iv num, own_dv (FP.l2d v), .second, iv 1, iv 1, .unset] []))
  refine own_st (fun t k => XS.iload X5.here hx rfl (hb hby d3_33) rfl  k) ?_
  refine own_st (fun t k => XS.iconst X5.here hx rfl (hb hby d3_35) k) ?_
  refine own_st (fun t k => XS.isub X5.here hx rfl (hb hby d3_36) rfl k) ?_
  show own_Go p e below G (T5.setTop (mkF m 37 #[rv r, iv num, own_dv (FP.l2d v), .second, iv 1, iv 1, .unset] [(.int (0 : Int32))]))
  refine own_st (fun t k => XS.iconst X5.here hx rfl (hb hby d3_37) k) ?_
  show own_Go p e below G (T5.setTop (mkF m 38 #[rv r, iv num, own_dv (FP.l2d v), .second, iv 1, iv 1, .unset] [(.int (2 : Int32)), (.int (0 : Int32))]))
  refine own_st (fun t k => XS.idiv X5.here hx rfl (hb hby d3_38) rfl (by decide) k) ?_
  show own_Go p e below G (T5.setTop (mkF m 39 #[rv r, iv num, own_dv (FP.l2d v), .second, iv 1, iv 1, .unset] [(.int (0 : Int32))]))
  refine own_st (fun t k => XS.istore X5.here hx rfl (hb hby d3_39) rfl (l' := #[rv r, iv num, own_dv (FP.l2d v), .second, iv 1, iv 1, iv 0]) rfl k) ?_
  refine own_st (fun t k => XS.aloadN X5.here hx rfl (hb hby d3_41) rfl rfl  k) ?_
  refine own_st (fun t k => XS.iloadN X5.here hx rfl (hb hby d3_42) rfl  k) ?_
  show own_Go p e below G (T5.setTop (mkF m 43 #[rv r, iv num, own_dv (FP.l2d v), .second, iv 1, iv 1, iv 0] [(.int num), (.ref r)]))
  refine own_st (fun t k => XS.dloadN X5.here hx rfl (hb hby d3_43) rfl  k) ?_
  refine own_st (fun t k => XS.aloadN X5.here hx rfl (hb hby d3_44) rfl rfl  k) ?_
  show own_Go p e below G (T5.setTop (mkF m 45 #[rv r, iv num, own_dv (FP.l2d v), .second, iv 1, iv 1, iv 0] [(.ref r), (.double (FP.l2d v)), (.int num), (.ref r)]))
  obtain ⟨T6, X6, e6, st6⟩ := getF X5 hx hZ hown (host := "") (Or.inl (hw _ (List.mem_of_getElem? (i := 10) rfl))) Via.refl e5 F_numbers_r (g := (mkF m 45 #[rv r, iv num, own_dv (FP.l2d v), .second, iv 1, iv 1, iv 0] [(.ref r), (.double (FP.l2d v)), (.int num), (.ref r)])) rfl rfl (hb hby d3_45)
  refine own_st st6 ?_
  show own_Go p e below G (T6.setTop (mkF m 48 #[rv r, iv num, own_dv (FP.l2d v), .second, iv 1, iv 1, iv 0] [(.ref bn), (.double (FP.l2d v)), (.int num), (.ref r)]))
  refine own_st (fun t k => XS.iload X6.here hx rfl (hb hby d3_48) rfl  k) ?_
  show own_Go p e below G (T6.setTop (mkF m 50 #[rv r, iv num, own_dv (FP.l2d v), .second, iv 1, iv 1, iv 0] [(.int (0 : Int32)), (.ref bn), (.double (FP.l2d v)), (.int num), (.ref r)]))
  have Vc7 := V_bn
  obtain ⟨cl7, Ar7, -, Sa7, -, Ha7, -⟩ := Vc7
  have hin7 : ¬ ((0 : Int32) < 0 ∨ cl7.slots.size ≤ ((0 : Int32)).toNatClampNeg) := inb_of Sa7 ⟨by decide, by decide⟩
  refine own_st (fun t k => X6.iaload hx (j := (0 : Int32)) (v := (.int m0)) (by rw [e6]; exact Ar7.1) (State.isArrayOf_alike hZ.alike Ar7.2.1) Ar7.2.2 hin7 (Ha7.at hin7 rfl) (g := (mkF m 50 #[rv r, iv num, own_dv (FP.l2d v), .second, iv 1, iv 1, iv 0] [(.int (0 : Int32)), (.ref bn), (.double (FP.l2d v)), (.int num), (.ref r)])) rfl rfl (hb hby d3_50) t k) ?_
  show own_Go p e below G (T6.setTop (mkF m 51 #[rv r, iv num, own_dv (FP.l2d v), .second, iv 1, iv 1, iv 0] [(.int m0), (.double (FP.l2d v)), (.int num), (.ref r)]))
  refine own_st (fun t k => XS.aloadN X6.here hx rfl (hb hby d3_51) rfl rfl  k) ?_
  show own_Go p e below G (T6.setTop (mkF m 52 #[rv r, iv num, own_dv (FP.l2d v), .second, iv 1, iv 1, iv 0] [(.ref r), (.int m0), (.double (FP.l2d v)), (.int num), (.ref r)]))
  obtain ⟨T8, X8, e8, st8⟩ := getF X6 hx hZ hown (host := "") (Or.inl (hw _ (List.mem_of_getElem? (i := 13) rfl))) Via.refl e6 F_cosines_r (g := (mkF m 52 #[rv r, iv num, own_dv (FP.l2d v), .second, iv 1, iv 1, iv 0] [(.ref r), (.int m0), (.double (FP.l2d v)), (.int num), (.ref r)])) rfl rfl (hb hby d3_52)
  refine own_st st8 ?_
  show own_Go p e below G (T8.setTop (mkF m 55 #[rv r, iv num, own_dv (FP.l2d v), .second, iv 1, iv 1, iv 0] [(.ref bc), (.int m0), (.double (FP.l2d v)), (.int num), (.ref r)]))
  refine own_st (fun t k => XS.iload X8.here hx rfl (hb hby d3_55) rfl  k) ?_
  show own_Go p e below G (T8.setTop (mkF m 57 #[rv r, iv num, own_dv (FP.l2d v), .second, iv 1, iv 1, iv 0] [(.int (0 : Int32)), (.ref bc), (.int m0), (.double (FP.l2d v)), (.int num), (.ref r)]))
  have Vc9 := V_bc
  obtain ⟨cl9, Ar9, -, Sa9, -, Ha9, -⟩ := Vc9
  have hin9 : ¬ ((0 : Int32) < 0 ∨ cl9.slots.size ≤ ((0 : Int32)).toNatClampNeg) := inb_of Sa9 ⟨by decide, by decide⟩
  refine own_st (fun t k => X8.daload hx (j := (0 : Int32)) (v := (.double (FP.l2d c0))) (by rw [e8]; exact Ar9.1) (State.isArrayOf_alike hZ.alike Ar9.2.1) Ar9.2.2 hin9 (Ha9.at hin9 rfl) (g := (mkF m 57 #[rv r, iv num, own_dv (FP.l2d v), .second, iv 1, iv 1, iv 0] [(.int (0 : Int32)), (.ref bc), (.int m0), (.double (FP.l2d v)), (.int num), (.ref r)])) rfl rfl (hb hby d3_57) t k) ?_
  show own_Go p e below G (T8.setTop (mkF m 58 #[rv r, iv num, own_dv (FP.l2d v), .second, iv 1, iv 1, iv 0] [(.double (FP.l2d c0)), (.int m0), (.double (FP.l2d v)), (.int num), (.ref r)]))
  obtain ⟨v10, T10, L10, X10, Q10, st10⟩ := own_callP X8 hx hZ (y := (⟨"com/example/thinleaf/thinleaf/prune/Nearest", "below", "(IDID)Z"⟩ : MethodName)) hown (hw _ (List.mem_of_getElem? (i := 31) rfl)) (hw _ (List.mem_of_getElem? (i := 32) rfl)) (hw _ (List.mem_of_getElem? (i := 33) rfl)) (hw _ (List.mem_of_getElem? (i := 2) rfl)) (hw _ (List.mem_of_getElem? (i := 3) rfl)) (hw _ (List.mem_of_getElem? (i := 34) rfl)) (by decide) (W := 0) (rmB l Z a0 hw r num v m0 c0 pv _ h5 F_places_r Pl hv hc0 hnum hm0) (by decide) (by decide) e8 E_r (g := (mkF m 58 #[rv r, iv num, own_dv (FP.l2d v), .second, iv 1, iv 1, iv 0] [(.double (FP.l2d c0)), (.int m0), (.double (FP.l2d v)), (.int num), (.ref r)])) rfl (by rw [hml]; rfl) (argsL := [(.int num), (.double (FP.l2d v)), (.int m0), (.double (FP.l2d c0))]) (rest := []) own_pd0 rfl rfl (by show 2 * 0 + _ ≤ _; exact Nat.le_of_eq rfl) (hb hby d3_58) rfl (by decide) (by decide)
  obtain ⟨⟨q10, rfl, hq10, ht10, hf10⟩, rfl, e10⟩ := Q10
  simp only [List.append_nil, Nat.add_zero] at X10
  refine own_st st10 ?_
  show own_Go p e below G (T10.setTop (mkF m 61 #[rv r, iv num, own_dv (FP.l2d v), .second, iv 1, iv 1, iv 0] [(.int q10)]))
  by_cases c61_11 : q10 = (0 : Int32)
  · skip
    refine own_st (fun t k => XS.ifNo X10.here hx rfl (hb hby d3_61) rfl ((if0 _ _).trans (teq c61_11).2) k) ?_
    show own_Go p e below G (T10.setTop (mkF m 64 #[rv r, iv num, own_dv (FP.l2d v), .second, iv 1, iv 1, iv 0] []))
    refine own_st (fun t k => XS.goto X10.here hx rfl (pc0 := 64) (pc' := 102) rfl (hb hby d3_64) (by decide) (by decide) k) ?_
    refine own_st (fun t k => XS.aloadN X10.here hx rfl (hb hby d3_102) rfl rfl  k) ?_
    show own_Go p e below G (T10.setTop (mkF m 103 #[rv r, iv num, own_dv (FP.l2d v), .second, iv 1, iv 1, iv 0] [(.ref r)]))
    obtain ⟨T12, X12, e12, st12⟩ := getF X10 hx hZ hown (host := "") (Or.inl (hw _ (List.mem_of_getElem? (i := 10) rfl))) Via.refl e10 F_numbers_r (g := (mkF m 103 #[rv r, iv num, own_dv (FP.l2d v), .second, iv 1, iv 1, iv 0] [(.ref r)])) rfl rfl (hb hby d3_103)
    refine own_st st12 ?_
    show own_Go p e below G (T12.setTop (mkF m 106 #[rv r, iv num, own_dv (FP.l2d v), .second, iv 1, iv 1, iv 0] [(.ref bn)]))
    refine own_st (fun t k => XS.iload X12.here hx rfl (hb hby d3_106) rfl  k) ?_
    refine own_st (fun t k => XS.iloadN X12.here hx rfl (hb hby d3_108) rfl  k) ?_
    show own_Go p e below G (T12.setTop (mkF m 109 #[rv r, iv num, own_dv (FP.l2d v), .second, iv 1, iv 1, iv 0] [(.int num), (.int (1 : Int32)), (.ref bn)]))
    obtain ⟨cl13, Ar13, qa13, Sa13, Na13, Ha13, Ga13⟩ := V_bn
    have hin13 : ¬ ((1 : Int32) < 0 ∨ cl13.slots.size ≤ ((1 : Int32)).toNatClampNeg) := inb_of Sa13 ⟨by decide, by decide⟩
    obtain ⟨T13, h13, X13, e13, W13, st13⟩ := stI X12 hx hZ e12 Ar13 (j := (1 : Int32)) hin13 (g := (mkF m 109 #[rv r, iv num, own_dv (FP.l2d v), .second, iv 1, iv 1, iv 0] [(.int num), (.int (1 : Int32)), (.ref bn)])) rfl rfl (hb hby d3_109)
    have V_bn : Arv Z h13 bn kn .int (2 : Int32) [(.int m0), (.int num)] (.int (0 : Int32)) := Arv.set Ar13 qa13 Sa13 Na13 Ha13 Ga13 rfl W13 1 rfl (Nat.le_of_ble_eq_true rfl)
    replace E_r := E_r.wr W13
    replace F_numbers_r := F_numbers_r.other W13 (Or.inl nrn)
    replace F_cosines_r := F_cosines_r.other W13 (Or.inl nrn)
    replace F_places_r := F_places_r.other W13 (Or.inl nrn)
    replace F_size_r := F_size_r.other W13 (Or.inl nrn)
    replace V_bc := V_bc.other W13 (Ne.symm nnc)
    replace Pl := own_PlW Pl W13 (List.mem_of_getElem? (i := 1) rfl)
    replace Z0 := Nat.le_trans Z0 (Keep.of_wr W13).1
    replace N0 := Fr.snoc X13 N0 g_bn
    refine own_st st13 ?_
    show own_Go p e below G (T13.setTop (mkF m 110 #[rv r, iv num, own_dv (FP.l2d v), .second, iv 1, iv 1, iv 0] []))
    refine own_st (fun t k => XS.aloadN X13.here hx rfl (hb hby d3_110) rfl rfl  k) ?_
    show own_Go p e below G (T13.setTop (mkF m 111 #[rv r, iv num, own_dv (FP.l2d v), .second, iv 1, iv 1, iv 0] [(.ref r)]))
    obtain ⟨T14, X14, e14, st14⟩ := getF X13 hx hZ hown (host := "") (Or.inl (hw _ (List.mem_of_getElem? (i := 13) rfl))) Via.refl e13 F_cosines_r (g := (mkF m 111 #[rv r, iv num, own_dv (FP.l2d v), .second, iv 1, iv 1, iv 0] [(.ref r)])) rfl rfl (hb hby d3_111)
    refine own_st st14 ?_
    show own_Go p e below G (T14.setTop (mkF m 114 #[rv r, iv num, own_dv (FP.l2d v), .second, iv 1, iv 1, iv 0] [(.ref bc)]))
    refine own_st (fun t k => XS.iload X14.here hx rfl (hb hby d3_114) rfl  k) ?_
    refine own_st (fun t k => XS.dloadN X14.here hx rfl (hb hby d3_116) rfl  k) ?_
    show own_Go p e below G (T14.setTop (mkF m 117 #[rv r, iv num, own_dv (FP.l2d v), .second, iv 1, iv 1, iv 0] [(.double (FP.l2d v)), (.int (1 : Int32)), (.ref bc)]))
    obtain ⟨cl15, Ar15, qa15, Sa15, Na15, Ha15, Ga15⟩ := V_bc
    have hin15 : ¬ ((1 : Int32) < 0 ∨ cl15.slots.size ≤ ((1 : Int32)).toNatClampNeg) := inb_of Sa15 ⟨by decide, by decide⟩
    obtain ⟨T15, h15, X15, e15, W15, st15⟩ := stD X14 hx hZ e14 Ar15 (j := (1 : Int32)) hin15 (g := (mkF m 117 #[rv r, iv num, own_dv (FP.l2d v), .second, iv 1, iv 1, iv 0] [(.double (FP.l2d v)), (.int (1 : Int32)), (.ref bc)])) rfl rfl (hb hby d3_117)
    have V_bc : Arv Z h15 bc kc .double (2 : Int32) [(.double (FP.l2d c0)), (.double (FP.l2d v))] (.double (0 : UInt64)) := Arv.set Ar15 qa15 Sa15 Na15 Ha15 Ga15 rfl W15 1 rfl (Nat.le_of_ble_eq_true rfl)
    replace E_r := E_r.wr W15
    replace F_numbers_r := F_numbers_r.other W15 (Or.inl nrc)
    replace F_cosines_r := F_cosines_r.other W15 (Or.inl nrc)
    replace F_places_r := F_places_r.other W15 (Or.inl nrc)
    replace F_size_r := F_size_r.other W15 (Or.inl nrc)
    replace V_bn := V_bn.other W15 nnc
    replace Pl := own_PlW Pl W15 (List.mem_of_getElem? (i := 2) rfl)
    replace Z0 := Nat.le_trans Z0 (Keep.of_wr W15).1
    replace N0 := Fr.snoc X15 N0 g_bc
    refine own_st st15 ?_
    show own_Go p e below G (T15.setTop (mkF m 118 #[rv r, iv num, own_dv (FP.l2d v), .second, iv 1, iv 1, iv 0] []))
    refine own_st (fun t k => XS.goto X15.here hx rfl (pc0 := 118) (pc' := 165) rfl (hb hby d3_118) (by decide) (by decide) k) ?_
    refine own_st (fun t k => XS.iload X15.here hx rfl (hb hby d3_165) rfl  k) ?_
    show own_Go p e below G (T15.setTop (mkF m 167 #[rv r, iv num, own_dv (FP.l2d v), .second, iv 1, iv 1, iv 0] [(.int (1 : Int32))]))
    rw [hG]
    exact own_retZ X15 hx hlk (t := .boolean) hret (by simp) (hb hby d3_167) (by rw [e15]; exact ⟨⟨_, rfl⟩, N0, m0, num, c0, v, ⟨E_r, F_numbers_r, F_cosines_r, F_places_r, F_size_r, V_bn, V_bc, Pl, nrn, nrc, nnc, g_r, g_bn, g_bc, Z0⟩, hm0, hc0, hnum, hv, Or.inr ⟨(hf10 c61_11), rfl, rfl⟩⟩) (by decide) (by decide)
  · skip
    refine own_st (fun t k => XS.ifYes X10.here hx rfl (pc0 := 61) (pc' := 67) rfl (hb hby d3_61) rfl ((if0 _ _).trans (feq c61_11).2) (by decide) (by decide) k) ?_
    show own_Go p e below G (T10.setTop (mkF m 67 #[rv r, iv num, own_dv (FP.l2d v), .second, iv 1, iv 1, iv 0] []))
    refine own_st (fun t k => XS.aloadN X10.here hx rfl (hb hby d3_67) rfl rfl  k) ?_
    show own_Go p e below G (T10.setTop (mkF m 68 #[rv r, iv num, own_dv (FP.l2d v), .second, iv 1, iv 1, iv 0] [(.ref r)]))
    obtain ⟨T16, X16, e16, st16⟩ := getF X10 hx hZ hown (host := "") (Or.inl (hw _ (List.mem_of_getElem? (i := 10) rfl))) Via.refl e10 F_numbers_r (g := (mkF m 68 #[rv r, iv num, own_dv (FP.l2d v), .second, iv 1, iv 1, iv 0] [(.ref r)])) rfl rfl (hb hby d3_68)
    refine own_st st16 ?_
    show own_Go p e below G (T16.setTop (mkF m 71 #[rv r, iv num, own_dv (FP.l2d v), .second, iv 1, iv 1, iv 0] [(.ref bn)]))
    refine own_st (fun t k => XS.iload X16.here hx rfl (hb hby d3_71) rfl  k) ?_
    refine own_st (fun t k => XS.aloadN X16.here hx rfl (hb hby d3_73) rfl rfl  k) ?_
    show own_Go p e below G (T16.setTop (mkF m 74 #[rv r, iv num, own_dv (FP.l2d v), .second, iv 1, iv 1, iv 0] [(.ref r), (.int (1 : Int32)), (.ref bn)]))
    obtain ⟨T17, X17, e17, st17⟩ := getF X16 hx hZ hown (host := "") (Or.inl (hw _ (List.mem_of_getElem? (i := 10) rfl))) Via.refl e16 F_numbers_r (g := (mkF m 74 #[rv r, iv num, own_dv (FP.l2d v), .second, iv 1, iv 1, iv 0] [(.ref r), (.int (1 : Int32)), (.ref bn)])) rfl rfl (hb hby d3_74)
    refine own_st st17 ?_
    show own_Go p e below G (T17.setTop (mkF m 77 #[rv r, iv num, own_dv (FP.l2d v), .second, iv 1, iv 1, iv 0] [(.ref bn), (.int (1 : Int32)), (.ref bn)]))
    refine own_st (fun t k => XS.iload X17.here hx rfl (hb hby d3_77) rfl  k) ?_
    show own_Go p e below G (T17.setTop (mkF m 79 #[rv r, iv num, own_dv (FP.l2d v), .second, iv 1, iv 1, iv 0] [(.int (0 : Int32)), (.ref bn), (.int (1 : Int32)), (.ref bn)]))
    have Vc18 := V_bn
    obtain ⟨cl18, Ar18, -, Sa18, -, Ha18, -⟩ := Vc18
    have hin18 : ¬ ((0 : Int32) < 0 ∨ cl18.slots.size ≤ ((0 : Int32)).toNatClampNeg) := inb_of Sa18 ⟨by decide, by decide⟩
    refine own_st (fun t k => X17.iaload hx (j := (0 : Int32)) (v := (.int m0)) (by rw [e17]; exact Ar18.1) (State.isArrayOf_alike hZ.alike Ar18.2.1) Ar18.2.2 hin18 (Ha18.at hin18 rfl) (g := (mkF m 79 #[rv r, iv num, own_dv (FP.l2d v), .second, iv 1, iv 1, iv 0] [(.int (0 : Int32)), (.ref bn), (.int (1 : Int32)), (.ref bn)])) rfl rfl (hb hby d3_79) t k) ?_
    show own_Go p e below G (T17.setTop (mkF m 80 #[rv r, iv num, own_dv (FP.l2d v), .second, iv 1, iv 1, iv 0] [(.int m0), (.int (1 : Int32)), (.ref bn)]))
    obtain ⟨cl19, Ar19, qa19, Sa19, Na19, Ha19, Ga19⟩ := V_bn
    have hin19 : ¬ ((1 : Int32) < 0 ∨ cl19.slots.size ≤ ((1 : Int32)).toNatClampNeg) := inb_of Sa19 ⟨by decide, by decide⟩
    obtain ⟨T19, h19, X19, e19, W19, st19⟩ := stI X17 hx hZ e17 Ar19 (j := (1 : Int32)) hin19 (g := (mkF m 80 #[rv r, iv num, own_dv (FP.l2d v), .second, iv 1, iv 1, iv 0] [(.int m0), (.int (1 : Int32)), (.ref bn)])) rfl rfl (hb hby d3_80)
    have V_bn : Arv Z h19 bn kn .int (2 : Int32) [(.int m0), (.int m0)] (.int (0 : Int32)) := Arv.set Ar19 qa19 Sa19 Na19 Ha19 Ga19 rfl W19 1 rfl (Nat.le_of_ble_eq_true rfl)
    replace E_r := E_r.wr W19
    replace F_numbers_r := F_numbers_r.other W19 (Or.inl nrn)
    replace F_cosines_r := F_cosines_r.other W19 (Or.inl nrn)
    replace F_places_r := F_places_r.other W19 (Or.inl nrn)
    replace F_size_r := F_size_r.other W19 (Or.inl nrn)
    replace V_bc := V_bc.other W19 (Ne.symm nnc)
    replace Pl := own_PlW Pl W19 (List.mem_of_getElem? (i := 1) rfl)
    replace Z0 := Nat.le_trans Z0 (Keep.of_wr W19).1
    replace N0 := Fr.snoc X19 N0 g_bn
    refine own_st st19 ?_
    show own_Go p e below G (T19.setTop (mkF m 81 #[rv r, iv num, own_dv (FP.l2d v), .second, iv 1, iv 1, iv 0] []))
    refine own_st (fun t k => XS.aloadN X19.here hx rfl (hb hby d3_81) rfl rfl  k) ?_
    show own_Go p e below G (T19.setTop (mkF m 82 #[rv r, iv num, own_dv (FP.l2d v), .second, iv 1, iv 1, iv 0] [(.ref r)]))
    obtain ⟨T20, X20, e20, st20⟩ := getF X19 hx hZ hown (host := "") (Or.inl (hw _ (List.mem_of_getElem? (i := 13) rfl))) Via.refl e19 F_cosines_r (g := (mkF m 82 #[rv r, iv num, own_dv (FP.l2d v), .second, iv 1, iv 1, iv 0] [(.ref r)])) rfl rfl (hb hby d3_82)
    refine own_st st20 ?_
    show own_Go p e below G (T20.setTop (mkF m 85 #[rv r, iv num, own_dv (FP.l2d v), .second, iv 1, iv 1, iv 0] [(.ref bc)]))
    refine own_st (fun t k => XS.iload X20.here hx rfl (hb hby d3_85) rfl  k) ?_
    refine own_st (fun t k => XS.aloadN X20.here hx rfl (hb hby d3_87) rfl rfl  k) ?_
    show own_Go p e below G (T20.setTop (mkF m 88 #[rv r, iv num, own_dv (FP.l2d v), .second, iv 1, iv 1, iv 0] [(.ref r), (.int (1 : Int32)), (.ref bc)]))
    obtain ⟨T21, X21, e21, st21⟩ := getF X20 hx hZ hown (host := "") (Or.inl (hw _ (List.mem_of_getElem? (i := 13) rfl))) Via.refl e20 F_cosines_r (g := (mkF m 88 #[rv r, iv num, own_dv (FP.l2d v), .second, iv 1, iv 1, iv 0] [(.ref r), (.int (1 : Int32)), (.ref bc)])) rfl rfl (hb hby d3_88)
    refine own_st st21 ?_
    show own_Go p e below G (T21.setTop (mkF m 91 #[rv r, iv num, own_dv (FP.l2d v), .second, iv 1, iv 1, iv 0] [(.ref bc), (.int (1 : Int32)), (.ref bc)]))
    refine own_st (fun t k => XS.iload X21.here hx rfl (hb hby d3_91) rfl  k) ?_
    show own_Go p e below G (T21.setTop (mkF m 93 #[rv r, iv num, own_dv (FP.l2d v), .second, iv 1, iv 1, iv 0] [(.int (0 : Int32)), (.ref bc), (.int (1 : Int32)), (.ref bc)]))
    have Vc22 := V_bc
    obtain ⟨cl22, Ar22, -, Sa22, -, Ha22, -⟩ := Vc22
    have hin22 : ¬ ((0 : Int32) < 0 ∨ cl22.slots.size ≤ ((0 : Int32)).toNatClampNeg) := inb_of Sa22 ⟨by decide, by decide⟩
    refine own_st (fun t k => X21.daload hx (j := (0 : Int32)) (v := (.double (FP.l2d c0))) (by rw [e21]; exact Ar22.1) (State.isArrayOf_alike hZ.alike Ar22.2.1) Ar22.2.2 hin22 (Ha22.at hin22 rfl) (g := (mkF m 93 #[rv r, iv num, own_dv (FP.l2d v), .second, iv 1, iv 1, iv 0] [(.int (0 : Int32)), (.ref bc), (.int (1 : Int32)), (.ref bc)])) rfl rfl (hb hby d3_93) t k) ?_
    show own_Go p e below G (T21.setTop (mkF m 94 #[rv r, iv num, own_dv (FP.l2d v), .second, iv 1, iv 1, iv 0] [(.double (FP.l2d c0)), (.int (1 : Int32)), (.ref bc)]))
    obtain ⟨cl23, Ar23, qa23, Sa23, Na23, Ha23, Ga23⟩ := V_bc
    have hin23 : ¬ ((1 : Int32) < 0 ∨ cl23.slots.size ≤ ((1 : Int32)).toNatClampNeg) := inb_of Sa23 ⟨by decide, by decide⟩
    obtain ⟨T23, h23, X23, e23, W23, st23⟩ := stD X21 hx hZ e21 Ar23 (j := (1 : Int32)) hin23 (g := (mkF m 94 #[rv r, iv num, own_dv (FP.l2d v), .second, iv 1, iv 1, iv 0] [(.double (FP.l2d c0)), (.int (1 : Int32)), (.ref bc)])) rfl rfl (hb hby d3_94)
    have V_bc : Arv Z h23 bc kc .double (2 : Int32) [(.double (FP.l2d c0)), (.double (FP.l2d c0))] (.double (0 : UInt64)) := Arv.set Ar23 qa23 Sa23 Na23 Ha23 Ga23 rfl W23 1 rfl (Nat.le_of_ble_eq_true rfl)
    replace E_r := E_r.wr W23
    replace F_numbers_r := F_numbers_r.other W23 (Or.inl nrc)
    replace F_cosines_r := F_cosines_r.other W23 (Or.inl nrc)
    replace F_places_r := F_places_r.other W23 (Or.inl nrc)
    replace F_size_r := F_size_r.other W23 (Or.inl nrc)
    replace V_bn := V_bn.other W23 nnc
    replace Pl := own_PlW Pl W23 (List.mem_of_getElem? (i := 2) rfl)
    replace Z0 := Nat.le_trans Z0 (Keep.of_wr W23).1
    replace N0 := Fr.snoc X23 N0 g_bc
    refine own_st st23 ?_
    show own_Go p e below G (T23.setTop (mkF m 95 #[rv r, iv num, own_dv (FP.l2d v), .second, iv 1, iv 1, iv 0] []))
    refine own_st (fun t k => XS.iload X23.here hx rfl (hb hby d3_95) rfl  k) ?_
    refine own_st (fun t k => XS.istore X23.here hx rfl (hb hby d3_97) rfl (l' := #[rv r, iv num, own_dv (FP.l2d v), .second, iv 1, iv 0, iv 0]) rfl k) ?_
    refine own_st (fun t k => XS.goto X23.here hx rfl (pc0 := 99) (pc' := 28) rfl (hb hby d3_99) (by decide) (by decide) k) ?_
    show own_Go p e below G (T23.setTop (mkF m 28 #[rv r, iv num, own_dv (FP.l2d v), .second, iv 1, iv 0, iv 0] []))
    refine own_st (fun t k => XS.iload X23.here hx rfl (hb hby d3_28) rfl  k) ?_
    show own_Go p e below G (T23.setTop (mkF m 30 #[rv r, iv num, own_dv (FP.l2d v), .second, iv 1, iv 0, iv 0] [(.int (0 : Int32))]))
    refine own_st (fun t k => XS.ifYes X23.here hx rfl (pc0 := 30) (pc' := 102) rfl (hb hby d3_30) rfl ((if0 _ _).trans (flt (by decide)).2.2.2) (by decide) (by decide) k) ?_
    show own_Go p e below G (T23.setTop (mkF m 102 #[rv r, iv num, own_dv (FP.l2d v), .second, iv 1, iv 0, iv 0] []))
    refine own_st (fun t k => XS.aloadN X23.here hx rfl (hb hby d3_102) rfl rfl  k) ?_
    show own_Go p e below G (T23.setTop (mkF m 103 #[rv r, iv num, own_dv (FP.l2d v), .second, iv 1, iv 0, iv 0] [(.ref r)]))
    obtain ⟨T24, X24, e24, st24⟩ := getF X23 hx hZ hown (host := "") (Or.inl (hw _ (List.mem_of_getElem? (i := 10) rfl))) Via.refl e23 F_numbers_r (g := (mkF m 103 #[rv r, iv num, own_dv (FP.l2d v), .second, iv 1, iv 0, iv 0] [(.ref r)])) rfl rfl (hb hby d3_103)
    refine own_st st24 ?_
    show own_Go p e below G (T24.setTop (mkF m 106 #[rv r, iv num, own_dv (FP.l2d v), .second, iv 1, iv 0, iv 0] [(.ref bn)]))
    refine own_st (fun t k => XS.iload X24.here hx rfl (hb hby d3_106) rfl  k) ?_
    refine own_st (fun t k => XS.iloadN X24.here hx rfl (hb hby d3_108) rfl  k) ?_
    show own_Go p e below G (T24.setTop (mkF m 109 #[rv r, iv num, own_dv (FP.l2d v), .second, iv 1, iv 0, iv 0] [(.int num), (.int (0 : Int32)), (.ref bn)]))
    obtain ⟨cl25, Ar25, qa25, Sa25, Na25, Ha25, Ga25⟩ := V_bn
    have hin25 : ¬ ((0 : Int32) < 0 ∨ cl25.slots.size ≤ ((0 : Int32)).toNatClampNeg) := inb_of Sa25 ⟨by decide, by decide⟩
    obtain ⟨T25, h25, X25, e25, W25, st25⟩ := stI X24 hx hZ e24 Ar25 (j := (0 : Int32)) hin25 (g := (mkF m 109 #[rv r, iv num, own_dv (FP.l2d v), .second, iv 1, iv 0, iv 0] [(.int num), (.int (0 : Int32)), (.ref bn)])) rfl rfl (hb hby d3_109)
    have V_bn : Arv Z h25 bn kn .int (2 : Int32) [(.int num), (.int m0)] (.int (0 : Int32)) := Arv.set Ar25 qa25 Sa25 Na25 Ha25 Ga25 rfl W25 0 rfl (Nat.le_of_ble_eq_true rfl)
    replace E_r := E_r.wr W25
    replace F_numbers_r := F_numbers_r.other W25 (Or.inl nrn)
    replace F_cosines_r := F_cosines_r.other W25 (Or.inl nrn)
    replace F_places_r := F_places_r.other W25 (Or.inl nrn)
    replace F_size_r := F_size_r.other W25 (Or.inl nrn)
    replace V_bc := V_bc.other W25 (Ne.symm nnc)
    replace Pl := own_PlW Pl W25 (List.mem_of_getElem? (i := 1) rfl)
    replace Z0 := Nat.le_trans Z0 (Keep.of_wr W25).1
    replace N0 := Fr.snoc X25 N0 g_bn
    refine own_st st25 ?_
    show own_Go p e below G (T25.setTop (mkF m 110 #[rv r, iv num, own_dv (FP.l2d v), .second, iv 1, iv 0, iv 0] []))
    refine own_st (fun t k => XS.aloadN X25.here hx rfl (hb hby d3_110) rfl rfl  k) ?_
    show own_Go p e below G (T25.setTop (mkF m 111 #[rv r, iv num, own_dv (FP.l2d v), .second, iv 1, iv 0, iv 0] [(.ref r)]))
    obtain ⟨T26, X26, e26, st26⟩ := getF X25 hx hZ hown (host := "") (Or.inl (hw _ (List.mem_of_getElem? (i := 13) rfl))) Via.refl e25 F_cosines_r (g := (mkF m 111 #[rv r, iv num, own_dv (FP.l2d v), .second, iv 1, iv 0, iv 0] [(.ref r)])) rfl rfl (hb hby d3_111)
    refine own_st st26 ?_
    show own_Go p e below G (T26.setTop (mkF m 114 #[rv r, iv num, own_dv (FP.l2d v), .second, iv 1, iv 0, iv 0] [(.ref bc)]))
    refine own_st (fun t k => XS.iload X26.here hx rfl (hb hby d3_114) rfl  k) ?_
    refine own_st (fun t k => XS.dloadN X26.here hx rfl (hb hby d3_116) rfl  k) ?_
    show own_Go p e below G (T26.setTop (mkF m 117 #[rv r, iv num, own_dv (FP.l2d v), .second, iv 1, iv 0, iv 0] [(.double (FP.l2d v)), (.int (0 : Int32)), (.ref bc)]))
    obtain ⟨cl27, Ar27, qa27, Sa27, Na27, Ha27, Ga27⟩ := V_bc
    have hin27 : ¬ ((0 : Int32) < 0 ∨ cl27.slots.size ≤ ((0 : Int32)).toNatClampNeg) := inb_of Sa27 ⟨by decide, by decide⟩
    obtain ⟨T27, h27, X27, e27, W27, st27⟩ := stD X26 hx hZ e26 Ar27 (j := (0 : Int32)) hin27 (g := (mkF m 117 #[rv r, iv num, own_dv (FP.l2d v), .second, iv 1, iv 0, iv 0] [(.double (FP.l2d v)), (.int (0 : Int32)), (.ref bc)])) rfl rfl (hb hby d3_117)
    have V_bc : Arv Z h27 bc kc .double (2 : Int32) [(.double (FP.l2d v)), (.double (FP.l2d c0))] (.double (0 : UInt64)) := Arv.set Ar27 qa27 Sa27 Na27 Ha27 Ga27 rfl W27 0 rfl (Nat.le_of_ble_eq_true rfl)
    replace E_r := E_r.wr W27
    replace F_numbers_r := F_numbers_r.other W27 (Or.inl nrc)
    replace F_cosines_r := F_cosines_r.other W27 (Or.inl nrc)
    replace F_places_r := F_places_r.other W27 (Or.inl nrc)
    replace F_size_r := F_size_r.other W27 (Or.inl nrc)
    replace V_bn := V_bn.other W27 nnc
    replace Pl := own_PlW Pl W27 (List.mem_of_getElem? (i := 2) rfl)
    replace Z0 := Nat.le_trans Z0 (Keep.of_wr W27).1
    replace N0 := Fr.snoc X27 N0 g_bc
    refine own_st st27 ?_
    show own_Go p e below G (T27.setTop (mkF m 118 #[rv r, iv num, own_dv (FP.l2d v), .second, iv 1, iv 0, iv 0] []))
    refine own_st (fun t k => XS.goto X27.here hx rfl (pc0 := 118) (pc' := 165) rfl (hb hby d3_118) (by decide) (by decide) k) ?_
    refine own_st (fun t k => XS.iload X27.here hx rfl (hb hby d3_165) rfl  k) ?_
    show own_Go p e below G (T27.setTop (mkF m 167 #[rv r, iv num, own_dv (FP.l2d v), .second, iv 1, iv 0, iv 0] [(.int (1 : Int32))]))
    rw [hG]
    exact own_retZ X27 hx hlk (t := .boolean) hret (by simp) (hb hby d3_167) (by rw [e27]; exact ⟨⟨_, rfl⟩, N0, num, m0, v, c0, ⟨E_r, F_numbers_r, F_cosines_r, F_places_r, F_size_r, V_bn, V_bc, Pl, nrn, nrc, nnc, g_r, g_bn, g_bc, Z0⟩, hnum, hv, hm0, hc0, Or.inl ⟨(ht10 (hq10.resolve_left c61_11)), rfl, rfl⟩⟩) (by decide) (by decide)
theorem pn_rmO22 : plainFor (⟨"com/example/thinleaf/thinleaf/prune/Nearest", "offer", "(ID)Z"⟩ : MethodName) = true := by decide +kernel
theorem ef_rmO22 (m : MethodId) (x0 : Addr) (x1 : Int32) (x2 : UInt64) : entryFrame m #[(.ref x0), (.int x1), (.double x2)] 7 = mkF m 0 #[rv x0, iv x1, own_dv x2, .second, .unset, .unset, .unset] [] := by first | (simp [entryFrame, mkF, argsToLocals, Value.category]; done) | rfl
set_option maxRecDepth 65536 in
set_option maxHeartbeats 40000000 in
theorem rmO22 (l : Launch) (Z : State) (a0 : Array Value) (hw : ∀ d ∈ tables_1, d.before a0 Z = true) (r bn bc : Addr) (kn kc : ClassId) (pv : Value) (num : Int32) (v : Int64)(m0 m1 : Int32) (c0 c1 : Int64) (h0 : Heap) (n0 : Nat) (NB : own_NE Z h0 n0 r bn bc kn kc pv (2 : Int32) (2 : Int32) [(.int m0), (.int m1)] [(.double (FP.l2d c0)), (.double (FP.l2d c1))]) (hm0 : own_d m0) (hc0 : own_b c0) (hm1 : own_d m1) (hc1 : own_b c1) (hnum : own_d num) (hv : own_b v) :
    own_Met l Z (⟨"com/example/thinleaf/thinleaf/prune/Nearest", "offer", "(ID)Z"⟩ : MethodName) prog_219_method_8_code 7 (some .boolean) [] ({ frames := 2, cells := 0, slots := 0, locals := 36 } : Room) #[(.ref r), (.int num), (.double (FP.l2d v))] h0 (fun z h L => (∃ q : Int32, z = some (.int q)) ∧ Fr n0 L ∧ ∃ (p0 p1 : Int32) (d0 d1 : Int64), own_NE Z h n0 r bn bc kn kc pv (2 : Int32) (2 : Int32) [(.int p0), (.int p1)] [(.double (FP.l2d d0)), (.double (FP.l2d d1))] ∧ own_d p0 ∧ own_b d0 ∧ own_d p1 ∧ own_b d1 ∧ own_R22 c0 c1 v d0 d1) := by
  refine own_body pn_rmO22 ?_
  intro p e s m below meth c s₁ hx hby hml hown hnm hret hlk hZ X0 e0 G hG
  replace hml : c.maxLocals = 7 := hml
  replace hown : s.vm.findClass "com/example/thinleaf/thinleaf/prune/Nearest" = some m.cls := hown
  rw [ef_rmO22]
  obtain ⟨E_r, F_numbers_r, F_cosines_r, F_places_r, F_size_r, V_bn, V_bc, Pl, nrn, nrc, nnc, g_r, g_bn, g_bc, Z0⟩ := NB
  have N0 := Fr.nil n0
  show own_Go p e below G (s₁.setTop (mkF m 0 #[rv r, iv num, own_dv (FP.l2d v), .second, .unset, .unset, .unset] []))
  refine own_st (fun t k => XS.iconst X0.here hx rfl (hb hby d3_0) k) ?_
  refine own_st (fun t k => XS.istore X0.here hx rfl (hb hby d3_1) rfl (l' := #[rv r, iv num, own_dv (FP.l2d v), .second, iv 1, .unset, .unset]) rfl k) ?_
  refine own_st (fun t k => XS.aloadN X0.here hx rfl (hb hby d3_3) rfl rfl  k) ?_
  show own_Go p e below G (s₁.setTop (mkF m 4 #[rv r, iv num, own_dv (FP.l2d v), .second, iv 1, .unset, .unset] [(.ref r)]))
  obtain ⟨T1, X1, e1, st1⟩ := getF X0 hx hZ hown (host := "") (Or.inl (hw _ (List.mem_of_getElem? (i := 22) rfl))) Via.refl e0 F_size_r (g := (mkF m 4 #[rv r, iv num, own_dv (FP.l2d v), .second, iv 1, .unset, .unset] [(.ref r)])) rfl rfl (hb hby d3_4)
  refine own_st st1 ?_
  show own_Go p e below G (T1.setTop (mkF m 7 #[rv r, iv num, own_dv (FP.l2d v), .second, iv 1, .unset, .unset] [(.int (2 : Int32))]))
  refine own_st (fun t k => XS.aloadN X1.here hx rfl (hb hby d3_7) rfl rfl  k) ?_
  show own_Go p e below G (T1.setTop (mkF m 8 #[rv r, iv num, own_dv (FP.l2d v), .second, iv 1, .unset, .unset] [(.ref r), (.int (2 : Int32))]))
  obtain ⟨T2, X2, e2, st2⟩ := getF X1 hx hZ hown (host := "") (Or.inl (hw _ (List.mem_of_getElem? (i := 10) rfl))) Via.refl e1 F_numbers_r (g := (mkF m 8 #[rv r, iv num, own_dv (FP.l2d v), .second, iv 1, .unset, .unset] [(.ref r), (.int (2 : Int32))])) rfl rfl (hb hby d3_8)
  refine own_st st2 ?_
  show own_Go p e below G (T2.setTop (mkF m 11 #[rv r, iv num, own_dv (FP.l2d v), .second, iv 1, .unset, .unset] [(.ref bn), (.int (2 : Int32))]))
  have Vc3 := V_bn
  obtain ⟨cl3, Ar3, -, Sa3, Na3, -, -⟩ := Vc3
  refine own_st (fun t k => X2.arraylength hx (by rw [e2]; exact Ar3.1) (State.isArrayOf_alike hZ.alike Ar3.2.1) (g := (mkF m 11 #[rv r, iv num, own_dv (FP.l2d v), .second, iv 1, .unset, .unset] [(.ref bn), (.int (2 : Int32))])) rfl rfl (hb hby d3_11) t k) ?_
  rw [len_of Sa3 Na3]
  show own_Go p e below G (T2.setTop (mkF m 12 #[rv r, iv num, own_dv (FP.l2d v), .second, iv 1, .unset, .unset] [(.int (2 : Int32)), (.int (2 : Int32))]))
  refine own_st (fun t k => XS.icmpYes X2.here hx rfl (pc0 := 12) (pc' := 121) rfl (hb hby d3_12) rfl (flt (by decide)).2.1 (by decide) (by decide) k) ?_
  show own_Go p e below G (T2.setTop (mkF m 121 #[rv r, iv num, own_dv (FP.l2d v), .second, iv 1, .unset, .unset] []))
  refine own_st (fun t k => XS.aloadN X2.here hx rfl (hb hby d3_121) rfl rfl  k) ?_
  show own_Go p e below G (T2.setTop (mkF m 122 #[rv r, iv num, own_dv (FP.l2d v), .second, iv 1, .unset, .unset] [(.ref r)]))
  obtain ⟨T4, X4, e4, st4⟩ := getF X2 hx hZ hown (host := "") (Or.inl (hw _ (List.mem_of_getElem? (i := 22) rfl))) Via.refl e2 F_size_r (g := (mkF m 122 #[rv r, iv num, own_dv (FP.l2d v), .second, iv 1, .unset, .unset] [(.ref r)])) rfl rfl (hb hby d3_122)
  refine own_st st4 ?_
  show own_Go p e below G (T4.setTop (mkF m 125 #[rv r, iv num, own_dv (FP.l2d v), .second, iv 1, .unset, .unset] [(.int (2 : Int32))]))
  refine own_st (fun t k => XS.ifNo X4.here hx rfl (hb hby d3_125) rfl ((if0 _ _).trans (tlt (by decide)).2.2.2) k) ?_
  show own_Go p e below G (T4.setTop (mkF m 128 #[rv r, iv num, own_dv (FP.l2d v), .second, iv 1, .unset, .unset] []))
  refine own_st (fun t k => XS.aloadN X4.here hx rfl (hb hby d3_128) rfl rfl  k) ?_
  refine own_st (fun t k => XS.aloadN X4.here hx rfl (hb hby d3_129) rfl rfl  k) ?_
  show own_Go p e below G (T4.setTop (mkF m 130 #[rv r, iv num, own_dv (FP.l2d v), .second, iv 1, .unset, .unset] [(.ref r), (.ref r)]))
  obtain ⟨T5, X5, e5, st5⟩ := getF X4 hx hZ hown (host := "") (Or.inl (hw _ (List.mem_of_getElem? (i := 10) rfl))) Via.refl e4 F_numbers_r (g := (mkF m 130 #[rv r, iv num, own_dv (FP.l2d v), .second, iv 1, .unset, .unset] [(.ref r), (.ref r)])) rfl rfl (hb hby d3_130)
  refine own_st st5 ?_
  show own_Go p e below G (T5.setTop (mkF m 133 #[rv r, iv num, own_dv (FP.l2d v), .second, iv 1, .unset, .unset] [(.ref bn), (.ref r)]))
  refine own_st (fun t k => XS.iconst X5.here hx rfl (hb hby d3_133) k) ?_
  show own_Go p e below G (T5.setTop (mkF m 134 #[rv r, iv num, own_dv (FP.l2d v), .second, iv 1, .unset, .unset] [(.int (0 : Int32)), (.ref bn), (.ref r)]))
  have Vc6 := V_bn
  obtain ⟨cl6, Ar6, -, Sa6, -, Ha6, -⟩ := Vc6
  have hin6 : ¬ ((0 : Int32) < 0 ∨ cl6.slots.size ≤ ((0 : Int32)).toNatClampNeg) := inb_of Sa6 ⟨by decide, by decide⟩
  refine own_st (fun t k => X5.iaload hx (j := (0 : Int32)) (v := (.int m0)) (by rw [e5]; exact Ar6.1) (State.isArrayOf_alike hZ.alike Ar6.2.1) Ar6.2.2 hin6 (Ha6.at hin6 rfl) (g := (mkF m 134 #[rv r, iv num, own_dv (FP.l2d v), .second, iv 1, .unset, .unset] [(.int (0 : Int32)), (.ref bn), (.ref r)])) rfl rfl (hb hby d3_134) t k) ?_
  show own_Go p e below G (T5.setTop (mkF m 135 #[rv r, iv num, own_dv (FP.l2d v), .second, iv 1, .unset, .unset] [(.int m0), (.ref r)]))
  refine own_st (fun t k => XS.aloadN X5.here hx rfl (hb hby d3_135) rfl rfl  k) ?_
  show own_Go p e below G (T5.setTop (mkF m 136 #[rv r, iv num, own_dv (FP.l2d v), .second, iv 1, .unset, .unset] [(.ref r), (.int m0), (.ref r)]))
  obtain ⟨T7, X7, e7, st7⟩ := getF X5 hx hZ hown (host := "") (Or.inl (hw _ (List.mem_of_getElem? (i := 13) rfl))) Via.refl e5 F_cosines_r (g := (mkF m 136 #[rv r, iv num, own_dv (FP.l2d v), .second, iv 1, .unset, .unset] [(.ref r), (.int m0), (.ref r)])) rfl rfl (hb hby d3_136)
  refine own_st st7 ?_
  show own_Go p e below G (T7.setTop (mkF m 139 #[rv r, iv num, own_dv (FP.l2d v), .second, iv 1, .unset, .unset] [(.ref bc), (.int m0), (.ref r)]))
  refine own_st (fun t k => XS.iconst X7.here hx rfl (hb hby d3_139) k) ?_
  show own_Go p e below G (T7.setTop (mkF m 140 #[rv r, iv num, own_dv (FP.l2d v), .second, iv 1, .unset, .unset] [(.int (0 : Int32)), (.ref bc), (.int m0), (.ref r)]))
  have Vc8 := V_bc
  obtain ⟨cl8, Ar8, -, Sa8, -, Ha8, -⟩ := Vc8
  have hin8 : ¬ ((0 : Int32) < 0 ∨ cl8.slots.size ≤ ((0 : Int32)).toNatClampNeg) := inb_of Sa8 ⟨by decide, by decide⟩
  refine own_st (fun t k => X7.daload hx (j := (0 : Int32)) (v := (.double (FP.l2d c0))) (by rw [e7]; exact Ar8.1) (State.isArrayOf_alike hZ.alike Ar8.2.1) Ar8.2.2 hin8 (Ha8.at hin8 rfl) (g := (mkF m 140 #[rv r, iv num, own_dv (FP.l2d v), .second, iv 1, .unset, .unset] [(.int (0 : Int32)), (.ref bc), (.int m0), (.ref r)])) rfl rfl (hb hby d3_140) t k) ?_
  show own_Go p e below G (T7.setTop (mkF m 141 #[rv r, iv num, own_dv (FP.l2d v), .second, iv 1, .unset, .unset] [(.double (FP.l2d c0)), (.int m0), (.ref r)]))
  refine own_st (fun t k => XS.iloadN X7.here hx rfl (hb hby d3_141) rfl  k) ?_
  refine own_st (fun t k => XS.dloadN X7.here hx rfl (hb hby d3_142) rfl  k) ?_
  show own_Go p e below G (T7.setTop (mkF m 143 #[rv r, iv num, own_dv (FP.l2d v), .second, iv 1, .unset, .unset] [(.double (FP.l2d v)), (.int num), (.double (FP.l2d c0)), (.int m0), (.ref r)]))
  obtain ⟨v9, T9, L9, X9, Q9, st9⟩ := own_callP X7 hx hZ (y := (⟨"com/example/thinleaf/thinleaf/prune/Nearest", "below", "(IDID)Z"⟩ : MethodName)) hown (hw _ (List.mem_of_getElem? (i := 31) rfl)) (hw _ (List.mem_of_getElem? (i := 32) rfl)) (hw _ (List.mem_of_getElem? (i := 33) rfl)) (hw _ (List.mem_of_getElem? (i := 2) rfl)) (hw _ (List.mem_of_getElem? (i := 3) rfl)) (hw _ (List.mem_of_getElem? (i := 34) rfl)) (by decide) (W := 0) (rmB l Z a0 hw r m0 c0 num v pv _ h0 F_places_r Pl hc0 hv hm0 hnum) (by decide) (by decide) e7 E_r (g := (mkF m 143 #[rv r, iv num, own_dv (FP.l2d v), .second, iv 1, .unset, .unset] [(.double (FP.l2d v)), (.int num), (.double (FP.l2d c0)), (.int m0), (.ref r)])) rfl (by rw [hml]; rfl) (argsL := [(.int m0), (.double (FP.l2d c0)), (.int num), (.double (FP.l2d v))]) (rest := []) own_pd0 rfl rfl (by show 2 * 0 + _ ≤ _; exact Nat.le_of_eq rfl) (hb hby d3_143) rfl (by decide) (by decide)
  obtain ⟨⟨q9, rfl, hq9, ht9, hf9⟩, rfl, e9⟩ := Q9
  simp only [List.append_nil, Nat.add_zero] at X9
  refine own_st st9 ?_
  show own_Go p e below G (T9.setTop (mkF m 146 #[rv r, iv num, own_dv (FP.l2d v), .second, iv 1, .unset, .unset] [(.int q9)]))
  by_cases c146_10 : q9 = (0 : Int32)
  · skip
    refine own_st (fun t k => XS.ifYes X9.here hx rfl (pc0 := 146) (pc' := 162) rfl (hb hby d3_146) rfl ((if0 _ _).trans (teq c146_10).1) (by decide) (by decide) k) ?_
    show own_Go p e below G (T9.setTop (mkF m 162 #[rv r, iv num, own_dv (FP.l2d v), .second, iv 1, .unset, .unset] []))
    refine own_st (fun t k => XS.iconst X9.here hx rfl (hb hby d3_162) k) ?_
    refine own_st (fun t k => XS.istore X9.here hx rfl (hb hby d3_163) rfl (l' := #[rv r, iv num, own_dv (FP.l2d v), .second, iv 0, .unset, .unset]) rfl k) ?_
    refine own_st (fun t k => XS.iload X9.here hx rfl (hb hby d3_165) rfl  k) ?_
    show own_Go p e below G (T9.setTop (mkF m 167 #[rv r, iv num, own_dv (FP.l2d v), .second, iv 0, .unset, .unset] [(.int (0 : Int32))]))
    rw [hG]
    exact own_retZ X9 hx hlk (t := .boolean) hret (by simp) (hb hby d3_167) (by rw [e9]; exact ⟨⟨_, rfl⟩, N0, m0, m1, c0, c1, ⟨E_r, F_numbers_r, F_cosines_r, F_places_r, F_size_r, V_bn, V_bc, Pl, nrn, nrc, nnc, g_r, g_bn, g_bc, Z0⟩, hm0, hc0, hm1, hc1, Or.inl ⟨(hf9 c146_10), rfl, rfl⟩⟩) (by decide) (by decide)
  · skip
    refine own_st (fun t k => XS.ifNo X9.here hx rfl (hb hby d3_146) rfl ((if0 _ _).trans (feq c146_10).1) k) ?_
    show own_Go p e below G (T9.setTop (mkF m 149 #[rv r, iv num, own_dv (FP.l2d v), .second, iv 1, .unset, .unset] []))
    refine own_st (fun t k => XS.aloadN X9.here hx rfl (hb hby d3_149) rfl rfl  k) ?_
    refine own_st (fun t k => XS.iloadN X9.here hx rfl (hb hby d3_150) rfl  k) ?_
    refine own_st (fun t k => XS.dloadN X9.here hx rfl (hb hby d3_151) rfl  k) ?_
    show own_Go p e below G (T9.setTop (mkF m 152 #[rv r, iv num, own_dv (FP.l2d v), .second, iv 1, .unset, .unset] [(.double (FP.l2d v)), (.int num), (.ref r)]))
    refine own_st (fun t k => XS.aloadN X9.here hx rfl (hb hby d3_152) rfl rfl  k) ?_
    show own_Go p e below G (T9.setTop (mkF m 153 #[rv r, iv num, own_dv (FP.l2d v), .second, iv 1, .unset, .unset] [(.ref r), (.double (FP.l2d v)), (.int num), (.ref r)]))
    obtain ⟨T11, X11, e11, st11⟩ := getF X9 hx hZ hown (host := "") (Or.inl (hw _ (List.mem_of_getElem? (i := 22) rfl))) Via.refl e9 F_size_r (g := (mkF m 153 #[rv r, iv num, own_dv (FP.l2d v), .second, iv 1, .unset, .unset] [(.ref r), (.double (FP.l2d v)), (.int num), (.ref r)])) rfl rfl (hb hby d3_153)
    refine own_st st11 ?_
    show own_Go p e below G (T11.setTop (mkF m 156 #[rv r, iv num, own_dv (FP.l2d v), .second, iv 1, .unset, .unset] [(.int (2 : Int32)), (.double (FP.l2d v)), (.int num), (.ref r)]))
    obtain ⟨v12, T12, L12, X12, Q12, st12⟩ := own_callP X11 hx hZ (y := (⟨"com/example/thinleaf/thinleaf/prune/Nearest", "sink", "(IDI)V"⟩ : MethodName)) hown (hw _ (List.mem_of_getElem? (i := 42) rfl)) (hw _ (List.mem_of_getElem? (i := 43) rfl)) (hw _ (List.mem_of_getElem? (i := 44) rfl)) (hw _ (List.mem_of_getElem? (i := 2) rfl)) (hw _ (List.mem_of_getElem? (i := 3) rfl)) (hw _ (List.mem_of_getElem? (i := 45) rfl)) (by decide) (W := 0) (rmS2 l Z a0 hw r bn bc kn kc pv num v m0 m1 c0 c1 h0 n0 ⟨E_r, F_numbers_r, F_cosines_r, F_places_r, F_size_r, V_bn, V_bc, Pl, nrn, nrc, nnc, g_r, g_bn, g_bc, Z0⟩ hm0 hc0 hm1 hc1 hnum hv) (by decide) (by decide) e11 E_r (g := (mkF m 156 #[rv r, iv num, own_dv (FP.l2d v), .second, iv 1, .unset, .unset] [(.int (2 : Int32)), (.double (FP.l2d v)), (.int num), (.ref r)])) rfl (by rw [hml]; rfl) (argsL := [(.int num), (.double (FP.l2d v)), (.int (2 : Int32))]) (rest := []) own_pd1 rfl rfl (by show 2 * 0 + _ ≤ _; exact Nat.le_of_eq rfl) (hb hby d3_156) rfl (by decide) (by decide)
    obtain ⟨rfl, Nq, p0, p1, d0, d1, NB', hp0, hd0, hp1, hd1, hS⟩ := Q12
    replace N0 := Fr.app N0 Nq
    refine own_st st12 ?_
    show own_Go p e below G (T12.setTop (mkF m 159 #[rv r, iv num, own_dv (FP.l2d v), .second, iv 1, .unset, .unset] []))
    refine own_st (fun t k => XS.goto X12.here hx rfl (pc0 := 159) (pc' := 165) rfl (hb hby d3_159) (by decide) (by decide) k) ?_
    refine own_st (fun t k => XS.iload X12.here hx rfl (hb hby d3_165) rfl  k) ?_
    show own_Go p e below G (T12.setTop (mkF m 167 #[rv r, iv num, own_dv (FP.l2d v), .second, iv 1, .unset, .unset] [(.int (1 : Int32))]))
    rw [hG]
    exact own_retZ X12 hx hlk (t := .boolean) hret (by simp) (hb hby d3_167) ⟨⟨_, rfl⟩, N0, p0, p1, d0, d1, NB', hp0, hd0, hp1, hd1, Or.inr ⟨(ht9 (hq9.resolve_left c146_10)), hS⟩⟩ (by decide) (by decide)
theorem pn_rmO30 : plainFor (⟨"com/example/thinleaf/thinleaf/prune/Nearest", "offer", "(ID)Z"⟩ : MethodName) = true := by decide +kernel
theorem ef_rmO30 (m : MethodId) (x0 : Addr) (x1 : Int32) (x2 : UInt64) : entryFrame m #[(.ref x0), (.int x1), (.double x2)] 7 = mkF m 0 #[rv x0, iv x1, own_dv x2, .second, .unset, .unset, .unset] [] := by first | (simp [entryFrame, mkF, argsToLocals, Value.category]; done) | rfl
set_option maxRecDepth 65536 in
set_option maxHeartbeats 40000000 in
theorem rmO30 (l : Launch) (Z : State) (a0 : Array Value) (hw : ∀ d ∈ tables_1, d.before a0 Z = true) (r bn bc : Addr) (kn kc : ClassId) (pv : Value) (num : Int32) (v : Int64) (h0 : Heap) (n0 : Nat) (NB : own_NE Z h0 n0 r bn bc kn kc pv (3 : Int32) (0 : Int32) [(.int (0 : Int32)), (.int (0 : Int32)), (.int (0 : Int32))] [(.double (0 : UInt64)), (.double (0 : UInt64)), (.double (0 : UInt64))]) (hnum : own_d num) (hv : own_b v) :
    own_Met l Z (⟨"com/example/thinleaf/thinleaf/prune/Nearest", "offer", "(ID)Z"⟩ : MethodName) prog_219_method_8_code 7 (some .boolean) [] ({ frames := 2, cells := 0, slots := 0, locals := 36 } : Room) #[(.ref r), (.int num), (.double (FP.l2d v))] h0 (fun z h L => (∃ q : Int32, z = some (.int q)) ∧ Fr n0 L ∧ ∃ (p0 : Int32) (d0 : Int64), own_NE Z h n0 r bn bc kn kc pv (3 : Int32) (1 : Int32) [(.int p0), (.int (0 : Int32)), (.int (0 : Int32))] [(.double (FP.l2d d0)), (.double (0 : UInt64)), (.double (0 : UInt64))] ∧ own_d p0 ∧ own_b d0 ∧ own_R30  v d0) := by
  refine own_body pn_rmO30 ?_
  intro p e s m below meth c s₁ hx hby hml hown hnm hret hlk hZ X0 e0 G hG
  replace hml : c.maxLocals = 7 := hml
  replace hown : s.vm.findClass "com/example/thinleaf/thinleaf/prune/Nearest" = some m.cls := hown
  rw [ef_rmO30]
  obtain ⟨E_r, F_numbers_r, F_cosines_r, F_places_r, F_size_r, V_bn, V_bc, Pl, nrn, nrc, nnc, g_r, g_bn, g_bc, Z0⟩ := NB
  have N0 := Fr.nil n0
  show own_Go p e below G (s₁.setTop (mkF m 0 #[rv r, iv num, own_dv (FP.l2d v), .second, .unset, .unset, .unset] []))
  refine own_st (fun t k => XS.iconst X0.here hx rfl (hb hby d3_0) k) ?_
  refine own_st (fun t k => XS.istore X0.here hx rfl (hb hby d3_1) rfl (l' := #[rv r, iv num, own_dv (FP.l2d v), .second, iv 1, .unset, .unset]) rfl k) ?_
  refine own_st (fun t k => XS.aloadN X0.here hx rfl (hb hby d3_3) rfl rfl  k) ?_
  show own_Go p e below G (s₁.setTop (mkF m 4 #[rv r, iv num, own_dv (FP.l2d v), .second, iv 1, .unset, .unset] [(.ref r)]))
  obtain ⟨T1, X1, e1, st1⟩ := getF X0 hx hZ hown (host := "") (Or.inl (hw _ (List.mem_of_getElem? (i := 22) rfl))) Via.refl e0 F_size_r (g := (mkF m 4 #[rv r, iv num, own_dv (FP.l2d v), .second, iv 1, .unset, .unset] [(.ref r)])) rfl rfl (hb hby d3_4)
  refine own_st st1 ?_
  show own_Go p e below G (T1.setTop (mkF m 7 #[rv r, iv num, own_dv (FP.l2d v), .second, iv 1, .unset, .unset] [(.int (0 : Int32))]))
  refine own_st (fun t k => XS.aloadN X1.here hx rfl (hb hby d3_7) rfl rfl  k) ?_
  show own_Go p e below G (T1.setTop (mkF m 8 #[rv r, iv num, own_dv (FP.l2d v), .second, iv 1, .unset, .unset] [(.ref r), (.int (0 : Int32))]))
  obtain ⟨T2, X2, e2, st2⟩ := getF X1 hx hZ hown (host := "") (Or.inl (hw _ (List.mem_of_getElem? (i := 10) rfl))) Via.refl e1 F_numbers_r (g := (mkF m 8 #[rv r, iv num, own_dv (FP.l2d v), .second, iv 1, .unset, .unset] [(.ref r), (.int (0 : Int32))])) rfl rfl (hb hby d3_8)
  refine own_st st2 ?_
  show own_Go p e below G (T2.setTop (mkF m 11 #[rv r, iv num, own_dv (FP.l2d v), .second, iv 1, .unset, .unset] [(.ref bn), (.int (0 : Int32))]))
  have Vc3 := V_bn
  obtain ⟨cl3, Ar3, -, Sa3, Na3, -, -⟩ := Vc3
  refine own_st (fun t k => X2.arraylength hx (by rw [e2]; exact Ar3.1) (State.isArrayOf_alike hZ.alike Ar3.2.1) (g := (mkF m 11 #[rv r, iv num, own_dv (FP.l2d v), .second, iv 1, .unset, .unset] [(.ref bn), (.int (0 : Int32))])) rfl rfl (hb hby d3_11) t k) ?_
  rw [len_of Sa3 Na3]
  show own_Go p e below G (T2.setTop (mkF m 12 #[rv r, iv num, own_dv (FP.l2d v), .second, iv 1, .unset, .unset] [(.int (3 : Int32)), (.int (0 : Int32))]))
  refine own_st (fun t k => XS.icmpNo X2.here hx rfl (hb hby d3_12) rfl (tlt (by decide)).2.1 k) ?_
  show own_Go p e below G (T2.setTop (mkF m 15 #[rv r, iv num, own_dv (FP.l2d v), .second, iv 1, .unset, .unset] []))
  refine own_st (fun t k => XS.aloadN X2.here hx rfl (hb hby d3_15) rfl rfl  k) ?_
  refine own_st (fun t k => XS.dup X2.here hx rfl (hb hby d3_16) rfl rfl k) ?_
  show own_Go p e below G (T2.setTop (mkF m 17 #[rv r, iv num, own_dv (FP.l2d v), .second, iv 1, .unset, .unset] [(.ref r), (.ref r)]))
  obtain ⟨T4, X4, e4, st4⟩ := getF X2 hx hZ hown (host := "") (Or.inl (hw _ (List.mem_of_getElem? (i := 22) rfl))) Via.refl e2 F_size_r (g := (mkF m 17 #[rv r, iv num, own_dv (FP.l2d v), .second, iv 1, .unset, .unset] [(.ref r), (.ref r)])) rfl rfl (hb hby d3_17)
  refine own_st st4 ?_
  show own_Go p e below G (T4.setTop (mkF m 20 #[rv r, iv num, own_dv (FP.l2d v), .second, iv 1, .unset, .unset] [(.int (0 : Int32)), (.ref r)]))
  refine own_st (fun t k => XS.dupX1 X4.here hx rfl (hb hby d3_20) rfl rfl rfl k) ?_
  show own_Go p e below G (T4.setTop (mkF m 21 #[rv r, iv num, own_dv (FP.l2d v), .second, iv 1, .unset, .unset] [(.int (0 : Int32)), (.ref r), (.int (0 : Int32))]))
  refine own_st (fun t k => XS.iconst X4.here hx rfl (hb hby d3_21) k) ?_
  refine own_st (fun t k => XS.iadd X4.here hx rfl (hb hby d3_22) rfl k) ?_
  show own_Go p e below G (T4.setTop (mkF m 23 #[rv r, iv num, own_dv (FP.l2d v), .second, iv 1, .unset, .unset] [(.int (1 : Int32)), (.ref r), (.int (0 : Int32))]))
  obtain ⟨T5, h5, X5, e5, W5, st5⟩ := putF X4 hx hZ hown (host := "") (Or.inl (hw _ (List.mem_of_getElem? (i := 22) rfl))) Via.refl e4 F_size_r E_r (Or.inl (hw _ (List.mem_of_getElem? (i := 23) rfl))) (hw _ (List.mem_of_getElem? (i := 2) rfl)) (ty := .int) (by decide) rfl rfl (g := (mkF m 23 #[rv r, iv num, own_dv (FP.l2d v), .second, iv 1, .unset, .unset] [(.int (1 : Int32)), (.ref r), (.int (0 : Int32))])) rfl rfl (hb hby d3_23)
  replace E_r := E_r.wr W5
  replace F_numbers_r := F_numbers_r.other W5 (Or.inr (slot_ne (Or.inr (hw _ (List.mem_of_getElem? (i := 11) rfl))) (Or.inl (hw _ (List.mem_of_getElem? (i := 23) rfl))) (by decide) (t := (.array .int)) (t' := .int) (by decide) (by decide)))
  replace F_cosines_r := F_cosines_r.other W5 (Or.inr (slot_ne (Or.inr (hw _ (List.mem_of_getElem? (i := 14) rfl))) (Or.inl (hw _ (List.mem_of_getElem? (i := 23) rfl))) (by decide) (t := (.array .double)) (t' := .int) (by decide) (by decide)))
  replace F_places_r := F_places_r.other W5 (Or.inr (slot_ne (Or.inr (hw _ (List.mem_of_getElem? (i := 16) rfl))) (Or.inl (hw _ (List.mem_of_getElem? (i := 23) rfl))) (by decide) (t := (.array .int)) (t' := .int) (by decide) (by decide)))
  replace F_size_r := F_size_r.same W5
  replace V_bn := V_bn.other W5 (Ne.symm nrn)
  replace V_bc := V_bc.other W5 (Ne.symm nrc)
  replace Pl := own_PlW Pl W5 (List.mem_of_getElem? (i := 0) rfl)
  replace Z0 := Nat.le_trans Z0 (Keep.of_wr W5).1
  replace N0 := Fr.snoc X5 N0 g_r
  refine own_st st5 ?_
  show own_Go p e below G (T5.setTop (mkF m 26 #[rv r, iv num, own_dv (FP.l2d v), .second, iv 1, .unset, .unset] [(.int (0 : Int32))]))
  refine own_st (fun t k => XS.istore X5.here hx rfl (hb hby d3_26) rfl (l' := #[rv r, iv num, own_dv (FP.l2d v), .second, iv 1, iv 0, .unset]) rfl k) ?_
  refine own_st (fun t k => XS.iload X5.here hx rfl (hb hby d3_28) rfl  k) ?_
  show own_Go p e below G (T5.setTop (mkF m 30 #[rv r, iv num, own_dv (FP.l2d v), .second, iv 1, iv 0, .unset] [(.int (0 : Int32))]))
  refine own_st (fun t k => XS.ifYes X5.here hx rfl (pc0 := 30) (pc' := 102) rfl (hb hby d3_30) rfl ((if0 _ _).trans (flt (by decide)).2.2.2) (by decide) (by decide) k) ?_
  show own_Go p e below G (T5.setTop (mkF m 102 #[rv r, iv num, own_dv (FP.l2d v), .second, iv 1, iv 0, .unset] []))
  refine own_st (fun t k => XS.aloadN X5.here hx rfl (hb hby d3_102) rfl rfl  k) ?_
  show own_Go p e below G (T5.setTop (mkF m 103 #[rv r, iv num, own_dv (FP.l2d v), .second, iv 1, iv 0, .unset] [(.ref r)]))
  obtain ⟨T6, X6, e6, st6⟩ := getF X5 hx hZ hown (host := "") (Or.inl (hw _ (List.mem_of_getElem? (i := 10) rfl))) Via.refl e5 F_numbers_r (g := (mkF m 103 #[rv r, iv num, own_dv (FP.l2d v), .second, iv 1, iv 0, .unset] [(.ref r)])) rfl rfl (hb hby d3_103)
  refine own_st st6 ?_
  show own_Go p e below G (T6.setTop (mkF m 106 #[rv r, iv num, own_dv (FP.l2d v), .second, iv 1, iv 0, .unset] [(.ref bn)]))
  refine own_st (fun t k => XS.iload X6.here hx rfl (hb hby d3_106) rfl  k) ?_
  refine own_st (fun t k => XS.iloadN X6.here hx rfl (hb hby d3_108) rfl  k) ?_
  show own_Go p e below G (T6.setTop (mkF m 109 #[rv r, iv num, own_dv (FP.l2d v), .second, iv 1, iv 0, .unset] [(.int num), (.int (0 : Int32)), (.ref bn)]))
  obtain ⟨cl7, Ar7, qa7, Sa7, Na7, Ha7, Ga7⟩ := V_bn
  have hin7 : ¬ ((0 : Int32) < 0 ∨ cl7.slots.size ≤ ((0 : Int32)).toNatClampNeg) := inb_of Sa7 ⟨by decide, by decide⟩
  obtain ⟨T7, h7, X7, e7, W7, st7⟩ := stI X6 hx hZ e6 Ar7 (j := (0 : Int32)) hin7 (g := (mkF m 109 #[rv r, iv num, own_dv (FP.l2d v), .second, iv 1, iv 0, .unset] [(.int num), (.int (0 : Int32)), (.ref bn)])) rfl rfl (hb hby d3_109)
  have V_bn : Arv Z h7 bn kn .int (3 : Int32) [(.int num), (.int (0 : Int32)), (.int (0 : Int32))] (.int (0 : Int32)) := Arv.set Ar7 qa7 Sa7 Na7 Ha7 Ga7 rfl W7 0 rfl (Nat.le_of_ble_eq_true rfl)
  replace E_r := E_r.wr W7
  replace F_numbers_r := F_numbers_r.other W7 (Or.inl nrn)
  replace F_cosines_r := F_cosines_r.other W7 (Or.inl nrn)
  replace F_places_r := F_places_r.other W7 (Or.inl nrn)
  replace F_size_r := F_size_r.other W7 (Or.inl nrn)
  replace V_bc := V_bc.other W7 (Ne.symm nnc)
  replace Pl := own_PlW Pl W7 (List.mem_of_getElem? (i := 1) rfl)
  replace Z0 := Nat.le_trans Z0 (Keep.of_wr W7).1
  replace N0 := Fr.snoc X7 N0 g_bn
  refine own_st st7 ?_
  show own_Go p e below G (T7.setTop (mkF m 110 #[rv r, iv num, own_dv (FP.l2d v), .second, iv 1, iv 0, .unset] []))
  refine own_st (fun t k => XS.aloadN X7.here hx rfl (hb hby d3_110) rfl rfl  k) ?_
  show own_Go p e below G (T7.setTop (mkF m 111 #[rv r, iv num, own_dv (FP.l2d v), .second, iv 1, iv 0, .unset] [(.ref r)]))
  obtain ⟨T8, X8, e8, st8⟩ := getF X7 hx hZ hown (host := "") (Or.inl (hw _ (List.mem_of_getElem? (i := 13) rfl))) Via.refl e7 F_cosines_r (g := (mkF m 111 #[rv r, iv num, own_dv (FP.l2d v), .second, iv 1, iv 0, .unset] [(.ref r)])) rfl rfl (hb hby d3_111)
  refine own_st st8 ?_
  show own_Go p e below G (T8.setTop (mkF m 114 #[rv r, iv num, own_dv (FP.l2d v), .second, iv 1, iv 0, .unset] [(.ref bc)]))
  refine own_st (fun t k => XS.iload X8.here hx rfl (hb hby d3_114) rfl  k) ?_
  refine own_st (fun t k => XS.dloadN X8.here hx rfl (hb hby d3_116) rfl  k) ?_
  show own_Go p e below G (T8.setTop (mkF m 117 #[rv r, iv num, own_dv (FP.l2d v), .second, iv 1, iv 0, .unset] [(.double (FP.l2d v)), (.int (0 : Int32)), (.ref bc)]))
  obtain ⟨cl9, Ar9, qa9, Sa9, Na9, Ha9, Ga9⟩ := V_bc
  have hin9 : ¬ ((0 : Int32) < 0 ∨ cl9.slots.size ≤ ((0 : Int32)).toNatClampNeg) := inb_of Sa9 ⟨by decide, by decide⟩
  obtain ⟨T9, h9, X9, e9, W9, st9⟩ := stD X8 hx hZ e8 Ar9 (j := (0 : Int32)) hin9 (g := (mkF m 117 #[rv r, iv num, own_dv (FP.l2d v), .second, iv 1, iv 0, .unset] [(.double (FP.l2d v)), (.int (0 : Int32)), (.ref bc)])) rfl rfl (hb hby d3_117)
  have V_bc : Arv Z h9 bc kc .double (3 : Int32) [(.double (FP.l2d v)), (.double (0 : UInt64)), (.double (0 : UInt64))] (.double (0 : UInt64)) := Arv.set Ar9 qa9 Sa9 Na9 Ha9 Ga9 rfl W9 0 rfl (Nat.le_of_ble_eq_true rfl)
  replace E_r := E_r.wr W9
  replace F_numbers_r := F_numbers_r.other W9 (Or.inl nrc)
  replace F_cosines_r := F_cosines_r.other W9 (Or.inl nrc)
  replace F_places_r := F_places_r.other W9 (Or.inl nrc)
  replace F_size_r := F_size_r.other W9 (Or.inl nrc)
  replace V_bn := V_bn.other W9 nnc
  replace Pl := own_PlW Pl W9 (List.mem_of_getElem? (i := 2) rfl)
  replace Z0 := Nat.le_trans Z0 (Keep.of_wr W9).1
  replace N0 := Fr.snoc X9 N0 g_bc
  refine own_st st9 ?_
  show own_Go p e below G (T9.setTop (mkF m 118 #[rv r, iv num, own_dv (FP.l2d v), .second, iv 1, iv 0, .unset] []))
  refine own_st (fun t k => XS.goto X9.here hx rfl (pc0 := 118) (pc' := 165) rfl (hb hby d3_118) (by decide) (by decide) k) ?_
  refine own_st (fun t k => XS.iload X9.here hx rfl (hb hby d3_165) rfl  k) ?_
  show own_Go p e below G (T9.setTop (mkF m 167 #[rv r, iv num, own_dv (FP.l2d v), .second, iv 1, iv 0, .unset] [(.int (1 : Int32))]))
  rw [hG]
  exact own_retZ X9 hx hlk (t := .boolean) hret (by simp) (hb hby d3_167) (by rw [e9]; exact ⟨⟨_, rfl⟩, N0, num, v, ⟨E_r, F_numbers_r, F_cosines_r, F_places_r, F_size_r, V_bn, V_bc, Pl, nrn, nrc, nnc, g_r, g_bn, g_bc, Z0⟩, hnum, hv, rfl⟩) (by decide) (by decide)
theorem pn_rmO31 : plainFor (⟨"com/example/thinleaf/thinleaf/prune/Nearest", "offer", "(ID)Z"⟩ : MethodName) = true := by decide +kernel
theorem ef_rmO31 (m : MethodId) (x0 : Addr) (x1 : Int32) (x2 : UInt64) : entryFrame m #[(.ref x0), (.int x1), (.double x2)] 7 = mkF m 0 #[rv x0, iv x1, own_dv x2, .second, .unset, .unset, .unset] [] := by first | (simp [entryFrame, mkF, argsToLocals, Value.category]; done) | rfl
set_option maxRecDepth 65536 in
set_option maxHeartbeats 40000000 in
theorem rmO31 (l : Launch) (Z : State) (a0 : Array Value) (hw : ∀ d ∈ tables_1, d.before a0 Z = true) (r bn bc : Addr) (kn kc : ClassId) (pv : Value) (num : Int32) (v : Int64)(m0 : Int32) (c0 : Int64) (h0 : Heap) (n0 : Nat) (NB : own_NE Z h0 n0 r bn bc kn kc pv (3 : Int32) (1 : Int32) [(.int m0), (.int (0 : Int32)), (.int (0 : Int32))] [(.double (FP.l2d c0)), (.double (0 : UInt64)), (.double (0 : UInt64))]) (hm0 : own_d m0) (hc0 : own_b c0) (hnum : own_d num) (hv : own_b v) :
    own_Met l Z (⟨"com/example/thinleaf/thinleaf/prune/Nearest", "offer", "(ID)Z"⟩ : MethodName) prog_219_method_8_code 7 (some .boolean) [] ({ frames := 2, cells := 0, slots := 0, locals := 36 } : Room) #[(.ref r), (.int num), (.double (FP.l2d v))] h0 (fun z h L => (∃ q : Int32, z = some (.int q)) ∧ Fr n0 L ∧ ∃ (p0 p1 : Int32) (d0 d1 : Int64), own_NE Z h n0 r bn bc kn kc pv (3 : Int32) (2 : Int32) [(.int p0), (.int p1), (.int (0 : Int32))] [(.double (FP.l2d d0)), (.double (FP.l2d d1)), (.double (0 : UInt64))] ∧ own_d p0 ∧ own_b d0 ∧ own_d p1 ∧ own_b d1 ∧ own_R31 c0 v d0 d1) := by
  refine own_body pn_rmO31 ?_
  intro p e s m below meth c s₁ hx hby hml hown hnm hret hlk hZ X0 e0 G hG
  replace hml : c.maxLocals = 7 := hml
  replace hown : s.vm.findClass "com/example/thinleaf/thinleaf/prune/Nearest" = some m.cls := hown
  rw [ef_rmO31]
  obtain ⟨E_r, F_numbers_r, F_cosines_r, F_places_r, F_size_r, V_bn, V_bc, Pl, nrn, nrc, nnc, g_r, g_bn, g_bc, Z0⟩ := NB
  have N0 := Fr.nil n0
  show own_Go p e below G (s₁.setTop (mkF m 0 #[rv r, iv num, own_dv (FP.l2d v), .second, .unset, .unset, .unset] []))
  refine own_st (fun t k => XS.iconst X0.here hx rfl (hb hby d3_0) k) ?_
  refine own_st (fun t k => XS.istore X0.here hx rfl (hb hby d3_1) rfl (l' := #[rv r, iv num, own_dv (FP.l2d v), .second, iv 1, .unset, .unset]) rfl k) ?_
  refine own_st (fun t k => XS.aloadN X0.here hx rfl (hb hby d3_3) rfl rfl  k) ?_
  show own_Go p e below G (s₁.setTop (mkF m 4 #[rv r, iv num, own_dv (FP.l2d v), .second, iv 1, .unset, .unset] [(.ref r)]))
  obtain ⟨T1, X1, e1, st1⟩ := getF X0 hx hZ hown (host := "") (Or.inl (hw _ (List.mem_of_getElem? (i := 22) rfl))) Via.refl e0 F_size_r (g := (mkF m 4 #[rv r, iv num, own_dv (FP.l2d v), .second, iv 1, .unset, .unset] [(.ref r)])) rfl rfl (hb hby d3_4)
  refine own_st st1 ?_
  show own_Go p e below G (T1.setTop (mkF m 7 #[rv r, iv num, own_dv (FP.l2d v), .second, iv 1, .unset, .unset] [(.int (1 : Int32))]))
  refine own_st (fun t k => XS.aloadN X1.here hx rfl (hb hby d3_7) rfl rfl  k) ?_
  show own_Go p e below G (T1.setTop (mkF m 8 #[rv r, iv num, own_dv (FP.l2d v), .second, iv 1, .unset, .unset] [(.ref r), (.int (1 : Int32))]))
  obtain ⟨T2, X2, e2, st2⟩ := getF X1 hx hZ hown (host := "") (Or.inl (hw _ (List.mem_of_getElem? (i := 10) rfl))) Via.refl e1 F_numbers_r (g := (mkF m 8 #[rv r, iv num, own_dv (FP.l2d v), .second, iv 1, .unset, .unset] [(.ref r), (.int (1 : Int32))])) rfl rfl (hb hby d3_8)
  refine own_st st2 ?_
  show own_Go p e below G (T2.setTop (mkF m 11 #[rv r, iv num, own_dv (FP.l2d v), .second, iv 1, .unset, .unset] [(.ref bn), (.int (1 : Int32))]))
  have Vc3 := V_bn
  obtain ⟨cl3, Ar3, -, Sa3, Na3, -, -⟩ := Vc3
  refine own_st (fun t k => X2.arraylength hx (by rw [e2]; exact Ar3.1) (State.isArrayOf_alike hZ.alike Ar3.2.1) (g := (mkF m 11 #[rv r, iv num, own_dv (FP.l2d v), .second, iv 1, .unset, .unset] [(.ref bn), (.int (1 : Int32))])) rfl rfl (hb hby d3_11) t k) ?_
  rw [len_of Sa3 Na3]
  show own_Go p e below G (T2.setTop (mkF m 12 #[rv r, iv num, own_dv (FP.l2d v), .second, iv 1, .unset, .unset] [(.int (3 : Int32)), (.int (1 : Int32))]))
  refine own_st (fun t k => XS.icmpNo X2.here hx rfl (hb hby d3_12) rfl (tlt (by decide)).2.1 k) ?_
  show own_Go p e below G (T2.setTop (mkF m 15 #[rv r, iv num, own_dv (FP.l2d v), .second, iv 1, .unset, .unset] []))
  refine own_st (fun t k => XS.aloadN X2.here hx rfl (hb hby d3_15) rfl rfl  k) ?_
  refine own_st (fun t k => XS.dup X2.here hx rfl (hb hby d3_16) rfl rfl k) ?_
  show own_Go p e below G (T2.setTop (mkF m 17 #[rv r, iv num, own_dv (FP.l2d v), .second, iv 1, .unset, .unset] [(.ref r), (.ref r)]))
  obtain ⟨T4, X4, e4, st4⟩ := getF X2 hx hZ hown (host := "") (Or.inl (hw _ (List.mem_of_getElem? (i := 22) rfl))) Via.refl e2 F_size_r (g := (mkF m 17 #[rv r, iv num, own_dv (FP.l2d v), .second, iv 1, .unset, .unset] [(.ref r), (.ref r)])) rfl rfl (hb hby d3_17)
  refine own_st st4 ?_
  show own_Go p e below G (T4.setTop (mkF m 20 #[rv r, iv num, own_dv (FP.l2d v), .second, iv 1, .unset, .unset] [(.int (1 : Int32)), (.ref r)]))
  refine own_st (fun t k => XS.dupX1 X4.here hx rfl (hb hby d3_20) rfl rfl rfl k) ?_
  show own_Go p e below G (T4.setTop (mkF m 21 #[rv r, iv num, own_dv (FP.l2d v), .second, iv 1, .unset, .unset] [(.int (1 : Int32)), (.ref r), (.int (1 : Int32))]))
  refine own_st (fun t k => XS.iconst X4.here hx rfl (hb hby d3_21) k) ?_
  refine own_st (fun t k => XS.iadd X4.here hx rfl (hb hby d3_22) rfl k) ?_
  show own_Go p e below G (T4.setTop (mkF m 23 #[rv r, iv num, own_dv (FP.l2d v), .second, iv 1, .unset, .unset] [(.int (2 : Int32)), (.ref r), (.int (1 : Int32))]))
  obtain ⟨T5, h5, X5, e5, W5, st5⟩ := putF X4 hx hZ hown (host := "") (Or.inl (hw _ (List.mem_of_getElem? (i := 22) rfl))) Via.refl e4 F_size_r E_r (Or.inl (hw _ (List.mem_of_getElem? (i := 23) rfl))) (hw _ (List.mem_of_getElem? (i := 2) rfl)) (ty := .int) (by decide) rfl rfl (g := (mkF m 23 #[rv r, iv num, own_dv (FP.l2d v), .second, iv 1, .unset, .unset] [(.int (2 : Int32)), (.ref r), (.int (1 : Int32))])) rfl rfl (hb hby d3_23)
  replace E_r := E_r.wr W5
  replace F_numbers_r := F_numbers_r.other W5 (Or.inr (slot_ne (Or.inr (hw _ (List.mem_of_getElem? (i := 11) rfl))) (Or.inl (hw _ (List.mem_of_getElem? (i := 23) rfl))) (by decide) (t := (.array .int)) (t' := .int) (by decide) (by decide)))
  replace F_cosines_r := F_cosines_r.other W5 (Or.inr (slot_ne (Or.inr (hw _ (List.mem_of_getElem? (i := 14) rfl))) (Or.inl (hw _ (List.mem_of_getElem? (i := 23) rfl))) (by decide) (t := (.array .double)) (t' := .int) (by decide) (by decide)))
  replace F_places_r := F_places_r.other W5 (Or.inr (slot_ne (Or.inr (hw _ (List.mem_of_getElem? (i := 16) rfl))) (Or.inl (hw _ (List.mem_of_getElem? (i := 23) rfl))) (by decide) (t := (.array .int)) (t' := .int) (by decide) (by decide)))
  replace F_size_r := F_size_r.same W5
  replace V_bn := V_bn.other W5 (Ne.symm nrn)
  replace V_bc := V_bc.other W5 (Ne.symm nrc)
  replace Pl := own_PlW Pl W5 (List.mem_of_getElem? (i := 0) rfl)
  replace Z0 := Nat.le_trans Z0 (Keep.of_wr W5).1
  replace N0 := Fr.snoc X5 N0 g_r
  refine own_st st5 ?_
  show own_Go p e below G (T5.setTop (mkF m 26 #[rv r, iv num, own_dv (FP.l2d v), .second, iv 1, .unset, .unset] [(.int (1 : Int32))]))
  refine own_st (fun t k => XS.istore X5.here hx rfl (hb hby d3_26) rfl (l' := #[rv r, iv num, own_dv (FP.l2d v), .second, iv 1, iv 1, .unset]) rfl k) ?_
  refine own_st (fun t k => XS.iload X5.here hx rfl (hb hby d3_28) rfl  k) ?_
  show own_Go p e below G (T5.setTop (mkF m 30 #[rv r, iv num, own_dv (FP.l2d v), .second, iv 1, iv 1, .unset] [(.int (1 : Int32))]))
  refine own_st (fun t k => XS.ifNo X5.here hx rfl (hb hby d3_30) rfl ((if0 _ _).trans (tlt (by decide)).2.2.2) k) ?_
  show own_Go p e below G (T5.setTop (mkF m 33 #[rv r, iv num, own_dv (FP.l2d v), .second, iv 1, iv 1, .unset] []))
  refine own_st (fun t k => XS.iload X5.here hx rfl (hb hby d3_33) rfl  k) ?_
  refine own_st (fun t k => XS.iconst X5.here hx rfl (hb hby d3_35) k) ?_
  refine own_st (fun t k => XS.isub X5.here hx rfl (hb hby d3_36) rfl k) ?_
  show own_Go p e below G (T5.setTop (mkF m 37 #[rv r, iv num, own_dv (FP.l2d v), .second, iv 1, iv 1, .unset] [(.int (0 : Int32))]))
  refine own_st (fun t k => XS.iconst X5.here hx rfl (hb hby d3_37) k) ?_
  show own_Go p e below G (T5.setTop (mkF m 38 #[rv r, iv num, own_dv (FP.l2d v), .second, iv 1, iv 1, .unset] [(.int (2 : Int32)), (.int (0 : Int32))]))
  refine own_st (fun t k => XS.idiv X5.here hx rfl (hb hby d3_38) rfl (by decide) k) ?_
  show own_Go p e below G (T5.setTop (mkF m 39 #[rv r, iv num, own_dv (FP.l2d v), .second, iv 1, iv 1, .unset] [(.int (0 : Int32))]))
  refine own_st (fun t k => XS.istore X5.here hx rfl (hb hby d3_39) rfl (l' := #[rv r, iv num, own_dv (FP.l2d v), .second, iv 1, iv 1, iv 0]) rfl k) ?_
  refine own_st (fun t k => XS.aloadN X5.here hx rfl (hb hby d3_41) rfl rfl  k) ?_
  refine own_st (fun t k => XS.iloadN X5.here hx rfl (hb hby d3_42) rfl  k) ?_
  show own_Go p e below G (T5.setTop (mkF m 43 #[rv r, iv num, own_dv (FP.l2d v), .second, iv 1, iv 1, iv 0] [(.int num), (.ref r)]))
  refine own_st (fun t k => XS.dloadN X5.here hx rfl (hb hby d3_43) rfl  k) ?_
  refine own_st (fun t k => XS.aloadN X5.here hx rfl (hb hby d3_44) rfl rfl  k) ?_
  show own_Go p e below G (T5.setTop (mkF m 45 #[rv r, iv num, own_dv (FP.l2d v), .second, iv 1, iv 1, iv 0] [(.ref r), (.double (FP.l2d v)), (.int num), (.ref r)]))
  obtain ⟨T6, X6, e6, st6⟩ := getF X5 hx hZ hown (host := "") (Or.inl (hw _ (List.mem_of_getElem? (i := 10) rfl))) Via.refl e5 F_numbers_r (g := (mkF m 45 #[rv r, iv num, own_dv (FP.l2d v), .second, iv 1, iv 1, iv 0] [(.ref r), (.double (FP.l2d v)), (.int num), (.ref r)])) rfl rfl (hb hby d3_45)
  refine own_st st6 ?_
  show own_Go p e below G (T6.setTop (mkF m 48 #[rv r, iv num, own_dv (FP.l2d v), .second, iv 1, iv 1, iv 0] [(.ref bn), (.double (FP.l2d v)), (.int num), (.ref r)]))
  refine own_st (fun t k => XS.iload X6.here hx rfl (hb hby d3_48) rfl  k) ?_
  show own_Go p e below G (T6.setTop (mkF m 50 #[rv r, iv num, own_dv (FP.l2d v), .second, iv 1, iv 1, iv 0] [(.int (0 : Int32)), (.ref bn), (.double (FP.l2d v)), (.int num), (.ref r)]))
  have Vc7 := V_bn
  obtain ⟨cl7, Ar7, -, Sa7, -, Ha7, -⟩ := Vc7
  have hin7 : ¬ ((0 : Int32) < 0 ∨ cl7.slots.size ≤ ((0 : Int32)).toNatClampNeg) := inb_of Sa7 ⟨by decide, by decide⟩
  refine own_st (fun t k => X6.iaload hx (j := (0 : Int32)) (v := (.int m0)) (by rw [e6]; exact Ar7.1) (State.isArrayOf_alike hZ.alike Ar7.2.1) Ar7.2.2 hin7 (Ha7.at hin7 rfl) (g := (mkF m 50 #[rv r, iv num, own_dv (FP.l2d v), .second, iv 1, iv 1, iv 0] [(.int (0 : Int32)), (.ref bn), (.double (FP.l2d v)), (.int num), (.ref r)])) rfl rfl (hb hby d3_50) t k) ?_
  show own_Go p e below G (T6.setTop (mkF m 51 #[rv r, iv num, own_dv (FP.l2d v), .second, iv 1, iv 1, iv 0] [(.int m0), (.double (FP.l2d v)), (.int num), (.ref r)]))
  refine own_st (fun t k => XS.aloadN X6.here hx rfl (hb hby d3_51) rfl rfl  k) ?_
  show own_Go p e below G (T6.setTop (mkF m 52 #[rv r, iv num, own_dv (FP.l2d v), .second, iv 1, iv 1, iv 0] [(.ref r), (.int m0), (.double (FP.l2d v)), (.int num), (.ref r)]))
  obtain ⟨T8, X8, e8, st8⟩ := getF X6 hx hZ hown (host := "") (Or.inl (hw _ (List.mem_of_getElem? (i := 13) rfl))) Via.refl e6 F_cosines_r (g := (mkF m 52 #[rv r, iv num, own_dv (FP.l2d v), .second, iv 1, iv 1, iv 0] [(.ref r), (.int m0), (.double (FP.l2d v)), (.int num), (.ref r)])) rfl rfl (hb hby d3_52)
  refine own_st st8 ?_
  show own_Go p e below G (T8.setTop (mkF m 55 #[rv r, iv num, own_dv (FP.l2d v), .second, iv 1, iv 1, iv 0] [(.ref bc), (.int m0), (.double (FP.l2d v)), (.int num), (.ref r)]))
  refine own_st (fun t k => XS.iload X8.here hx rfl (hb hby d3_55) rfl  k) ?_
  show own_Go p e below G (T8.setTop (mkF m 57 #[rv r, iv num, own_dv (FP.l2d v), .second, iv 1, iv 1, iv 0] [(.int (0 : Int32)), (.ref bc), (.int m0), (.double (FP.l2d v)), (.int num), (.ref r)]))
  have Vc9 := V_bc
  obtain ⟨cl9, Ar9, -, Sa9, -, Ha9, -⟩ := Vc9
  have hin9 : ¬ ((0 : Int32) < 0 ∨ cl9.slots.size ≤ ((0 : Int32)).toNatClampNeg) := inb_of Sa9 ⟨by decide, by decide⟩
  refine own_st (fun t k => X8.daload hx (j := (0 : Int32)) (v := (.double (FP.l2d c0))) (by rw [e8]; exact Ar9.1) (State.isArrayOf_alike hZ.alike Ar9.2.1) Ar9.2.2 hin9 (Ha9.at hin9 rfl) (g := (mkF m 57 #[rv r, iv num, own_dv (FP.l2d v), .second, iv 1, iv 1, iv 0] [(.int (0 : Int32)), (.ref bc), (.int m0), (.double (FP.l2d v)), (.int num), (.ref r)])) rfl rfl (hb hby d3_57) t k) ?_
  show own_Go p e below G (T8.setTop (mkF m 58 #[rv r, iv num, own_dv (FP.l2d v), .second, iv 1, iv 1, iv 0] [(.double (FP.l2d c0)), (.int m0), (.double (FP.l2d v)), (.int num), (.ref r)]))
  obtain ⟨v10, T10, L10, X10, Q10, st10⟩ := own_callP X8 hx hZ (y := (⟨"com/example/thinleaf/thinleaf/prune/Nearest", "below", "(IDID)Z"⟩ : MethodName)) hown (hw _ (List.mem_of_getElem? (i := 31) rfl)) (hw _ (List.mem_of_getElem? (i := 32) rfl)) (hw _ (List.mem_of_getElem? (i := 33) rfl)) (hw _ (List.mem_of_getElem? (i := 2) rfl)) (hw _ (List.mem_of_getElem? (i := 3) rfl)) (hw _ (List.mem_of_getElem? (i := 34) rfl)) (by decide) (W := 0) (rmB l Z a0 hw r num v m0 c0 pv _ h5 F_places_r Pl hv hc0 hnum hm0) (by decide) (by decide) e8 E_r (g := (mkF m 58 #[rv r, iv num, own_dv (FP.l2d v), .second, iv 1, iv 1, iv 0] [(.double (FP.l2d c0)), (.int m0), (.double (FP.l2d v)), (.int num), (.ref r)])) rfl (by rw [hml]; rfl) (argsL := [(.int num), (.double (FP.l2d v)), (.int m0), (.double (FP.l2d c0))]) (rest := []) own_pd0 rfl rfl (by show 2 * 0 + _ ≤ _; exact Nat.le_of_eq rfl) (hb hby d3_58) rfl (by decide) (by decide)
  obtain ⟨⟨q10, rfl, hq10, ht10, hf10⟩, rfl, e10⟩ := Q10
  simp only [List.append_nil, Nat.add_zero] at X10
  refine own_st st10 ?_
  show own_Go p e below G (T10.setTop (mkF m 61 #[rv r, iv num, own_dv (FP.l2d v), .second, iv 1, iv 1, iv 0] [(.int q10)]))
  by_cases c61_11 : q10 = (0 : Int32)
  · skip
    refine own_st (fun t k => XS.ifNo X10.here hx rfl (hb hby d3_61) rfl ((if0 _ _).trans (teq c61_11).2) k) ?_
    show own_Go p e below G (T10.setTop (mkF m 64 #[rv r, iv num, own_dv (FP.l2d v), .second, iv 1, iv 1, iv 0] []))
    refine own_st (fun t k => XS.goto X10.here hx rfl (pc0 := 64) (pc' := 102) rfl (hb hby d3_64) (by decide) (by decide) k) ?_
    refine own_st (fun t k => XS.aloadN X10.here hx rfl (hb hby d3_102) rfl rfl  k) ?_
    show own_Go p e below G (T10.setTop (mkF m 103 #[rv r, iv num, own_dv (FP.l2d v), .second, iv 1, iv 1, iv 0] [(.ref r)]))
    obtain ⟨T12, X12, e12, st12⟩ := getF X10 hx hZ hown (host := "") (Or.inl (hw _ (List.mem_of_getElem? (i := 10) rfl))) Via.refl e10 F_numbers_r (g := (mkF m 103 #[rv r, iv num, own_dv (FP.l2d v), .second, iv 1, iv 1, iv 0] [(.ref r)])) rfl rfl (hb hby d3_103)
    refine own_st st12 ?_
    show own_Go p e below G (T12.setTop (mkF m 106 #[rv r, iv num, own_dv (FP.l2d v), .second, iv 1, iv 1, iv 0] [(.ref bn)]))
    refine own_st (fun t k => XS.iload X12.here hx rfl (hb hby d3_106) rfl  k) ?_
    refine own_st (fun t k => XS.iloadN X12.here hx rfl (hb hby d3_108) rfl  k) ?_
    show own_Go p e below G (T12.setTop (mkF m 109 #[rv r, iv num, own_dv (FP.l2d v), .second, iv 1, iv 1, iv 0] [(.int num), (.int (1 : Int32)), (.ref bn)]))
    obtain ⟨cl13, Ar13, qa13, Sa13, Na13, Ha13, Ga13⟩ := V_bn
    have hin13 : ¬ ((1 : Int32) < 0 ∨ cl13.slots.size ≤ ((1 : Int32)).toNatClampNeg) := inb_of Sa13 ⟨by decide, by decide⟩
    obtain ⟨T13, h13, X13, e13, W13, st13⟩ := stI X12 hx hZ e12 Ar13 (j := (1 : Int32)) hin13 (g := (mkF m 109 #[rv r, iv num, own_dv (FP.l2d v), .second, iv 1, iv 1, iv 0] [(.int num), (.int (1 : Int32)), (.ref bn)])) rfl rfl (hb hby d3_109)
    have V_bn : Arv Z h13 bn kn .int (3 : Int32) [(.int m0), (.int num), (.int (0 : Int32))] (.int (0 : Int32)) := Arv.set Ar13 qa13 Sa13 Na13 Ha13 Ga13 rfl W13 1 rfl (Nat.le_of_ble_eq_true rfl)
    replace E_r := E_r.wr W13
    replace F_numbers_r := F_numbers_r.other W13 (Or.inl nrn)
    replace F_cosines_r := F_cosines_r.other W13 (Or.inl nrn)
    replace F_places_r := F_places_r.other W13 (Or.inl nrn)
    replace F_size_r := F_size_r.other W13 (Or.inl nrn)
    replace V_bc := V_bc.other W13 (Ne.symm nnc)
    replace Pl := own_PlW Pl W13 (List.mem_of_getElem? (i := 1) rfl)
    replace Z0 := Nat.le_trans Z0 (Keep.of_wr W13).1
    replace N0 := Fr.snoc X13 N0 g_bn
    refine own_st st13 ?_
    show own_Go p e below G (T13.setTop (mkF m 110 #[rv r, iv num, own_dv (FP.l2d v), .second, iv 1, iv 1, iv 0] []))
    refine own_st (fun t k => XS.aloadN X13.here hx rfl (hb hby d3_110) rfl rfl  k) ?_
    show own_Go p e below G (T13.setTop (mkF m 111 #[rv r, iv num, own_dv (FP.l2d v), .second, iv 1, iv 1, iv 0] [(.ref r)]))
    obtain ⟨T14, X14, e14, st14⟩ := getF X13 hx hZ hown (host := "") (Or.inl (hw _ (List.mem_of_getElem? (i := 13) rfl))) Via.refl e13 F_cosines_r (g := (mkF m 111 #[rv r, iv num, own_dv (FP.l2d v), .second, iv 1, iv 1, iv 0] [(.ref r)])) rfl rfl (hb hby d3_111)
    refine own_st st14 ?_
    show own_Go p e below G (T14.setTop (mkF m 114 #[rv r, iv num, own_dv (FP.l2d v), .second, iv 1, iv 1, iv 0] [(.ref bc)]))
    refine own_st (fun t k => XS.iload X14.here hx rfl (hb hby d3_114) rfl  k) ?_
    refine own_st (fun t k => XS.dloadN X14.here hx rfl (hb hby d3_116) rfl  k) ?_
    show own_Go p e below G (T14.setTop (mkF m 117 #[rv r, iv num, own_dv (FP.l2d v), .second, iv 1, iv 1, iv 0] [(.double (FP.l2d v)), (.int (1 : Int32)), (.ref bc)]))
    obtain ⟨cl15, Ar15, qa15, Sa15, Na15, Ha15, Ga15⟩ := V_bc
    have hin15 : ¬ ((1 : Int32) < 0 ∨ cl15.slots.size ≤ ((1 : Int32)).toNatClampNeg) := inb_of Sa15 ⟨by decide, by decide⟩
    obtain ⟨T15, h15, X15, e15, W15, st15⟩ := stD X14 hx hZ e14 Ar15 (j := (1 : Int32)) hin15 (g := (mkF m 117 #[rv r, iv num, own_dv (FP.l2d v), .second, iv 1, iv 1, iv 0] [(.double (FP.l2d v)), (.int (1 : Int32)), (.ref bc)])) rfl rfl (hb hby d3_117)
    have V_bc : Arv Z h15 bc kc .double (3 : Int32) [(.double (FP.l2d c0)), (.double (FP.l2d v)), (.double (0 : UInt64))] (.double (0 : UInt64)) := Arv.set Ar15 qa15 Sa15 Na15 Ha15 Ga15 rfl W15 1 rfl (Nat.le_of_ble_eq_true rfl)
    replace E_r := E_r.wr W15
    replace F_numbers_r := F_numbers_r.other W15 (Or.inl nrc)
    replace F_cosines_r := F_cosines_r.other W15 (Or.inl nrc)
    replace F_places_r := F_places_r.other W15 (Or.inl nrc)
    replace F_size_r := F_size_r.other W15 (Or.inl nrc)
    replace V_bn := V_bn.other W15 nnc
    replace Pl := own_PlW Pl W15 (List.mem_of_getElem? (i := 2) rfl)
    replace Z0 := Nat.le_trans Z0 (Keep.of_wr W15).1
    replace N0 := Fr.snoc X15 N0 g_bc
    refine own_st st15 ?_
    show own_Go p e below G (T15.setTop (mkF m 118 #[rv r, iv num, own_dv (FP.l2d v), .second, iv 1, iv 1, iv 0] []))
    refine own_st (fun t k => XS.goto X15.here hx rfl (pc0 := 118) (pc' := 165) rfl (hb hby d3_118) (by decide) (by decide) k) ?_
    refine own_st (fun t k => XS.iload X15.here hx rfl (hb hby d3_165) rfl  k) ?_
    show own_Go p e below G (T15.setTop (mkF m 167 #[rv r, iv num, own_dv (FP.l2d v), .second, iv 1, iv 1, iv 0] [(.int (1 : Int32))]))
    rw [hG]
    exact own_retZ X15 hx hlk (t := .boolean) hret (by simp) (hb hby d3_167) (by rw [e15]; exact ⟨⟨_, rfl⟩, N0, m0, num, c0, v, ⟨E_r, F_numbers_r, F_cosines_r, F_places_r, F_size_r, V_bn, V_bc, Pl, nrn, nrc, nnc, g_r, g_bn, g_bc, Z0⟩, hm0, hc0, hnum, hv, Or.inr ⟨(hf10 c61_11), rfl, rfl⟩⟩) (by decide) (by decide)
  · skip
    refine own_st (fun t k => XS.ifYes X10.here hx rfl (pc0 := 61) (pc' := 67) rfl (hb hby d3_61) rfl ((if0 _ _).trans (feq c61_11).2) (by decide) (by decide) k) ?_
    show own_Go p e below G (T10.setTop (mkF m 67 #[rv r, iv num, own_dv (FP.l2d v), .second, iv 1, iv 1, iv 0] []))
    refine own_st (fun t k => XS.aloadN X10.here hx rfl (hb hby d3_67) rfl rfl  k) ?_
    show own_Go p e below G (T10.setTop (mkF m 68 #[rv r, iv num, own_dv (FP.l2d v), .second, iv 1, iv 1, iv 0] [(.ref r)]))
    obtain ⟨T16, X16, e16, st16⟩ := getF X10 hx hZ hown (host := "") (Or.inl (hw _ (List.mem_of_getElem? (i := 10) rfl))) Via.refl e10 F_numbers_r (g := (mkF m 68 #[rv r, iv num, own_dv (FP.l2d v), .second, iv 1, iv 1, iv 0] [(.ref r)])) rfl rfl (hb hby d3_68)
    refine own_st st16 ?_
    show own_Go p e below G (T16.setTop (mkF m 71 #[rv r, iv num, own_dv (FP.l2d v), .second, iv 1, iv 1, iv 0] [(.ref bn)]))
    refine own_st (fun t k => XS.iload X16.here hx rfl (hb hby d3_71) rfl  k) ?_
    refine own_st (fun t k => XS.aloadN X16.here hx rfl (hb hby d3_73) rfl rfl  k) ?_
    show own_Go p e below G (T16.setTop (mkF m 74 #[rv r, iv num, own_dv (FP.l2d v), .second, iv 1, iv 1, iv 0] [(.ref r), (.int (1 : Int32)), (.ref bn)]))
    obtain ⟨T17, X17, e17, st17⟩ := getF X16 hx hZ hown (host := "") (Or.inl (hw _ (List.mem_of_getElem? (i := 10) rfl))) Via.refl e16 F_numbers_r (g := (mkF m 74 #[rv r, iv num, own_dv (FP.l2d v), .second, iv 1, iv 1, iv 0] [(.ref r), (.int (1 : Int32)), (.ref bn)])) rfl rfl (hb hby d3_74)
    refine own_st st17 ?_
    show own_Go p e below G (T17.setTop (mkF m 77 #[rv r, iv num, own_dv (FP.l2d v), .second, iv 1, iv 1, iv 0] [(.ref bn), (.int (1 : Int32)), (.ref bn)]))
    refine own_st (fun t k => XS.iload X17.here hx rfl (hb hby d3_77) rfl  k) ?_
    show own_Go p e below G (T17.setTop (mkF m 79 #[rv r, iv num, own_dv (FP.l2d v), .second, iv 1, iv 1, iv 0] [(.int (0 : Int32)), (.ref bn), (.int (1 : Int32)), (.ref bn)]))
    have Vc18 := V_bn
    obtain ⟨cl18, Ar18, -, Sa18, -, Ha18, -⟩ := Vc18
    have hin18 : ¬ ((0 : Int32) < 0 ∨ cl18.slots.size ≤ ((0 : Int32)).toNatClampNeg) := inb_of Sa18 ⟨by decide, by decide⟩
    refine own_st (fun t k => X17.iaload hx (j := (0 : Int32)) (v := (.int m0)) (by rw [e17]; exact Ar18.1) (State.isArrayOf_alike hZ.alike Ar18.2.1) Ar18.2.2 hin18 (Ha18.at hin18 rfl) (g := (mkF m 79 #[rv r, iv num, own_dv (FP.l2d v), .second, iv 1, iv 1, iv 0] [(.int (0 : Int32)), (.ref bn), (.int (1 : Int32)), (.ref bn)])) rfl rfl (hb hby d3_79) t k) ?_
    show own_Go p e below G (T17.setTop (mkF m 80 #[rv r, iv num, own_dv (FP.l2d v), .second, iv 1, iv 1, iv 0] [(.int m0), (.int (1 : Int32)), (.ref bn)]))
    obtain ⟨cl19, Ar19, qa19, Sa19, Na19, Ha19, Ga19⟩ := V_bn
    have hin19 : ¬ ((1 : Int32) < 0 ∨ cl19.slots.size ≤ ((1 : Int32)).toNatClampNeg) := inb_of Sa19 ⟨by decide, by decide⟩
    obtain ⟨T19, h19, X19, e19, W19, st19⟩ := stI X17 hx hZ e17 Ar19 (j := (1 : Int32)) hin19 (g := (mkF m 80 #[rv r, iv num, own_dv (FP.l2d v), .second, iv 1, iv 1, iv 0] [(.int m0), (.int (1 : Int32)), (.ref bn)])) rfl rfl (hb hby d3_80)
    have V_bn : Arv Z h19 bn kn .int (3 : Int32) [(.int m0), (.int m0), (.int (0 : Int32))] (.int (0 : Int32)) := Arv.set Ar19 qa19 Sa19 Na19 Ha19 Ga19 rfl W19 1 rfl (Nat.le_of_ble_eq_true rfl)
    replace E_r := E_r.wr W19
    replace F_numbers_r := F_numbers_r.other W19 (Or.inl nrn)
    replace F_cosines_r := F_cosines_r.other W19 (Or.inl nrn)
    replace F_places_r := F_places_r.other W19 (Or.inl nrn)
    replace F_size_r := F_size_r.other W19 (Or.inl nrn)
    replace V_bc := V_bc.other W19 (Ne.symm nnc)
    replace Pl := own_PlW Pl W19 (List.mem_of_getElem? (i := 1) rfl)
    replace Z0 := Nat.le_trans Z0 (Keep.of_wr W19).1
    replace N0 := Fr.snoc X19 N0 g_bn
    refine own_st st19 ?_
    show own_Go p e below G (T19.setTop (mkF m 81 #[rv r, iv num, own_dv (FP.l2d v), .second, iv 1, iv 1, iv 0] []))
    refine own_st (fun t k => XS.aloadN X19.here hx rfl (hb hby d3_81) rfl rfl  k) ?_
    show own_Go p e below G (T19.setTop (mkF m 82 #[rv r, iv num, own_dv (FP.l2d v), .second, iv 1, iv 1, iv 0] [(.ref r)]))
    obtain ⟨T20, X20, e20, st20⟩ := getF X19 hx hZ hown (host := "") (Or.inl (hw _ (List.mem_of_getElem? (i := 13) rfl))) Via.refl e19 F_cosines_r (g := (mkF m 82 #[rv r, iv num, own_dv (FP.l2d v), .second, iv 1, iv 1, iv 0] [(.ref r)])) rfl rfl (hb hby d3_82)
    refine own_st st20 ?_
    show own_Go p e below G (T20.setTop (mkF m 85 #[rv r, iv num, own_dv (FP.l2d v), .second, iv 1, iv 1, iv 0] [(.ref bc)]))
    refine own_st (fun t k => XS.iload X20.here hx rfl (hb hby d3_85) rfl  k) ?_
    refine own_st (fun t k => XS.aloadN X20.here hx rfl (hb hby d3_87) rfl rfl  k) ?_
    show own_Go p e below G (T20.setTop (mkF m 88 #[rv r, iv num, own_dv (FP.l2d v), .second, iv 1, iv 1, iv 0] [(.ref r), (.int (1 : Int32)), (.ref bc)]))
    obtain ⟨T21, X21, e21, st21⟩ := getF X20 hx hZ hown (host := "") (Or.inl (hw _ (List.mem_of_getElem? (i := 13) rfl))) Via.refl e20 F_cosines_r (g := (mkF m 88 #[rv r, iv num, own_dv (FP.l2d v), .second, iv 1, iv 1, iv 0] [(.ref r), (.int (1 : Int32)), (.ref bc)])) rfl rfl (hb hby d3_88)
    refine own_st st21 ?_
    show own_Go p e below G (T21.setTop (mkF m 91 #[rv r, iv num, own_dv (FP.l2d v), .second, iv 1, iv 1, iv 0] [(.ref bc), (.int (1 : Int32)), (.ref bc)]))
    refine own_st (fun t k => XS.iload X21.here hx rfl (hb hby d3_91) rfl  k) ?_
    show own_Go p e below G (T21.setTop (mkF m 93 #[rv r, iv num, own_dv (FP.l2d v), .second, iv 1, iv 1, iv 0] [(.int (0 : Int32)), (.ref bc), (.int (1 : Int32)), (.ref bc)]))
    have Vc22 := V_bc
    obtain ⟨cl22, Ar22, -, Sa22, -, Ha22, -⟩ := Vc22
    have hin22 : ¬ ((0 : Int32) < 0 ∨ cl22.slots.size ≤ ((0 : Int32)).toNatClampNeg) := inb_of Sa22 ⟨by decide, by decide⟩
    refine own_st (fun t k => X21.daload hx (j := (0 : Int32)) (v := (.double (FP.l2d c0))) (by rw [e21]; exact Ar22.1) (State.isArrayOf_alike hZ.alike Ar22.2.1) Ar22.2.2 hin22 (Ha22.at hin22 rfl) (g := (mkF m 93 #[rv r, iv num, own_dv (FP.l2d v), .second, iv 1, iv 1, iv 0] [(.int (0 : Int32)), (.ref bc), (.int (1 : Int32)), (.ref bc)])) rfl rfl (hb hby d3_93) t k) ?_
    show own_Go p e below G (T21.setTop (mkF m 94 #[rv r, iv num, own_dv (FP.l2d v), .second, iv 1, iv 1, iv 0] [(.double (FP.l2d c0)), (.int (1 : Int32)), (.ref bc)]))
    obtain ⟨cl23, Ar23, qa23, Sa23, Na23, Ha23, Ga23⟩ := V_bc
    have hin23 : ¬ ((1 : Int32) < 0 ∨ cl23.slots.size ≤ ((1 : Int32)).toNatClampNeg) := inb_of Sa23 ⟨by decide, by decide⟩
    obtain ⟨T23, h23, X23, e23, W23, st23⟩ := stD X21 hx hZ e21 Ar23 (j := (1 : Int32)) hin23 (g := (mkF m 94 #[rv r, iv num, own_dv (FP.l2d v), .second, iv 1, iv 1, iv 0] [(.double (FP.l2d c0)), (.int (1 : Int32)), (.ref bc)])) rfl rfl (hb hby d3_94)
    have V_bc : Arv Z h23 bc kc .double (3 : Int32) [(.double (FP.l2d c0)), (.double (FP.l2d c0)), (.double (0 : UInt64))] (.double (0 : UInt64)) := Arv.set Ar23 qa23 Sa23 Na23 Ha23 Ga23 rfl W23 1 rfl (Nat.le_of_ble_eq_true rfl)
    replace E_r := E_r.wr W23
    replace F_numbers_r := F_numbers_r.other W23 (Or.inl nrc)
    replace F_cosines_r := F_cosines_r.other W23 (Or.inl nrc)
    replace F_places_r := F_places_r.other W23 (Or.inl nrc)
    replace F_size_r := F_size_r.other W23 (Or.inl nrc)
    replace V_bn := V_bn.other W23 nnc
    replace Pl := own_PlW Pl W23 (List.mem_of_getElem? (i := 2) rfl)
    replace Z0 := Nat.le_trans Z0 (Keep.of_wr W23).1
    replace N0 := Fr.snoc X23 N0 g_bc
    refine own_st st23 ?_
    show own_Go p e below G (T23.setTop (mkF m 95 #[rv r, iv num, own_dv (FP.l2d v), .second, iv 1, iv 1, iv 0] []))
    refine own_st (fun t k => XS.iload X23.here hx rfl (hb hby d3_95) rfl  k) ?_
    refine own_st (fun t k => XS.istore X23.here hx rfl (hb hby d3_97) rfl (l' := #[rv r, iv num, own_dv (FP.l2d v), .second, iv 1, iv 0, iv 0]) rfl k) ?_
    refine own_st (fun t k => XS.goto X23.here hx rfl (pc0 := 99) (pc' := 28) rfl (hb hby d3_99) (by decide) (by decide) k) ?_
    show own_Go p e below G (T23.setTop (mkF m 28 #[rv r, iv num, own_dv (FP.l2d v), .second, iv 1, iv 0, iv 0] []))
    refine own_st (fun t k => XS.iload X23.here hx rfl (hb hby d3_28) rfl  k) ?_
    show own_Go p e below G (T23.setTop (mkF m 30 #[rv r, iv num, own_dv (FP.l2d v), .second, iv 1, iv 0, iv 0] [(.int (0 : Int32))]))
    refine own_st (fun t k => XS.ifYes X23.here hx rfl (pc0 := 30) (pc' := 102) rfl (hb hby d3_30) rfl ((if0 _ _).trans (flt (by decide)).2.2.2) (by decide) (by decide) k) ?_
    show own_Go p e below G (T23.setTop (mkF m 102 #[rv r, iv num, own_dv (FP.l2d v), .second, iv 1, iv 0, iv 0] []))
    refine own_st (fun t k => XS.aloadN X23.here hx rfl (hb hby d3_102) rfl rfl  k) ?_
    show own_Go p e below G (T23.setTop (mkF m 103 #[rv r, iv num, own_dv (FP.l2d v), .second, iv 1, iv 0, iv 0] [(.ref r)]))
    obtain ⟨T24, X24, e24, st24⟩ := getF X23 hx hZ hown (host := "") (Or.inl (hw _ (List.mem_of_getElem? (i := 10) rfl))) Via.refl e23 F_numbers_r (g := (mkF m 103 #[rv r, iv num, own_dv (FP.l2d v), .second, iv 1, iv 0, iv 0] [(.ref r)])) rfl rfl (hb hby d3_103)
    refine own_st st24 ?_
    show own_Go p e below G (T24.setTop (mkF m 106 #[rv r, iv num, own_dv (FP.l2d v), .second, iv 1, iv 0, iv 0] [(.ref bn)]))
    refine own_st (fun t k => XS.iload X24.here hx rfl (hb hby d3_106) rfl  k) ?_
    refine own_st (fun t k => XS.iloadN X24.here hx rfl (hb hby d3_108) rfl  k) ?_
    show own_Go p e below G (T24.setTop (mkF m 109 #[rv r, iv num, own_dv (FP.l2d v), .second, iv 1, iv 0, iv 0] [(.int num), (.int (0 : Int32)), (.ref bn)]))
    obtain ⟨cl25, Ar25, qa25, Sa25, Na25, Ha25, Ga25⟩ := V_bn
    have hin25 : ¬ ((0 : Int32) < 0 ∨ cl25.slots.size ≤ ((0 : Int32)).toNatClampNeg) := inb_of Sa25 ⟨by decide, by decide⟩
    obtain ⟨T25, h25, X25, e25, W25, st25⟩ := stI X24 hx hZ e24 Ar25 (j := (0 : Int32)) hin25 (g := (mkF m 109 #[rv r, iv num, own_dv (FP.l2d v), .second, iv 1, iv 0, iv 0] [(.int num), (.int (0 : Int32)), (.ref bn)])) rfl rfl (hb hby d3_109)
    have V_bn : Arv Z h25 bn kn .int (3 : Int32) [(.int num), (.int m0), (.int (0 : Int32))] (.int (0 : Int32)) := Arv.set Ar25 qa25 Sa25 Na25 Ha25 Ga25 rfl W25 0 rfl (Nat.le_of_ble_eq_true rfl)
    replace E_r := E_r.wr W25
    replace F_numbers_r := F_numbers_r.other W25 (Or.inl nrn)
    replace F_cosines_r := F_cosines_r.other W25 (Or.inl nrn)
    replace F_places_r := F_places_r.other W25 (Or.inl nrn)
    replace F_size_r := F_size_r.other W25 (Or.inl nrn)
    replace V_bc := V_bc.other W25 (Ne.symm nnc)
    replace Pl := own_PlW Pl W25 (List.mem_of_getElem? (i := 1) rfl)
    replace Z0 := Nat.le_trans Z0 (Keep.of_wr W25).1
    replace N0 := Fr.snoc X25 N0 g_bn
    refine own_st st25 ?_
    show own_Go p e below G (T25.setTop (mkF m 110 #[rv r, iv num, own_dv (FP.l2d v), .second, iv 1, iv 0, iv 0] []))
    refine own_st (fun t k => XS.aloadN X25.here hx rfl (hb hby d3_110) rfl rfl  k) ?_
    show own_Go p e below G (T25.setTop (mkF m 111 #[rv r, iv num, own_dv (FP.l2d v), .second, iv 1, iv 0, iv 0] [(.ref r)]))
    obtain ⟨T26, X26, e26, st26⟩ := getF X25 hx hZ hown (host := "") (Or.inl (hw _ (List.mem_of_getElem? (i := 13) rfl))) Via.refl e25 F_cosines_r (g := (mkF m 111 #[rv r, iv num, own_dv (FP.l2d v), .second, iv 1, iv 0, iv 0] [(.ref r)])) rfl rfl (hb hby d3_111)
    refine own_st st26 ?_
    show own_Go p e below G (T26.setTop (mkF m 114 #[rv r, iv num, own_dv (FP.l2d v), .second, iv 1, iv 0, iv 0] [(.ref bc)]))
    refine own_st (fun t k => XS.iload X26.here hx rfl (hb hby d3_114) rfl  k) ?_
    refine own_st (fun t k => XS.dloadN X26.here hx rfl (hb hby d3_116) rfl  k) ?_
    show own_Go p e below G (T26.setTop (mkF m 117 #[rv r, iv num, own_dv (FP.l2d v), .second, iv 1, iv 0, iv 0] [(.double (FP.l2d v)), (.int (0 : Int32)), (.ref bc)]))
    obtain ⟨cl27, Ar27, qa27, Sa27, Na27, Ha27, Ga27⟩ := V_bc
    have hin27 : ¬ ((0 : Int32) < 0 ∨ cl27.slots.size ≤ ((0 : Int32)).toNatClampNeg) := inb_of Sa27 ⟨by decide, by decide⟩
    obtain ⟨T27, h27, X27, e27, W27, st27⟩ := stD X26 hx hZ e26 Ar27 (j := (0 : Int32)) hin27 (g := (mkF m 117 #[rv r, iv num, own_dv (FP.l2d v), .second, iv 1, iv 0, iv 0] [(.double (FP.l2d v)), (.int (0 : Int32)), (.ref bc)])) rfl rfl (hb hby d3_117)
    have V_bc : Arv Z h27 bc kc .double (3 : Int32) [(.double (FP.l2d v)), (.double (FP.l2d c0)), (.double (0 : UInt64))] (.double (0 : UInt64)) := Arv.set Ar27 qa27 Sa27 Na27 Ha27 Ga27 rfl W27 0 rfl (Nat.le_of_ble_eq_true rfl)
    replace E_r := E_r.wr W27
    replace F_numbers_r := F_numbers_r.other W27 (Or.inl nrc)
    replace F_cosines_r := F_cosines_r.other W27 (Or.inl nrc)
    replace F_places_r := F_places_r.other W27 (Or.inl nrc)
    replace F_size_r := F_size_r.other W27 (Or.inl nrc)
    replace V_bn := V_bn.other W27 nnc
    replace Pl := own_PlW Pl W27 (List.mem_of_getElem? (i := 2) rfl)
    replace Z0 := Nat.le_trans Z0 (Keep.of_wr W27).1
    replace N0 := Fr.snoc X27 N0 g_bc
    refine own_st st27 ?_
    show own_Go p e below G (T27.setTop (mkF m 118 #[rv r, iv num, own_dv (FP.l2d v), .second, iv 1, iv 0, iv 0] []))
    refine own_st (fun t k => XS.goto X27.here hx rfl (pc0 := 118) (pc' := 165) rfl (hb hby d3_118) (by decide) (by decide) k) ?_
    refine own_st (fun t k => XS.iload X27.here hx rfl (hb hby d3_165) rfl  k) ?_
    show own_Go p e below G (T27.setTop (mkF m 167 #[rv r, iv num, own_dv (FP.l2d v), .second, iv 1, iv 0, iv 0] [(.int (1 : Int32))]))
    rw [hG]
    exact own_retZ X27 hx hlk (t := .boolean) hret (by simp) (hb hby d3_167) (by rw [e27]; exact ⟨⟨_, rfl⟩, N0, num, m0, v, c0, ⟨E_r, F_numbers_r, F_cosines_r, F_places_r, F_size_r, V_bn, V_bc, Pl, nrn, nrc, nnc, g_r, g_bn, g_bc, Z0⟩, hnum, hv, hm0, hc0, Or.inl ⟨(ht10 (hq10.resolve_left c61_11)), rfl, rfl⟩⟩) (by decide) (by decide)
theorem pn_rmO32 : plainFor (⟨"com/example/thinleaf/thinleaf/prune/Nearest", "offer", "(ID)Z"⟩ : MethodName) = true := by decide +kernel
theorem ef_rmO32 (m : MethodId) (x0 : Addr) (x1 : Int32) (x2 : UInt64) : entryFrame m #[(.ref x0), (.int x1), (.double x2)] 7 = mkF m 0 #[rv x0, iv x1, own_dv x2, .second, .unset, .unset, .unset] [] := by first | (simp [entryFrame, mkF, argsToLocals, Value.category]; done) | rfl
set_option maxRecDepth 65536 in
set_option maxHeartbeats 40000000 in
theorem rmO32 (l : Launch) (Z : State) (a0 : Array Value) (hw : ∀ d ∈ tables_1, d.before a0 Z = true) (r bn bc : Addr) (kn kc : ClassId) (pv : Value) (num : Int32) (v : Int64)(m0 m1 : Int32) (c0 c1 : Int64) (h0 : Heap) (n0 : Nat) (NB : own_NE Z h0 n0 r bn bc kn kc pv (3 : Int32) (2 : Int32) [(.int m0), (.int m1), (.int (0 : Int32))] [(.double (FP.l2d c0)), (.double (FP.l2d c1)), (.double (0 : UInt64))]) (hm0 : own_d m0) (hc0 : own_b c0) (hm1 : own_d m1) (hc1 : own_b c1) (hnum : own_d num) (hv : own_b v) :
    own_Met l Z (⟨"com/example/thinleaf/thinleaf/prune/Nearest", "offer", "(ID)Z"⟩ : MethodName) prog_219_method_8_code 7 (some .boolean) [] ({ frames := 2, cells := 0, slots := 0, locals := 36 } : Room) #[(.ref r), (.int num), (.double (FP.l2d v))] h0 (fun z h L => (∃ q : Int32, z = some (.int q)) ∧ Fr n0 L ∧ ∃ (p0 p1 p2 : Int32) (d0 d1 d2 : Int64), own_NE Z h n0 r bn bc kn kc pv (3 : Int32) (3 : Int32) [(.int p0), (.int p1), (.int p2)] [(.double (FP.l2d d0)), (.double (FP.l2d d1)), (.double (FP.l2d d2))] ∧ own_d p0 ∧ own_b d0 ∧ own_d p1 ∧ own_b d1 ∧ own_d p2 ∧ own_b d2 ∧ own_R32 c0 c1 v d0 d1 d2) := by
  refine own_body pn_rmO32 ?_
  intro p e s m below meth c s₁ hx hby hml hown hnm hret hlk hZ X0 e0 G hG
  replace hml : c.maxLocals = 7 := hml
  replace hown : s.vm.findClass "com/example/thinleaf/thinleaf/prune/Nearest" = some m.cls := hown
  rw [ef_rmO32]
  obtain ⟨E_r, F_numbers_r, F_cosines_r, F_places_r, F_size_r, V_bn, V_bc, Pl, nrn, nrc, nnc, g_r, g_bn, g_bc, Z0⟩ := NB
  have N0 := Fr.nil n0
  show own_Go p e below G (s₁.setTop (mkF m 0 #[rv r, iv num, own_dv (FP.l2d v), .second, .unset, .unset, .unset] []))
  refine own_st (fun t k => XS.iconst X0.here hx rfl (hb hby d3_0) k) ?_
  refine own_st (fun t k => XS.istore X0.here hx rfl (hb hby d3_1) rfl (l' := #[rv r, iv num, own_dv (FP.l2d v), .second, iv 1, .unset, .unset]) rfl k) ?_
  refine own_st (fun t k => XS.aloadN X0.here hx rfl (hb hby d3_3) rfl rfl  k) ?_
  show own_Go p e below G (s₁.setTop (mkF m 4 #[rv r, iv num, own_dv (FP.l2d v), .second, iv 1, .unset, .unset] [(.ref r)]))
  obtain ⟨T1, X1, e1, st1⟩ := getF X0 hx hZ hown (host := "") (Or.inl (hw _ (List.mem_of_getElem? (i := 22) rfl))) Via.refl e0 F_size_r (g := (mkF m 4 #[rv r, iv num, own_dv (FP.l2d v), .second, iv 1, .unset, .unset] [(.ref r)])) rfl rfl (hb hby d3_4)
  refine own_st st1 ?_
  show own_Go p e below G (T1.setTop (mkF m 7 #[rv r, iv num, own_dv (FP.l2d v), .second, iv 1, .unset, .unset] [(.int (2 : Int32))]))
  refine own_st (fun t k => XS.aloadN X1.here hx rfl (hb hby d3_7) rfl rfl  k) ?_
  show own_Go p e below G (T1.setTop (mkF m 8 #[rv r, iv num, own_dv (FP.l2d v), .second, iv 1, .unset, .unset] [(.ref r), (.int (2 : Int32))]))
  obtain ⟨T2, X2, e2, st2⟩ := getF X1 hx hZ hown (host := "") (Or.inl (hw _ (List.mem_of_getElem? (i := 10) rfl))) Via.refl e1 F_numbers_r (g := (mkF m 8 #[rv r, iv num, own_dv (FP.l2d v), .second, iv 1, .unset, .unset] [(.ref r), (.int (2 : Int32))])) rfl rfl (hb hby d3_8)
  refine own_st st2 ?_
  show own_Go p e below G (T2.setTop (mkF m 11 #[rv r, iv num, own_dv (FP.l2d v), .second, iv 1, .unset, .unset] [(.ref bn), (.int (2 : Int32))]))
  have Vc3 := V_bn
  obtain ⟨cl3, Ar3, -, Sa3, Na3, -, -⟩ := Vc3
  refine own_st (fun t k => X2.arraylength hx (by rw [e2]; exact Ar3.1) (State.isArrayOf_alike hZ.alike Ar3.2.1) (g := (mkF m 11 #[rv r, iv num, own_dv (FP.l2d v), .second, iv 1, .unset, .unset] [(.ref bn), (.int (2 : Int32))])) rfl rfl (hb hby d3_11) t k) ?_
  rw [len_of Sa3 Na3]
  show own_Go p e below G (T2.setTop (mkF m 12 #[rv r, iv num, own_dv (FP.l2d v), .second, iv 1, .unset, .unset] [(.int (3 : Int32)), (.int (2 : Int32))]))
  refine own_st (fun t k => XS.icmpNo X2.here hx rfl (hb hby d3_12) rfl (tlt (by decide)).2.1 k) ?_
  show own_Go p e below G (T2.setTop (mkF m 15 #[rv r, iv num, own_dv (FP.l2d v), .second, iv 1, .unset, .unset] []))
  refine own_st (fun t k => XS.aloadN X2.here hx rfl (hb hby d3_15) rfl rfl  k) ?_
  refine own_st (fun t k => XS.dup X2.here hx rfl (hb hby d3_16) rfl rfl k) ?_
  show own_Go p e below G (T2.setTop (mkF m 17 #[rv r, iv num, own_dv (FP.l2d v), .second, iv 1, .unset, .unset] [(.ref r), (.ref r)]))
  obtain ⟨T4, X4, e4, st4⟩ := getF X2 hx hZ hown (host := "") (Or.inl (hw _ (List.mem_of_getElem? (i := 22) rfl))) Via.refl e2 F_size_r (g := (mkF m 17 #[rv r, iv num, own_dv (FP.l2d v), .second, iv 1, .unset, .unset] [(.ref r), (.ref r)])) rfl rfl (hb hby d3_17)
  refine own_st st4 ?_
  show own_Go p e below G (T4.setTop (mkF m 20 #[rv r, iv num, own_dv (FP.l2d v), .second, iv 1, .unset, .unset] [(.int (2 : Int32)), (.ref r)]))
  refine own_st (fun t k => XS.dupX1 X4.here hx rfl (hb hby d3_20) rfl rfl rfl k) ?_
  show own_Go p e below G (T4.setTop (mkF m 21 #[rv r, iv num, own_dv (FP.l2d v), .second, iv 1, .unset, .unset] [(.int (2 : Int32)), (.ref r), (.int (2 : Int32))]))
  refine own_st (fun t k => XS.iconst X4.here hx rfl (hb hby d3_21) k) ?_
  refine own_st (fun t k => XS.iadd X4.here hx rfl (hb hby d3_22) rfl k) ?_
  show own_Go p e below G (T4.setTop (mkF m 23 #[rv r, iv num, own_dv (FP.l2d v), .second, iv 1, .unset, .unset] [(.int (3 : Int32)), (.ref r), (.int (2 : Int32))]))
  obtain ⟨T5, h5, X5, e5, W5, st5⟩ := putF X4 hx hZ hown (host := "") (Or.inl (hw _ (List.mem_of_getElem? (i := 22) rfl))) Via.refl e4 F_size_r E_r (Or.inl (hw _ (List.mem_of_getElem? (i := 23) rfl))) (hw _ (List.mem_of_getElem? (i := 2) rfl)) (ty := .int) (by decide) rfl rfl (g := (mkF m 23 #[rv r, iv num, own_dv (FP.l2d v), .second, iv 1, .unset, .unset] [(.int (3 : Int32)), (.ref r), (.int (2 : Int32))])) rfl rfl (hb hby d3_23)
  replace E_r := E_r.wr W5
  replace F_numbers_r := F_numbers_r.other W5 (Or.inr (slot_ne (Or.inr (hw _ (List.mem_of_getElem? (i := 11) rfl))) (Or.inl (hw _ (List.mem_of_getElem? (i := 23) rfl))) (by decide) (t := (.array .int)) (t' := .int) (by decide) (by decide)))
  replace F_cosines_r := F_cosines_r.other W5 (Or.inr (slot_ne (Or.inr (hw _ (List.mem_of_getElem? (i := 14) rfl))) (Or.inl (hw _ (List.mem_of_getElem? (i := 23) rfl))) (by decide) (t := (.array .double)) (t' := .int) (by decide) (by decide)))
  replace F_places_r := F_places_r.other W5 (Or.inr (slot_ne (Or.inr (hw _ (List.mem_of_getElem? (i := 16) rfl))) (Or.inl (hw _ (List.mem_of_getElem? (i := 23) rfl))) (by decide) (t := (.array .int)) (t' := .int) (by decide) (by decide)))
  replace F_size_r := F_size_r.same W5
  replace V_bn := V_bn.other W5 (Ne.symm nrn)
  replace V_bc := V_bc.other W5 (Ne.symm nrc)
  replace Pl := own_PlW Pl W5 (List.mem_of_getElem? (i := 0) rfl)
  replace Z0 := Nat.le_trans Z0 (Keep.of_wr W5).1
  replace N0 := Fr.snoc X5 N0 g_r
  refine own_st st5 ?_
  show own_Go p e below G (T5.setTop (mkF m 26 #[rv r, iv num, own_dv (FP.l2d v), .second, iv 1, .unset, .unset] [(.int (2 : Int32))]))
  refine own_st (fun t k => XS.istore X5.here hx rfl (hb hby d3_26) rfl (l' := #[rv r, iv num, own_dv (FP.l2d v), .second, iv 1, iv 2, .unset]) rfl k) ?_
  refine own_st (fun t k => XS.iload X5.here hx rfl (hb hby d3_28) rfl  k) ?_
  show own_Go p e below G (T5.setTop (mkF m 30 #[rv r, iv num, own_dv (FP.l2d v), .second, iv 1, iv 2, .unset] [(.int (2 : Int32))]))
  refine own_st (fun t k => XS.ifNo X5.here hx rfl (hb hby d3_30) rfl ((if0 _ _).trans (tlt (by decide)).2.2.2) k) ?_
  show own_Go p e below G (T5.setTop (mkF m 33 #[rv r, iv num, own_dv (FP.l2d v), .second, iv 1, iv 2, .unset] []))
  refine own_st (fun t k => XS.iload X5.here hx rfl (hb hby d3_33) rfl  k) ?_
  refine own_st (fun t k => XS.iconst X5.here hx rfl (hb hby d3_35) k) ?_
  refine own_st (fun t k => XS.isub X5.here hx rfl (hb hby d3_36) rfl k) ?_
  show own_Go p e below G (T5.setTop (mkF m 37 #[rv r, iv num, own_dv (FP.l2d v), .second, iv 1, iv 2, .unset] [(.int (1 : Int32))]))
  refine own_st (fun t k => XS.iconst X5.here hx rfl (hb hby d3_37) k) ?_
  show own_Go p e below G (T5.setTop (mkF m 38 #[rv r, iv num, own_dv (FP.l2d v), .second, iv 1, iv 2, .unset] [(.int (2 : Int32)), (.int (1 : Int32))]))
  refine own_st (fun t k => XS.idiv X5.here hx rfl (hb hby d3_38) rfl (by decide) k) ?_
  show own_Go p e below G (T5.setTop (mkF m 39 #[rv r, iv num, own_dv (FP.l2d v), .second, iv 1, iv 2, .unset] [(.int (0 : Int32))]))
  refine own_st (fun t k => XS.istore X5.here hx rfl (hb hby d3_39) rfl (l' := #[rv r, iv num, own_dv (FP.l2d v), .second, iv 1, iv 2, iv 0]) rfl k) ?_
  refine own_st (fun t k => XS.aloadN X5.here hx rfl (hb hby d3_41) rfl rfl  k) ?_
  refine own_st (fun t k => XS.iloadN X5.here hx rfl (hb hby d3_42) rfl  k) ?_
  show own_Go p e below G (T5.setTop (mkF m 43 #[rv r, iv num, own_dv (FP.l2d v), .second, iv 1, iv 2, iv 0] [(.int num), (.ref r)]))
  refine own_st (fun t k => XS.dloadN X5.here hx rfl (hb hby d3_43) rfl  k) ?_
  refine own_st (fun t k => XS.aloadN X5.here hx rfl (hb hby d3_44) rfl rfl  k) ?_
  show own_Go p e below G (T5.setTop (mkF m 45 #[rv r, iv num, own_dv (FP.l2d v), .second, iv 1, iv 2, iv 0] [(.ref r), (.double (FP.l2d v)), (.int num), (.ref r)]))
  obtain ⟨T6, X6, e6, st6⟩ := getF X5 hx hZ hown (host := "") (Or.inl (hw _ (List.mem_of_getElem? (i := 10) rfl))) Via.refl e5 F_numbers_r (g := (mkF m 45 #[rv r, iv num, own_dv (FP.l2d v), .second, iv 1, iv 2, iv 0] [(.ref r), (.double (FP.l2d v)), (.int num), (.ref r)])) rfl rfl (hb hby d3_45)
  refine own_st st6 ?_
  show own_Go p e below G (T6.setTop (mkF m 48 #[rv r, iv num, own_dv (FP.l2d v), .second, iv 1, iv 2, iv 0] [(.ref bn), (.double (FP.l2d v)), (.int num), (.ref r)]))
  refine own_st (fun t k => XS.iload X6.here hx rfl (hb hby d3_48) rfl  k) ?_
  show own_Go p e below G (T6.setTop (mkF m 50 #[rv r, iv num, own_dv (FP.l2d v), .second, iv 1, iv 2, iv 0] [(.int (0 : Int32)), (.ref bn), (.double (FP.l2d v)), (.int num), (.ref r)]))
  have Vc7 := V_bn
  obtain ⟨cl7, Ar7, -, Sa7, -, Ha7, -⟩ := Vc7
  have hin7 : ¬ ((0 : Int32) < 0 ∨ cl7.slots.size ≤ ((0 : Int32)).toNatClampNeg) := inb_of Sa7 ⟨by decide, by decide⟩
  refine own_st (fun t k => X6.iaload hx (j := (0 : Int32)) (v := (.int m0)) (by rw [e6]; exact Ar7.1) (State.isArrayOf_alike hZ.alike Ar7.2.1) Ar7.2.2 hin7 (Ha7.at hin7 rfl) (g := (mkF m 50 #[rv r, iv num, own_dv (FP.l2d v), .second, iv 1, iv 2, iv 0] [(.int (0 : Int32)), (.ref bn), (.double (FP.l2d v)), (.int num), (.ref r)])) rfl rfl (hb hby d3_50) t k) ?_
  show own_Go p e below G (T6.setTop (mkF m 51 #[rv r, iv num, own_dv (FP.l2d v), .second, iv 1, iv 2, iv 0] [(.int m0), (.double (FP.l2d v)), (.int num), (.ref r)]))
  refine own_st (fun t k => XS.aloadN X6.here hx rfl (hb hby d3_51) rfl rfl  k) ?_
  show own_Go p e below G (T6.setTop (mkF m 52 #[rv r, iv num, own_dv (FP.l2d v), .second, iv 1, iv 2, iv 0] [(.ref r), (.int m0), (.double (FP.l2d v)), (.int num), (.ref r)]))
  obtain ⟨T8, X8, e8, st8⟩ := getF X6 hx hZ hown (host := "") (Or.inl (hw _ (List.mem_of_getElem? (i := 13) rfl))) Via.refl e6 F_cosines_r (g := (mkF m 52 #[rv r, iv num, own_dv (FP.l2d v), .second, iv 1, iv 2, iv 0] [(.ref r), (.int m0), (.double (FP.l2d v)), (.int num), (.ref r)])) rfl rfl (hb hby d3_52)
  refine own_st st8 ?_
  show own_Go p e below G (T8.setTop (mkF m 55 #[rv r, iv num, own_dv (FP.l2d v), .second, iv 1, iv 2, iv 0] [(.ref bc), (.int m0), (.double (FP.l2d v)), (.int num), (.ref r)]))
  refine own_st (fun t k => XS.iload X8.here hx rfl (hb hby d3_55) rfl  k) ?_
  show own_Go p e below G (T8.setTop (mkF m 57 #[rv r, iv num, own_dv (FP.l2d v), .second, iv 1, iv 2, iv 0] [(.int (0 : Int32)), (.ref bc), (.int m0), (.double (FP.l2d v)), (.int num), (.ref r)]))
  have Vc9 := V_bc
  obtain ⟨cl9, Ar9, -, Sa9, -, Ha9, -⟩ := Vc9
  have hin9 : ¬ ((0 : Int32) < 0 ∨ cl9.slots.size ≤ ((0 : Int32)).toNatClampNeg) := inb_of Sa9 ⟨by decide, by decide⟩
  refine own_st (fun t k => X8.daload hx (j := (0 : Int32)) (v := (.double (FP.l2d c0))) (by rw [e8]; exact Ar9.1) (State.isArrayOf_alike hZ.alike Ar9.2.1) Ar9.2.2 hin9 (Ha9.at hin9 rfl) (g := (mkF m 57 #[rv r, iv num, own_dv (FP.l2d v), .second, iv 1, iv 2, iv 0] [(.int (0 : Int32)), (.ref bc), (.int m0), (.double (FP.l2d v)), (.int num), (.ref r)])) rfl rfl (hb hby d3_57) t k) ?_
  show own_Go p e below G (T8.setTop (mkF m 58 #[rv r, iv num, own_dv (FP.l2d v), .second, iv 1, iv 2, iv 0] [(.double (FP.l2d c0)), (.int m0), (.double (FP.l2d v)), (.int num), (.ref r)]))
  obtain ⟨v10, T10, L10, X10, Q10, st10⟩ := own_callP X8 hx hZ (y := (⟨"com/example/thinleaf/thinleaf/prune/Nearest", "below", "(IDID)Z"⟩ : MethodName)) hown (hw _ (List.mem_of_getElem? (i := 31) rfl)) (hw _ (List.mem_of_getElem? (i := 32) rfl)) (hw _ (List.mem_of_getElem? (i := 33) rfl)) (hw _ (List.mem_of_getElem? (i := 2) rfl)) (hw _ (List.mem_of_getElem? (i := 3) rfl)) (hw _ (List.mem_of_getElem? (i := 34) rfl)) (by decide) (W := 0) (rmB l Z a0 hw r num v m0 c0 pv _ h5 F_places_r Pl hv hc0 hnum hm0) (by decide) (by decide) e8 E_r (g := (mkF m 58 #[rv r, iv num, own_dv (FP.l2d v), .second, iv 1, iv 2, iv 0] [(.double (FP.l2d c0)), (.int m0), (.double (FP.l2d v)), (.int num), (.ref r)])) rfl (by rw [hml]; rfl) (argsL := [(.int num), (.double (FP.l2d v)), (.int m0), (.double (FP.l2d c0))]) (rest := []) own_pd0 rfl rfl (by show 2 * 0 + _ ≤ _; exact Nat.le_of_eq rfl) (hb hby d3_58) rfl (by decide) (by decide)
  obtain ⟨⟨q10, rfl, hq10, ht10, hf10⟩, rfl, e10⟩ := Q10
  simp only [List.append_nil, Nat.add_zero] at X10
  refine own_st st10 ?_
  show own_Go p e below G (T10.setTop (mkF m 61 #[rv r, iv num, own_dv (FP.l2d v), .second, iv 1, iv 2, iv 0] [(.int q10)]))
  by_cases c61_11 : q10 = (0 : Int32)
  · skip
    refine own_st (fun t k => XS.ifNo X10.here hx rfl (hb hby d3_61) rfl ((if0 _ _).trans (teq c61_11).2) k) ?_
    show own_Go p e below G (T10.setTop (mkF m 64 #[rv r, iv num, own_dv (FP.l2d v), .second, iv 1, iv 2, iv 0] []))
    refine own_st (fun t k => XS.goto X10.here hx rfl (pc0 := 64) (pc' := 102) rfl (hb hby d3_64) (by decide) (by decide) k) ?_
    refine own_st (fun t k => XS.aloadN X10.here hx rfl (hb hby d3_102) rfl rfl  k) ?_
    show own_Go p e below G (T10.setTop (mkF m 103 #[rv r, iv num, own_dv (FP.l2d v), .second, iv 1, iv 2, iv 0] [(.ref r)]))
    obtain ⟨T12, X12, e12, st12⟩ := getF X10 hx hZ hown (host := "") (Or.inl (hw _ (List.mem_of_getElem? (i := 10) rfl))) Via.refl e10 F_numbers_r (g := (mkF m 103 #[rv r, iv num, own_dv (FP.l2d v), .second, iv 1, iv 2, iv 0] [(.ref r)])) rfl rfl (hb hby d3_103)
    refine own_st st12 ?_
    show own_Go p e below G (T12.setTop (mkF m 106 #[rv r, iv num, own_dv (FP.l2d v), .second, iv 1, iv 2, iv 0] [(.ref bn)]))
    refine own_st (fun t k => XS.iload X12.here hx rfl (hb hby d3_106) rfl  k) ?_
    refine own_st (fun t k => XS.iloadN X12.here hx rfl (hb hby d3_108) rfl  k) ?_
    show own_Go p e below G (T12.setTop (mkF m 109 #[rv r, iv num, own_dv (FP.l2d v), .second, iv 1, iv 2, iv 0] [(.int num), (.int (2 : Int32)), (.ref bn)]))
    obtain ⟨cl13, Ar13, qa13, Sa13, Na13, Ha13, Ga13⟩ := V_bn
    have hin13 : ¬ ((2 : Int32) < 0 ∨ cl13.slots.size ≤ ((2 : Int32)).toNatClampNeg) := inb_of Sa13 ⟨by decide, by decide⟩
    obtain ⟨T13, h13, X13, e13, W13, st13⟩ := stI X12 hx hZ e12 Ar13 (j := (2 : Int32)) hin13 (g := (mkF m 109 #[rv r, iv num, own_dv (FP.l2d v), .second, iv 1, iv 2, iv 0] [(.int num), (.int (2 : Int32)), (.ref bn)])) rfl rfl (hb hby d3_109)
    have V_bn : Arv Z h13 bn kn .int (3 : Int32) [(.int m0), (.int m1), (.int num)] (.int (0 : Int32)) := Arv.set Ar13 qa13 Sa13 Na13 Ha13 Ga13 rfl W13 2 rfl (Nat.le_of_ble_eq_true rfl)
    replace E_r := E_r.wr W13
    replace F_numbers_r := F_numbers_r.other W13 (Or.inl nrn)
    replace F_cosines_r := F_cosines_r.other W13 (Or.inl nrn)
    replace F_places_r := F_places_r.other W13 (Or.inl nrn)
    replace F_size_r := F_size_r.other W13 (Or.inl nrn)
    replace V_bc := V_bc.other W13 (Ne.symm nnc)
    replace Pl := own_PlW Pl W13 (List.mem_of_getElem? (i := 1) rfl)
    replace Z0 := Nat.le_trans Z0 (Keep.of_wr W13).1
    replace N0 := Fr.snoc X13 N0 g_bn
    refine own_st st13 ?_
    show own_Go p e below G (T13.setTop (mkF m 110 #[rv r, iv num, own_dv (FP.l2d v), .second, iv 1, iv 2, iv 0] []))
    refine own_st (fun t k => XS.aloadN X13.here hx rfl (hb hby d3_110) rfl rfl  k) ?_
    show own_Go p e below G (T13.setTop (mkF m 111 #[rv r, iv num, own_dv (FP.l2d v), .second, iv 1, iv 2, iv 0] [(.ref r)]))
    obtain ⟨T14, X14, e14, st14⟩ := getF X13 hx hZ hown (host := "") (Or.inl (hw _ (List.mem_of_getElem? (i := 13) rfl))) Via.refl e13 F_cosines_r (g := (mkF m 111 #[rv r, iv num, own_dv (FP.l2d v), .second, iv 1, iv 2, iv 0] [(.ref r)])) rfl rfl (hb hby d3_111)
    refine own_st st14 ?_
    show own_Go p e below G (T14.setTop (mkF m 114 #[rv r, iv num, own_dv (FP.l2d v), .second, iv 1, iv 2, iv 0] [(.ref bc)]))
    refine own_st (fun t k => XS.iload X14.here hx rfl (hb hby d3_114) rfl  k) ?_
    refine own_st (fun t k => XS.dloadN X14.here hx rfl (hb hby d3_116) rfl  k) ?_
    show own_Go p e below G (T14.setTop (mkF m 117 #[rv r, iv num, own_dv (FP.l2d v), .second, iv 1, iv 2, iv 0] [(.double (FP.l2d v)), (.int (2 : Int32)), (.ref bc)]))
    obtain ⟨cl15, Ar15, qa15, Sa15, Na15, Ha15, Ga15⟩ := V_bc
    have hin15 : ¬ ((2 : Int32) < 0 ∨ cl15.slots.size ≤ ((2 : Int32)).toNatClampNeg) := inb_of Sa15 ⟨by decide, by decide⟩
    obtain ⟨T15, h15, X15, e15, W15, st15⟩ := stD X14 hx hZ e14 Ar15 (j := (2 : Int32)) hin15 (g := (mkF m 117 #[rv r, iv num, own_dv (FP.l2d v), .second, iv 1, iv 2, iv 0] [(.double (FP.l2d v)), (.int (2 : Int32)), (.ref bc)])) rfl rfl (hb hby d3_117)
    have V_bc : Arv Z h15 bc kc .double (3 : Int32) [(.double (FP.l2d c0)), (.double (FP.l2d c1)), (.double (FP.l2d v))] (.double (0 : UInt64)) := Arv.set Ar15 qa15 Sa15 Na15 Ha15 Ga15 rfl W15 2 rfl (Nat.le_of_ble_eq_true rfl)
    replace E_r := E_r.wr W15
    replace F_numbers_r := F_numbers_r.other W15 (Or.inl nrc)
    replace F_cosines_r := F_cosines_r.other W15 (Or.inl nrc)
    replace F_places_r := F_places_r.other W15 (Or.inl nrc)
    replace F_size_r := F_size_r.other W15 (Or.inl nrc)
    replace V_bn := V_bn.other W15 nnc
    replace Pl := own_PlW Pl W15 (List.mem_of_getElem? (i := 2) rfl)
    replace Z0 := Nat.le_trans Z0 (Keep.of_wr W15).1
    replace N0 := Fr.snoc X15 N0 g_bc
    refine own_st st15 ?_
    show own_Go p e below G (T15.setTop (mkF m 118 #[rv r, iv num, own_dv (FP.l2d v), .second, iv 1, iv 2, iv 0] []))
    refine own_st (fun t k => XS.goto X15.here hx rfl (pc0 := 118) (pc' := 165) rfl (hb hby d3_118) (by decide) (by decide) k) ?_
    refine own_st (fun t k => XS.iload X15.here hx rfl (hb hby d3_165) rfl  k) ?_
    show own_Go p e below G (T15.setTop (mkF m 167 #[rv r, iv num, own_dv (FP.l2d v), .second, iv 1, iv 2, iv 0] [(.int (1 : Int32))]))
    rw [hG]
    exact own_retZ X15 hx hlk (t := .boolean) hret (by simp) (hb hby d3_167) (by rw [e15]; exact ⟨⟨_, rfl⟩, N0, m0, m1, num, c0, c1, v, ⟨E_r, F_numbers_r, F_cosines_r, F_places_r, F_size_r, V_bn, V_bc, Pl, nrn, nrc, nnc, g_r, g_bn, g_bc, Z0⟩, hm0, hc0, hm1, hc1, hnum, hv, Or.inr ⟨(hf10 c61_11), rfl, rfl, rfl⟩⟩) (by decide) (by decide)
  · skip
    refine own_st (fun t k => XS.ifYes X10.here hx rfl (pc0 := 61) (pc' := 67) rfl (hb hby d3_61) rfl ((if0 _ _).trans (feq c61_11).2) (by decide) (by decide) k) ?_
    show own_Go p e below G (T10.setTop (mkF m 67 #[rv r, iv num, own_dv (FP.l2d v), .second, iv 1, iv 2, iv 0] []))
    refine own_st (fun t k => XS.aloadN X10.here hx rfl (hb hby d3_67) rfl rfl  k) ?_
    show own_Go p e below G (T10.setTop (mkF m 68 #[rv r, iv num, own_dv (FP.l2d v), .second, iv 1, iv 2, iv 0] [(.ref r)]))
    obtain ⟨T16, X16, e16, st16⟩ := getF X10 hx hZ hown (host := "") (Or.inl (hw _ (List.mem_of_getElem? (i := 10) rfl))) Via.refl e10 F_numbers_r (g := (mkF m 68 #[rv r, iv num, own_dv (FP.l2d v), .second, iv 1, iv 2, iv 0] [(.ref r)])) rfl rfl (hb hby d3_68)
    refine own_st st16 ?_
    show own_Go p e below G (T16.setTop (mkF m 71 #[rv r, iv num, own_dv (FP.l2d v), .second, iv 1, iv 2, iv 0] [(.ref bn)]))
    refine own_st (fun t k => XS.iload X16.here hx rfl (hb hby d3_71) rfl  k) ?_
    refine own_st (fun t k => XS.aloadN X16.here hx rfl (hb hby d3_73) rfl rfl  k) ?_
    show own_Go p e below G (T16.setTop (mkF m 74 #[rv r, iv num, own_dv (FP.l2d v), .second, iv 1, iv 2, iv 0] [(.ref r), (.int (2 : Int32)), (.ref bn)]))
    obtain ⟨T17, X17, e17, st17⟩ := getF X16 hx hZ hown (host := "") (Or.inl (hw _ (List.mem_of_getElem? (i := 10) rfl))) Via.refl e16 F_numbers_r (g := (mkF m 74 #[rv r, iv num, own_dv (FP.l2d v), .second, iv 1, iv 2, iv 0] [(.ref r), (.int (2 : Int32)), (.ref bn)])) rfl rfl (hb hby d3_74)
    refine own_st st17 ?_
    show own_Go p e below G (T17.setTop (mkF m 77 #[rv r, iv num, own_dv (FP.l2d v), .second, iv 1, iv 2, iv 0] [(.ref bn), (.int (2 : Int32)), (.ref bn)]))
    refine own_st (fun t k => XS.iload X17.here hx rfl (hb hby d3_77) rfl  k) ?_
    show own_Go p e below G (T17.setTop (mkF m 79 #[rv r, iv num, own_dv (FP.l2d v), .second, iv 1, iv 2, iv 0] [(.int (0 : Int32)), (.ref bn), (.int (2 : Int32)), (.ref bn)]))
    have Vc18 := V_bn
    obtain ⟨cl18, Ar18, -, Sa18, -, Ha18, -⟩ := Vc18
    have hin18 : ¬ ((0 : Int32) < 0 ∨ cl18.slots.size ≤ ((0 : Int32)).toNatClampNeg) := inb_of Sa18 ⟨by decide, by decide⟩
    refine own_st (fun t k => X17.iaload hx (j := (0 : Int32)) (v := (.int m0)) (by rw [e17]; exact Ar18.1) (State.isArrayOf_alike hZ.alike Ar18.2.1) Ar18.2.2 hin18 (Ha18.at hin18 rfl) (g := (mkF m 79 #[rv r, iv num, own_dv (FP.l2d v), .second, iv 1, iv 2, iv 0] [(.int (0 : Int32)), (.ref bn), (.int (2 : Int32)), (.ref bn)])) rfl rfl (hb hby d3_79) t k) ?_
    show own_Go p e below G (T17.setTop (mkF m 80 #[rv r, iv num, own_dv (FP.l2d v), .second, iv 1, iv 2, iv 0] [(.int m0), (.int (2 : Int32)), (.ref bn)]))
    obtain ⟨cl19, Ar19, qa19, Sa19, Na19, Ha19, Ga19⟩ := V_bn
    have hin19 : ¬ ((2 : Int32) < 0 ∨ cl19.slots.size ≤ ((2 : Int32)).toNatClampNeg) := inb_of Sa19 ⟨by decide, by decide⟩
    obtain ⟨T19, h19, X19, e19, W19, st19⟩ := stI X17 hx hZ e17 Ar19 (j := (2 : Int32)) hin19 (g := (mkF m 80 #[rv r, iv num, own_dv (FP.l2d v), .second, iv 1, iv 2, iv 0] [(.int m0), (.int (2 : Int32)), (.ref bn)])) rfl rfl (hb hby d3_80)
    have V_bn : Arv Z h19 bn kn .int (3 : Int32) [(.int m0), (.int m1), (.int m0)] (.int (0 : Int32)) := Arv.set Ar19 qa19 Sa19 Na19 Ha19 Ga19 rfl W19 2 rfl (Nat.le_of_ble_eq_true rfl)
    replace E_r := E_r.wr W19
    replace F_numbers_r := F_numbers_r.other W19 (Or.inl nrn)
    replace F_cosines_r := F_cosines_r.other W19 (Or.inl nrn)
    replace F_places_r := F_places_r.other W19 (Or.inl nrn)
    replace F_size_r := F_size_r.other W19 (Or.inl nrn)
    replace V_bc := V_bc.other W19 (Ne.symm nnc)
    replace Pl := own_PlW Pl W19 (List.mem_of_getElem? (i := 1) rfl)
    replace Z0 := Nat.le_trans Z0 (Keep.of_wr W19).1
    replace N0 := Fr.snoc X19 N0 g_bn
    refine own_st st19 ?_
    show own_Go p e below G (T19.setTop (mkF m 81 #[rv r, iv num, own_dv (FP.l2d v), .second, iv 1, iv 2, iv 0] []))
    refine own_st (fun t k => XS.aloadN X19.here hx rfl (hb hby d3_81) rfl rfl  k) ?_
    show own_Go p e below G (T19.setTop (mkF m 82 #[rv r, iv num, own_dv (FP.l2d v), .second, iv 1, iv 2, iv 0] [(.ref r)]))
    obtain ⟨T20, X20, e20, st20⟩ := getF X19 hx hZ hown (host := "") (Or.inl (hw _ (List.mem_of_getElem? (i := 13) rfl))) Via.refl e19 F_cosines_r (g := (mkF m 82 #[rv r, iv num, own_dv (FP.l2d v), .second, iv 1, iv 2, iv 0] [(.ref r)])) rfl rfl (hb hby d3_82)
    refine own_st st20 ?_
    show own_Go p e below G (T20.setTop (mkF m 85 #[rv r, iv num, own_dv (FP.l2d v), .second, iv 1, iv 2, iv 0] [(.ref bc)]))
    refine own_st (fun t k => XS.iload X20.here hx rfl (hb hby d3_85) rfl  k) ?_
    refine own_st (fun t k => XS.aloadN X20.here hx rfl (hb hby d3_87) rfl rfl  k) ?_
    show own_Go p e below G (T20.setTop (mkF m 88 #[rv r, iv num, own_dv (FP.l2d v), .second, iv 1, iv 2, iv 0] [(.ref r), (.int (2 : Int32)), (.ref bc)]))
    obtain ⟨T21, X21, e21, st21⟩ := getF X20 hx hZ hown (host := "") (Or.inl (hw _ (List.mem_of_getElem? (i := 13) rfl))) Via.refl e20 F_cosines_r (g := (mkF m 88 #[rv r, iv num, own_dv (FP.l2d v), .second, iv 1, iv 2, iv 0] [(.ref r), (.int (2 : Int32)), (.ref bc)])) rfl rfl (hb hby d3_88)
    refine own_st st21 ?_
    show own_Go p e below G (T21.setTop (mkF m 91 #[rv r, iv num, own_dv (FP.l2d v), .second, iv 1, iv 2, iv 0] [(.ref bc), (.int (2 : Int32)), (.ref bc)]))
    refine own_st (fun t k => XS.iload X21.here hx rfl (hb hby d3_91) rfl  k) ?_
    show own_Go p e below G (T21.setTop (mkF m 93 #[rv r, iv num, own_dv (FP.l2d v), .second, iv 1, iv 2, iv 0] [(.int (0 : Int32)), (.ref bc), (.int (2 : Int32)), (.ref bc)]))
    have Vc22 := V_bc
    obtain ⟨cl22, Ar22, -, Sa22, -, Ha22, -⟩ := Vc22
    have hin22 : ¬ ((0 : Int32) < 0 ∨ cl22.slots.size ≤ ((0 : Int32)).toNatClampNeg) := inb_of Sa22 ⟨by decide, by decide⟩
    refine own_st (fun t k => X21.daload hx (j := (0 : Int32)) (v := (.double (FP.l2d c0))) (by rw [e21]; exact Ar22.1) (State.isArrayOf_alike hZ.alike Ar22.2.1) Ar22.2.2 hin22 (Ha22.at hin22 rfl) (g := (mkF m 93 #[rv r, iv num, own_dv (FP.l2d v), .second, iv 1, iv 2, iv 0] [(.int (0 : Int32)), (.ref bc), (.int (2 : Int32)), (.ref bc)])) rfl rfl (hb hby d3_93) t k) ?_
    show own_Go p e below G (T21.setTop (mkF m 94 #[rv r, iv num, own_dv (FP.l2d v), .second, iv 1, iv 2, iv 0] [(.double (FP.l2d c0)), (.int (2 : Int32)), (.ref bc)]))
    obtain ⟨cl23, Ar23, qa23, Sa23, Na23, Ha23, Ga23⟩ := V_bc
    have hin23 : ¬ ((2 : Int32) < 0 ∨ cl23.slots.size ≤ ((2 : Int32)).toNatClampNeg) := inb_of Sa23 ⟨by decide, by decide⟩
    obtain ⟨T23, h23, X23, e23, W23, st23⟩ := stD X21 hx hZ e21 Ar23 (j := (2 : Int32)) hin23 (g := (mkF m 94 #[rv r, iv num, own_dv (FP.l2d v), .second, iv 1, iv 2, iv 0] [(.double (FP.l2d c0)), (.int (2 : Int32)), (.ref bc)])) rfl rfl (hb hby d3_94)
    have V_bc : Arv Z h23 bc kc .double (3 : Int32) [(.double (FP.l2d c0)), (.double (FP.l2d c1)), (.double (FP.l2d c0))] (.double (0 : UInt64)) := Arv.set Ar23 qa23 Sa23 Na23 Ha23 Ga23 rfl W23 2 rfl (Nat.le_of_ble_eq_true rfl)
    replace E_r := E_r.wr W23
    replace F_numbers_r := F_numbers_r.other W23 (Or.inl nrc)
    replace F_cosines_r := F_cosines_r.other W23 (Or.inl nrc)
    replace F_places_r := F_places_r.other W23 (Or.inl nrc)
    replace F_size_r := F_size_r.other W23 (Or.inl nrc)
    replace V_bn := V_bn.other W23 nnc
    replace Pl := own_PlW Pl W23 (List.mem_of_getElem? (i := 2) rfl)
    replace Z0 := Nat.le_trans Z0 (Keep.of_wr W23).1
    replace N0 := Fr.snoc X23 N0 g_bc
    refine own_st st23 ?_
    show own_Go p e below G (T23.setTop (mkF m 95 #[rv r, iv num, own_dv (FP.l2d v), .second, iv 1, iv 2, iv 0] []))
    refine own_st (fun t k => XS.iload X23.here hx rfl (hb hby d3_95) rfl  k) ?_
    refine own_st (fun t k => XS.istore X23.here hx rfl (hb hby d3_97) rfl (l' := #[rv r, iv num, own_dv (FP.l2d v), .second, iv 1, iv 0, iv 0]) rfl k) ?_
    refine own_st (fun t k => XS.goto X23.here hx rfl (pc0 := 99) (pc' := 28) rfl (hb hby d3_99) (by decide) (by decide) k) ?_
    show own_Go p e below G (T23.setTop (mkF m 28 #[rv r, iv num, own_dv (FP.l2d v), .second, iv 1, iv 0, iv 0] []))
    refine own_st (fun t k => XS.iload X23.here hx rfl (hb hby d3_28) rfl  k) ?_
    show own_Go p e below G (T23.setTop (mkF m 30 #[rv r, iv num, own_dv (FP.l2d v), .second, iv 1, iv 0, iv 0] [(.int (0 : Int32))]))
    refine own_st (fun t k => XS.ifYes X23.here hx rfl (pc0 := 30) (pc' := 102) rfl (hb hby d3_30) rfl ((if0 _ _).trans (flt (by decide)).2.2.2) (by decide) (by decide) k) ?_
    show own_Go p e below G (T23.setTop (mkF m 102 #[rv r, iv num, own_dv (FP.l2d v), .second, iv 1, iv 0, iv 0] []))
    refine own_st (fun t k => XS.aloadN X23.here hx rfl (hb hby d3_102) rfl rfl  k) ?_
    show own_Go p e below G (T23.setTop (mkF m 103 #[rv r, iv num, own_dv (FP.l2d v), .second, iv 1, iv 0, iv 0] [(.ref r)]))
    obtain ⟨T24, X24, e24, st24⟩ := getF X23 hx hZ hown (host := "") (Or.inl (hw _ (List.mem_of_getElem? (i := 10) rfl))) Via.refl e23 F_numbers_r (g := (mkF m 103 #[rv r, iv num, own_dv (FP.l2d v), .second, iv 1, iv 0, iv 0] [(.ref r)])) rfl rfl (hb hby d3_103)
    refine own_st st24 ?_
    show own_Go p e below G (T24.setTop (mkF m 106 #[rv r, iv num, own_dv (FP.l2d v), .second, iv 1, iv 0, iv 0] [(.ref bn)]))
    refine own_st (fun t k => XS.iload X24.here hx rfl (hb hby d3_106) rfl  k) ?_
    refine own_st (fun t k => XS.iloadN X24.here hx rfl (hb hby d3_108) rfl  k) ?_
    show own_Go p e below G (T24.setTop (mkF m 109 #[rv r, iv num, own_dv (FP.l2d v), .second, iv 1, iv 0, iv 0] [(.int num), (.int (0 : Int32)), (.ref bn)]))
    obtain ⟨cl25, Ar25, qa25, Sa25, Na25, Ha25, Ga25⟩ := V_bn
    have hin25 : ¬ ((0 : Int32) < 0 ∨ cl25.slots.size ≤ ((0 : Int32)).toNatClampNeg) := inb_of Sa25 ⟨by decide, by decide⟩
    obtain ⟨T25, h25, X25, e25, W25, st25⟩ := stI X24 hx hZ e24 Ar25 (j := (0 : Int32)) hin25 (g := (mkF m 109 #[rv r, iv num, own_dv (FP.l2d v), .second, iv 1, iv 0, iv 0] [(.int num), (.int (0 : Int32)), (.ref bn)])) rfl rfl (hb hby d3_109)
    have V_bn : Arv Z h25 bn kn .int (3 : Int32) [(.int num), (.int m1), (.int m0)] (.int (0 : Int32)) := Arv.set Ar25 qa25 Sa25 Na25 Ha25 Ga25 rfl W25 0 rfl (Nat.le_of_ble_eq_true rfl)
    replace E_r := E_r.wr W25
    replace F_numbers_r := F_numbers_r.other W25 (Or.inl nrn)
    replace F_cosines_r := F_cosines_r.other W25 (Or.inl nrn)
    replace F_places_r := F_places_r.other W25 (Or.inl nrn)
    replace F_size_r := F_size_r.other W25 (Or.inl nrn)
    replace V_bc := V_bc.other W25 (Ne.symm nnc)
    replace Pl := own_PlW Pl W25 (List.mem_of_getElem? (i := 1) rfl)
    replace Z0 := Nat.le_trans Z0 (Keep.of_wr W25).1
    replace N0 := Fr.snoc X25 N0 g_bn
    refine own_st st25 ?_
    show own_Go p e below G (T25.setTop (mkF m 110 #[rv r, iv num, own_dv (FP.l2d v), .second, iv 1, iv 0, iv 0] []))
    refine own_st (fun t k => XS.aloadN X25.here hx rfl (hb hby d3_110) rfl rfl  k) ?_
    show own_Go p e below G (T25.setTop (mkF m 111 #[rv r, iv num, own_dv (FP.l2d v), .second, iv 1, iv 0, iv 0] [(.ref r)]))
    obtain ⟨T26, X26, e26, st26⟩ := getF X25 hx hZ hown (host := "") (Or.inl (hw _ (List.mem_of_getElem? (i := 13) rfl))) Via.refl e25 F_cosines_r (g := (mkF m 111 #[rv r, iv num, own_dv (FP.l2d v), .second, iv 1, iv 0, iv 0] [(.ref r)])) rfl rfl (hb hby d3_111)
    refine own_st st26 ?_
    show own_Go p e below G (T26.setTop (mkF m 114 #[rv r, iv num, own_dv (FP.l2d v), .second, iv 1, iv 0, iv 0] [(.ref bc)]))
    refine own_st (fun t k => XS.iload X26.here hx rfl (hb hby d3_114) rfl  k) ?_
    refine own_st (fun t k => XS.dloadN X26.here hx rfl (hb hby d3_116) rfl  k) ?_
    show own_Go p e below G (T26.setTop (mkF m 117 #[rv r, iv num, own_dv (FP.l2d v), .second, iv 1, iv 0, iv 0] [(.double (FP.l2d v)), (.int (0 : Int32)), (.ref bc)]))
    obtain ⟨cl27, Ar27, qa27, Sa27, Na27, Ha27, Ga27⟩ := V_bc
    have hin27 : ¬ ((0 : Int32) < 0 ∨ cl27.slots.size ≤ ((0 : Int32)).toNatClampNeg) := inb_of Sa27 ⟨by decide, by decide⟩
    obtain ⟨T27, h27, X27, e27, W27, st27⟩ := stD X26 hx hZ e26 Ar27 (j := (0 : Int32)) hin27 (g := (mkF m 117 #[rv r, iv num, own_dv (FP.l2d v), .second, iv 1, iv 0, iv 0] [(.double (FP.l2d v)), (.int (0 : Int32)), (.ref bc)])) rfl rfl (hb hby d3_117)
    have V_bc : Arv Z h27 bc kc .double (3 : Int32) [(.double (FP.l2d v)), (.double (FP.l2d c1)), (.double (FP.l2d c0))] (.double (0 : UInt64)) := Arv.set Ar27 qa27 Sa27 Na27 Ha27 Ga27 rfl W27 0 rfl (Nat.le_of_ble_eq_true rfl)
    replace E_r := E_r.wr W27
    replace F_numbers_r := F_numbers_r.other W27 (Or.inl nrc)
    replace F_cosines_r := F_cosines_r.other W27 (Or.inl nrc)
    replace F_places_r := F_places_r.other W27 (Or.inl nrc)
    replace F_size_r := F_size_r.other W27 (Or.inl nrc)
    replace V_bn := V_bn.other W27 nnc
    replace Pl := own_PlW Pl W27 (List.mem_of_getElem? (i := 2) rfl)
    replace Z0 := Nat.le_trans Z0 (Keep.of_wr W27).1
    replace N0 := Fr.snoc X27 N0 g_bc
    refine own_st st27 ?_
    show own_Go p e below G (T27.setTop (mkF m 118 #[rv r, iv num, own_dv (FP.l2d v), .second, iv 1, iv 0, iv 0] []))
    refine own_st (fun t k => XS.goto X27.here hx rfl (pc0 := 118) (pc' := 165) rfl (hb hby d3_118) (by decide) (by decide) k) ?_
    refine own_st (fun t k => XS.iload X27.here hx rfl (hb hby d3_165) rfl  k) ?_
    show own_Go p e below G (T27.setTop (mkF m 167 #[rv r, iv num, own_dv (FP.l2d v), .second, iv 1, iv 0, iv 0] [(.int (1 : Int32))]))
    rw [hG]
    exact own_retZ X27 hx hlk (t := .boolean) hret (by simp) (hb hby d3_167) (by rw [e27]; exact ⟨⟨_, rfl⟩, N0, num, m1, m0, v, c1, c0, ⟨E_r, F_numbers_r, F_cosines_r, F_places_r, F_size_r, V_bn, V_bc, Pl, nrn, nrc, nnc, g_r, g_bn, g_bc, Z0⟩, hnum, hv, hm1, hc1, hm0, hc0, Or.inl ⟨(ht10 (hq10.resolve_left c61_11)), rfl, rfl, rfl⟩⟩) (by decide) (by decide)
theorem pn_rmO33 : plainFor (⟨"com/example/thinleaf/thinleaf/prune/Nearest", "offer", "(ID)Z"⟩ : MethodName) = true := by decide +kernel
theorem ef_rmO33 (m : MethodId) (x0 : Addr) (x1 : Int32) (x2 : UInt64) : entryFrame m #[(.ref x0), (.int x1), (.double x2)] 7 = mkF m 0 #[rv x0, iv x1, own_dv x2, .second, .unset, .unset, .unset] [] := by first | (simp [entryFrame, mkF, argsToLocals, Value.category]; done) | rfl
set_option maxRecDepth 65536 in
set_option maxHeartbeats 40000000 in
theorem rmO33 (l : Launch) (Z : State) (a0 : Array Value) (hw : ∀ d ∈ tables_1, d.before a0 Z = true) (r bn bc : Addr) (kn kc : ClassId) (pv : Value) (num : Int32) (v : Int64)(m0 m1 m2 : Int32) (c0 c1 c2 : Int64) (h0 : Heap) (n0 : Nat) (NB : own_NE Z h0 n0 r bn bc kn kc pv (3 : Int32) (3 : Int32) [(.int m0), (.int m1), (.int m2)] [(.double (FP.l2d c0)), (.double (FP.l2d c1)), (.double (FP.l2d c2))]) (hm0 : own_d m0) (hc0 : own_b c0) (hm1 : own_d m1) (hc1 : own_b c1) (hm2 : own_d m2) (hc2 : own_b c2) (hnum : own_d num) (hv : own_b v) :
    own_Met l Z (⟨"com/example/thinleaf/thinleaf/prune/Nearest", "offer", "(ID)Z"⟩ : MethodName) prog_219_method_8_code 7 (some .boolean) [] ({ frames := 2, cells := 0, slots := 0, locals := 36 } : Room) #[(.ref r), (.int num), (.double (FP.l2d v))] h0 (fun z h L => (∃ q : Int32, z = some (.int q)) ∧ Fr n0 L ∧ ∃ (p0 p1 p2 : Int32) (d0 d1 d2 : Int64), own_NE Z h n0 r bn bc kn kc pv (3 : Int32) (3 : Int32) [(.int p0), (.int p1), (.int p2)] [(.double (FP.l2d d0)), (.double (FP.l2d d1)), (.double (FP.l2d d2))] ∧ own_d p0 ∧ own_b d0 ∧ own_d p1 ∧ own_b d1 ∧ own_d p2 ∧ own_b d2 ∧ own_R33 c0 c1 c2 v d0 d1 d2) := by
  refine own_body pn_rmO33 ?_
  intro p e s m below meth c s₁ hx hby hml hown hnm hret hlk hZ X0 e0 G hG
  replace hml : c.maxLocals = 7 := hml
  replace hown : s.vm.findClass "com/example/thinleaf/thinleaf/prune/Nearest" = some m.cls := hown
  rw [ef_rmO33]
  obtain ⟨E_r, F_numbers_r, F_cosines_r, F_places_r, F_size_r, V_bn, V_bc, Pl, nrn, nrc, nnc, g_r, g_bn, g_bc, Z0⟩ := NB
  have N0 := Fr.nil n0
  show own_Go p e below G (s₁.setTop (mkF m 0 #[rv r, iv num, own_dv (FP.l2d v), .second, .unset, .unset, .unset] []))
  refine own_st (fun t k => XS.iconst X0.here hx rfl (hb hby d3_0) k) ?_
  refine own_st (fun t k => XS.istore X0.here hx rfl (hb hby d3_1) rfl (l' := #[rv r, iv num, own_dv (FP.l2d v), .second, iv 1, .unset, .unset]) rfl k) ?_
  refine own_st (fun t k => XS.aloadN X0.here hx rfl (hb hby d3_3) rfl rfl  k) ?_
  show own_Go p e below G (s₁.setTop (mkF m 4 #[rv r, iv num, own_dv (FP.l2d v), .second, iv 1, .unset, .unset] [(.ref r)]))
  obtain ⟨T1, X1, e1, st1⟩ := getF X0 hx hZ hown (host := "") (Or.inl (hw _ (List.mem_of_getElem? (i := 22) rfl))) Via.refl e0 F_size_r (g := (mkF m 4 #[rv r, iv num, own_dv (FP.l2d v), .second, iv 1, .unset, .unset] [(.ref r)])) rfl rfl (hb hby d3_4)
  refine own_st st1 ?_
  show own_Go p e below G (T1.setTop (mkF m 7 #[rv r, iv num, own_dv (FP.l2d v), .second, iv 1, .unset, .unset] [(.int (3 : Int32))]))
  refine own_st (fun t k => XS.aloadN X1.here hx rfl (hb hby d3_7) rfl rfl  k) ?_
  show own_Go p e below G (T1.setTop (mkF m 8 #[rv r, iv num, own_dv (FP.l2d v), .second, iv 1, .unset, .unset] [(.ref r), (.int (3 : Int32))]))
  obtain ⟨T2, X2, e2, st2⟩ := getF X1 hx hZ hown (host := "") (Or.inl (hw _ (List.mem_of_getElem? (i := 10) rfl))) Via.refl e1 F_numbers_r (g := (mkF m 8 #[rv r, iv num, own_dv (FP.l2d v), .second, iv 1, .unset, .unset] [(.ref r), (.int (3 : Int32))])) rfl rfl (hb hby d3_8)
  refine own_st st2 ?_
  show own_Go p e below G (T2.setTop (mkF m 11 #[rv r, iv num, own_dv (FP.l2d v), .second, iv 1, .unset, .unset] [(.ref bn), (.int (3 : Int32))]))
  have Vc3 := V_bn
  obtain ⟨cl3, Ar3, -, Sa3, Na3, -, -⟩ := Vc3
  refine own_st (fun t k => X2.arraylength hx (by rw [e2]; exact Ar3.1) (State.isArrayOf_alike hZ.alike Ar3.2.1) (g := (mkF m 11 #[rv r, iv num, own_dv (FP.l2d v), .second, iv 1, .unset, .unset] [(.ref bn), (.int (3 : Int32))])) rfl rfl (hb hby d3_11) t k) ?_
  rw [len_of Sa3 Na3]
  show own_Go p e below G (T2.setTop (mkF m 12 #[rv r, iv num, own_dv (FP.l2d v), .second, iv 1, .unset, .unset] [(.int (3 : Int32)), (.int (3 : Int32))]))
  refine own_st (fun t k => XS.icmpYes X2.here hx rfl (pc0 := 12) (pc' := 121) rfl (hb hby d3_12) rfl (flt (by decide)).2.1 (by decide) (by decide) k) ?_
  show own_Go p e below G (T2.setTop (mkF m 121 #[rv r, iv num, own_dv (FP.l2d v), .second, iv 1, .unset, .unset] []))
  refine own_st (fun t k => XS.aloadN X2.here hx rfl (hb hby d3_121) rfl rfl  k) ?_
  show own_Go p e below G (T2.setTop (mkF m 122 #[rv r, iv num, own_dv (FP.l2d v), .second, iv 1, .unset, .unset] [(.ref r)]))
  obtain ⟨T4, X4, e4, st4⟩ := getF X2 hx hZ hown (host := "") (Or.inl (hw _ (List.mem_of_getElem? (i := 22) rfl))) Via.refl e2 F_size_r (g := (mkF m 122 #[rv r, iv num, own_dv (FP.l2d v), .second, iv 1, .unset, .unset] [(.ref r)])) rfl rfl (hb hby d3_122)
  refine own_st st4 ?_
  show own_Go p e below G (T4.setTop (mkF m 125 #[rv r, iv num, own_dv (FP.l2d v), .second, iv 1, .unset, .unset] [(.int (3 : Int32))]))
  refine own_st (fun t k => XS.ifNo X4.here hx rfl (hb hby d3_125) rfl ((if0 _ _).trans (tlt (by decide)).2.2.2) k) ?_
  show own_Go p e below G (T4.setTop (mkF m 128 #[rv r, iv num, own_dv (FP.l2d v), .second, iv 1, .unset, .unset] []))
  refine own_st (fun t k => XS.aloadN X4.here hx rfl (hb hby d3_128) rfl rfl  k) ?_
  refine own_st (fun t k => XS.aloadN X4.here hx rfl (hb hby d3_129) rfl rfl  k) ?_
  show own_Go p e below G (T4.setTop (mkF m 130 #[rv r, iv num, own_dv (FP.l2d v), .second, iv 1, .unset, .unset] [(.ref r), (.ref r)]))
  obtain ⟨T5, X5, e5, st5⟩ := getF X4 hx hZ hown (host := "") (Or.inl (hw _ (List.mem_of_getElem? (i := 10) rfl))) Via.refl e4 F_numbers_r (g := (mkF m 130 #[rv r, iv num, own_dv (FP.l2d v), .second, iv 1, .unset, .unset] [(.ref r), (.ref r)])) rfl rfl (hb hby d3_130)
  refine own_st st5 ?_
  show own_Go p e below G (T5.setTop (mkF m 133 #[rv r, iv num, own_dv (FP.l2d v), .second, iv 1, .unset, .unset] [(.ref bn), (.ref r)]))
  refine own_st (fun t k => XS.iconst X5.here hx rfl (hb hby d3_133) k) ?_
  show own_Go p e below G (T5.setTop (mkF m 134 #[rv r, iv num, own_dv (FP.l2d v), .second, iv 1, .unset, .unset] [(.int (0 : Int32)), (.ref bn), (.ref r)]))
  have Vc6 := V_bn
  obtain ⟨cl6, Ar6, -, Sa6, -, Ha6, -⟩ := Vc6
  have hin6 : ¬ ((0 : Int32) < 0 ∨ cl6.slots.size ≤ ((0 : Int32)).toNatClampNeg) := inb_of Sa6 ⟨by decide, by decide⟩
  refine own_st (fun t k => X5.iaload hx (j := (0 : Int32)) (v := (.int m0)) (by rw [e5]; exact Ar6.1) (State.isArrayOf_alike hZ.alike Ar6.2.1) Ar6.2.2 hin6 (Ha6.at hin6 rfl) (g := (mkF m 134 #[rv r, iv num, own_dv (FP.l2d v), .second, iv 1, .unset, .unset] [(.int (0 : Int32)), (.ref bn), (.ref r)])) rfl rfl (hb hby d3_134) t k) ?_
  show own_Go p e below G (T5.setTop (mkF m 135 #[rv r, iv num, own_dv (FP.l2d v), .second, iv 1, .unset, .unset] [(.int m0), (.ref r)]))
  refine own_st (fun t k => XS.aloadN X5.here hx rfl (hb hby d3_135) rfl rfl  k) ?_
  show own_Go p e below G (T5.setTop (mkF m 136 #[rv r, iv num, own_dv (FP.l2d v), .second, iv 1, .unset, .unset] [(.ref r), (.int m0), (.ref r)]))
  obtain ⟨T7, X7, e7, st7⟩ := getF X5 hx hZ hown (host := "") (Or.inl (hw _ (List.mem_of_getElem? (i := 13) rfl))) Via.refl e5 F_cosines_r (g := (mkF m 136 #[rv r, iv num, own_dv (FP.l2d v), .second, iv 1, .unset, .unset] [(.ref r), (.int m0), (.ref r)])) rfl rfl (hb hby d3_136)
  refine own_st st7 ?_
  show own_Go p e below G (T7.setTop (mkF m 139 #[rv r, iv num, own_dv (FP.l2d v), .second, iv 1, .unset, .unset] [(.ref bc), (.int m0), (.ref r)]))
  refine own_st (fun t k => XS.iconst X7.here hx rfl (hb hby d3_139) k) ?_
  show own_Go p e below G (T7.setTop (mkF m 140 #[rv r, iv num, own_dv (FP.l2d v), .second, iv 1, .unset, .unset] [(.int (0 : Int32)), (.ref bc), (.int m0), (.ref r)]))
  have Vc8 := V_bc
  obtain ⟨cl8, Ar8, -, Sa8, -, Ha8, -⟩ := Vc8
  have hin8 : ¬ ((0 : Int32) < 0 ∨ cl8.slots.size ≤ ((0 : Int32)).toNatClampNeg) := inb_of Sa8 ⟨by decide, by decide⟩
  refine own_st (fun t k => X7.daload hx (j := (0 : Int32)) (v := (.double (FP.l2d c0))) (by rw [e7]; exact Ar8.1) (State.isArrayOf_alike hZ.alike Ar8.2.1) Ar8.2.2 hin8 (Ha8.at hin8 rfl) (g := (mkF m 140 #[rv r, iv num, own_dv (FP.l2d v), .second, iv 1, .unset, .unset] [(.int (0 : Int32)), (.ref bc), (.int m0), (.ref r)])) rfl rfl (hb hby d3_140) t k) ?_
  show own_Go p e below G (T7.setTop (mkF m 141 #[rv r, iv num, own_dv (FP.l2d v), .second, iv 1, .unset, .unset] [(.double (FP.l2d c0)), (.int m0), (.ref r)]))
  refine own_st (fun t k => XS.iloadN X7.here hx rfl (hb hby d3_141) rfl  k) ?_
  refine own_st (fun t k => XS.dloadN X7.here hx rfl (hb hby d3_142) rfl  k) ?_
  show own_Go p e below G (T7.setTop (mkF m 143 #[rv r, iv num, own_dv (FP.l2d v), .second, iv 1, .unset, .unset] [(.double (FP.l2d v)), (.int num), (.double (FP.l2d c0)), (.int m0), (.ref r)]))
  obtain ⟨v9, T9, L9, X9, Q9, st9⟩ := own_callP X7 hx hZ (y := (⟨"com/example/thinleaf/thinleaf/prune/Nearest", "below", "(IDID)Z"⟩ : MethodName)) hown (hw _ (List.mem_of_getElem? (i := 31) rfl)) (hw _ (List.mem_of_getElem? (i := 32) rfl)) (hw _ (List.mem_of_getElem? (i := 33) rfl)) (hw _ (List.mem_of_getElem? (i := 2) rfl)) (hw _ (List.mem_of_getElem? (i := 3) rfl)) (hw _ (List.mem_of_getElem? (i := 34) rfl)) (by decide) (W := 0) (rmB l Z a0 hw r m0 c0 num v pv _ h0 F_places_r Pl hc0 hv hm0 hnum) (by decide) (by decide) e7 E_r (g := (mkF m 143 #[rv r, iv num, own_dv (FP.l2d v), .second, iv 1, .unset, .unset] [(.double (FP.l2d v)), (.int num), (.double (FP.l2d c0)), (.int m0), (.ref r)])) rfl (by rw [hml]; rfl) (argsL := [(.int m0), (.double (FP.l2d c0)), (.int num), (.double (FP.l2d v))]) (rest := []) own_pd0 rfl rfl (by show 2 * 0 + _ ≤ _; exact Nat.le_of_eq rfl) (hb hby d3_143) rfl (by decide) (by decide)
  obtain ⟨⟨q9, rfl, hq9, ht9, hf9⟩, rfl, e9⟩ := Q9
  simp only [List.append_nil, Nat.add_zero] at X9
  refine own_st st9 ?_
  show own_Go p e below G (T9.setTop (mkF m 146 #[rv r, iv num, own_dv (FP.l2d v), .second, iv 1, .unset, .unset] [(.int q9)]))
  by_cases c146_10 : q9 = (0 : Int32)
  · skip
    refine own_st (fun t k => XS.ifYes X9.here hx rfl (pc0 := 146) (pc' := 162) rfl (hb hby d3_146) rfl ((if0 _ _).trans (teq c146_10).1) (by decide) (by decide) k) ?_
    show own_Go p e below G (T9.setTop (mkF m 162 #[rv r, iv num, own_dv (FP.l2d v), .second, iv 1, .unset, .unset] []))
    refine own_st (fun t k => XS.iconst X9.here hx rfl (hb hby d3_162) k) ?_
    refine own_st (fun t k => XS.istore X9.here hx rfl (hb hby d3_163) rfl (l' := #[rv r, iv num, own_dv (FP.l2d v), .second, iv 0, .unset, .unset]) rfl k) ?_
    refine own_st (fun t k => XS.iload X9.here hx rfl (hb hby d3_165) rfl  k) ?_
    show own_Go p e below G (T9.setTop (mkF m 167 #[rv r, iv num, own_dv (FP.l2d v), .second, iv 0, .unset, .unset] [(.int (0 : Int32))]))
    rw [hG]
    exact own_retZ X9 hx hlk (t := .boolean) hret (by simp) (hb hby d3_167) (by rw [e9]; exact ⟨⟨_, rfl⟩, N0, m0, m1, m2, c0, c1, c2, ⟨E_r, F_numbers_r, F_cosines_r, F_places_r, F_size_r, V_bn, V_bc, Pl, nrn, nrc, nnc, g_r, g_bn, g_bc, Z0⟩, hm0, hc0, hm1, hc1, hm2, hc2, Or.inl ⟨(hf9 c146_10), rfl, rfl, rfl⟩⟩) (by decide) (by decide)
  · skip
    refine own_st (fun t k => XS.ifNo X9.here hx rfl (hb hby d3_146) rfl ((if0 _ _).trans (feq c146_10).1) k) ?_
    show own_Go p e below G (T9.setTop (mkF m 149 #[rv r, iv num, own_dv (FP.l2d v), .second, iv 1, .unset, .unset] []))
    refine own_st (fun t k => XS.aloadN X9.here hx rfl (hb hby d3_149) rfl rfl  k) ?_
    refine own_st (fun t k => XS.iloadN X9.here hx rfl (hb hby d3_150) rfl  k) ?_
    refine own_st (fun t k => XS.dloadN X9.here hx rfl (hb hby d3_151) rfl  k) ?_
    show own_Go p e below G (T9.setTop (mkF m 152 #[rv r, iv num, own_dv (FP.l2d v), .second, iv 1, .unset, .unset] [(.double (FP.l2d v)), (.int num), (.ref r)]))
    refine own_st (fun t k => XS.aloadN X9.here hx rfl (hb hby d3_152) rfl rfl  k) ?_
    show own_Go p e below G (T9.setTop (mkF m 153 #[rv r, iv num, own_dv (FP.l2d v), .second, iv 1, .unset, .unset] [(.ref r), (.double (FP.l2d v)), (.int num), (.ref r)]))
    obtain ⟨T11, X11, e11, st11⟩ := getF X9 hx hZ hown (host := "") (Or.inl (hw _ (List.mem_of_getElem? (i := 22) rfl))) Via.refl e9 F_size_r (g := (mkF m 153 #[rv r, iv num, own_dv (FP.l2d v), .second, iv 1, .unset, .unset] [(.ref r), (.double (FP.l2d v)), (.int num), (.ref r)])) rfl rfl (hb hby d3_153)
    refine own_st st11 ?_
    show own_Go p e below G (T11.setTop (mkF m 156 #[rv r, iv num, own_dv (FP.l2d v), .second, iv 1, .unset, .unset] [(.int (3 : Int32)), (.double (FP.l2d v)), (.int num), (.ref r)]))
    obtain ⟨v12, T12, L12, X12, Q12, st12⟩ := own_callP X11 hx hZ (y := (⟨"com/example/thinleaf/thinleaf/prune/Nearest", "sink", "(IDI)V"⟩ : MethodName)) hown (hw _ (List.mem_of_getElem? (i := 42) rfl)) (hw _ (List.mem_of_getElem? (i := 43) rfl)) (hw _ (List.mem_of_getElem? (i := 44) rfl)) (hw _ (List.mem_of_getElem? (i := 2) rfl)) (hw _ (List.mem_of_getElem? (i := 3) rfl)) (hw _ (List.mem_of_getElem? (i := 45) rfl)) (by decide) (W := 0) (rmS3 l Z a0 hw r bn bc kn kc pv num v m0 m1 m2 c0 c1 c2 h0 n0 ⟨E_r, F_numbers_r, F_cosines_r, F_places_r, F_size_r, V_bn, V_bc, Pl, nrn, nrc, nnc, g_r, g_bn, g_bc, Z0⟩ hm0 hc0 hm1 hc1 hm2 hc2 hnum hv) (by decide) (by decide) e11 E_r (g := (mkF m 156 #[rv r, iv num, own_dv (FP.l2d v), .second, iv 1, .unset, .unset] [(.int (3 : Int32)), (.double (FP.l2d v)), (.int num), (.ref r)])) rfl (by rw [hml]; rfl) (argsL := [(.int num), (.double (FP.l2d v)), (.int (3 : Int32))]) (rest := []) own_pd1 rfl rfl (by show 2 * 0 + _ ≤ _; exact Nat.le_of_eq rfl) (hb hby d3_156) rfl (by decide) (by decide)
    obtain ⟨rfl, Nq, p0, p1, p2, d0, d1, d2, NB', hp0, hd0, hp1, hd1, hp2, hd2, hS⟩ := Q12
    replace N0 := Fr.app N0 Nq
    refine own_st st12 ?_
    show own_Go p e below G (T12.setTop (mkF m 159 #[rv r, iv num, own_dv (FP.l2d v), .second, iv 1, .unset, .unset] []))
    refine own_st (fun t k => XS.goto X12.here hx rfl (pc0 := 159) (pc' := 165) rfl (hb hby d3_159) (by decide) (by decide) k) ?_
    refine own_st (fun t k => XS.iload X12.here hx rfl (hb hby d3_165) rfl  k) ?_
    show own_Go p e below G (T12.setTop (mkF m 167 #[rv r, iv num, own_dv (FP.l2d v), .second, iv 1, .unset, .unset] [(.int (1 : Int32))]))
    rw [hG]
    exact own_retZ X12 hx hlk (t := .boolean) hret (by simp) (hb hby d3_167) ⟨⟨_, rfl⟩, N0, p0, p1, p2, d0, d1, d2, NB', hp0, hd0, hp1, hd1, hp2, hd2, Or.inr ⟨(ht9 (hq9.resolve_left c146_10)), hS⟩⟩ (by decide) (by decide)
theorem d4_0 : decode prog_219_method_7_code 0 = .ok (.aload_n 0, 1) := by decide +kernel
theorem d4_1 : decode prog_219_method_7_code 1 = .ok (.getfield 23, 3) := by decide +kernel
theorem d4_4 : decode prog_219_method_7_code 4 = .ok (.aload_n 0, 1) := by decide +kernel
theorem d4_5 : decode prog_219_method_7_code 5 = .ok (.getfield 12, 3) := by decide +kernel
theorem d4_8 : decode prog_219_method_7_code 8 = .ok (.arraylength, 1) := by decide +kernel
theorem d4_9 : decode prog_219_method_7_code 9 = .ok (.if_icmp .ge 10, 3) := by decide +kernel
theorem d4_12 : decode prog_219_method_7_code 12 = .ok (.ldc2_w 29, 3) := by decide +kernel
theorem d4_15 : decode prog_219_method_7_code 15 = .ok (.dstore_n 1, 1) := by decide +kernel
theorem d4_16 : decode prog_219_method_7_code 16 = .ok (.goto 24, 3) := by decide +kernel
theorem d4_19 : decode prog_219_method_7_code 19 = .ok (.aload_n 0, 1) := by decide +kernel
theorem d4_20 : decode prog_219_method_7_code 20 = .ok (.getfield 23, 3) := by decide +kernel
theorem d4_23 : decode prog_219_method_7_code 23 = .ok (.ifCond .le 13, 3) := by decide +kernel
theorem d4_26 : decode prog_219_method_7_code 26 = .ok (.aload_n 0, 1) := by decide +kernel
theorem d4_27 : decode prog_219_method_7_code 27 = .ok (.getfield 16, 3) := by decide +kernel
theorem d4_30 : decode prog_219_method_7_code 30 = .ok (.iconst 0, 1) := by decide +kernel
theorem d4_31 : decode prog_219_method_7_code 31 = .ok (.daload, 1) := by decide +kernel
theorem d4_32 : decode prog_219_method_7_code 32 = .ok (.dstore_n 1, 1) := by decide +kernel
theorem d4_33 : decode prog_219_method_7_code 33 = .ok (.goto 7, 3) := by decide +kernel
theorem d4_36 : decode prog_219_method_7_code 36 = .ok (.ldc2_w 31, 3) := by decide +kernel
theorem d4_39 : decode prog_219_method_7_code 39 = .ok (.dstore_n 1, 1) := by decide +kernel
theorem d4_40 : decode prog_219_method_7_code 40 = .ok (.dload_n 1, 1) := by decide +kernel
theorem d4_41 : decode prog_219_method_7_code 41 = .ok (.dreturn, 1) := by decide +kernel
theorem pn_rmL00 : plainFor (⟨"com/example/thinleaf/thinleaf/prune/Nearest", "least", "()D"⟩ : MethodName) = true := by decide +kernel
theorem ef_rmL00 (m : MethodId) (x0 : Addr) : entryFrame m #[(.ref x0)] 3 = mkF m 0 #[rv x0, .unset, .unset] [] := by first | (simp [entryFrame, mkF, argsToLocals, Value.category]; done) | rfl
set_option maxRecDepth 65536 in
set_option maxHeartbeats 40000000 in
theorem rmL00 (l : Launch) (Z : State) (a0 : Array Value) (hw : ∀ d ∈ tables_1, d.before a0 Z = true) (r bn bc : Addr) (kn kc : ClassId) (pv : Value)  (h0 : Heap) (n0 : Nat) (NB : own_NE Z h0 n0 r bn bc kn kc pv (0 : Int32) (0 : Int32) [] []) :
    own_Met l Z (⟨"com/example/thinleaf/thinleaf/prune/Nearest", "least", "()D"⟩ : MethodName) prog_219_method_7_code 3 (some .double) [] ({ frames := 0, cells := 0, slots := 0, locals := 0 } : Room) #[(.ref r)] h0 (fun v h L => v = some (.double (9218868437227405312 : UInt64)) ∧ L = [] ∧ h = h0) := by
  refine own_body pn_rmL00 ?_
  intro p e s m below meth c s₁ hx hby hml hown hnm hret hlk hZ X0 e0 G hG
  replace hml : c.maxLocals = 3 := hml
  replace hown : s.vm.findClass "com/example/thinleaf/thinleaf/prune/Nearest" = some m.cls := hown
  rw [ef_rmL00]
  obtain ⟨E_r, F_numbers_r, F_cosines_r, F_places_r, F_size_r, V_bn, V_bc, Pl, nrn, nrc, nnc, g_r, g_bn, g_bc, Z0⟩ := NB
  show own_Go p e below G (s₁.setTop (mkF m 0 #[rv r, .unset, .unset] []))
  refine own_st (fun t k => XS.aloadN X0.here hx rfl (hb hby d4_0) rfl rfl  k) ?_
  show own_Go p e below G (s₁.setTop (mkF m 1 #[rv r, .unset, .unset] [(.ref r)]))
  obtain ⟨T1, X1, e1, st1⟩ := getF X0 hx hZ hown (host := "") (Or.inl (hw _ (List.mem_of_getElem? (i := 22) rfl))) Via.refl e0 F_size_r (g := (mkF m 1 #[rv r, .unset, .unset] [(.ref r)])) rfl rfl (hb hby d4_1)
  refine own_st st1 ?_
  show own_Go p e below G (T1.setTop (mkF m 4 #[rv r, .unset, .unset] [(.int (0 : Int32))]))
  refine own_st (fun t k => XS.aloadN X1.here hx rfl (hb hby d4_4) rfl rfl  k) ?_
  show own_Go p e below G (T1.setTop (mkF m 5 #[rv r, .unset, .unset] [(.ref r), (.int (0 : Int32))]))
  obtain ⟨T2, X2, e2, st2⟩ := getF X1 hx hZ hown (host := "") (Or.inl (hw _ (List.mem_of_getElem? (i := 10) rfl))) Via.refl e1 F_numbers_r (g := (mkF m 5 #[rv r, .unset, .unset] [(.ref r), (.int (0 : Int32))])) rfl rfl (hb hby d4_5)
  refine own_st st2 ?_
  show own_Go p e below G (T2.setTop (mkF m 8 #[rv r, .unset, .unset] [(.ref bn), (.int (0 : Int32))]))
  have Vc3 := V_bn
  obtain ⟨cl3, Ar3, -, Sa3, Na3, -, -⟩ := Vc3
  refine own_st (fun t k => X2.arraylength hx (by rw [e2]; exact Ar3.1) (State.isArrayOf_alike hZ.alike Ar3.2.1) (g := (mkF m 8 #[rv r, .unset, .unset] [(.ref bn), (.int (0 : Int32))])) rfl rfl (hb hby d4_8) t k) ?_
  rw [len_of Sa3 Na3]
  show own_Go p e below G (T2.setTop (mkF m 9 #[rv r, .unset, .unset] [(.int (0 : Int32)), (.int (0 : Int32))]))
  refine own_st (fun t k => XS.icmpYes X2.here hx rfl (pc0 := 9) (pc' := 19) rfl (hb hby d4_9) rfl (flt (by decide)).2.1 (by decide) (by decide) k) ?_
  show own_Go p e below G (T2.setTop (mkF m 19 #[rv r, .unset, .unset] []))
  refine own_st (fun t k => XS.aloadN X2.here hx rfl (hb hby d4_19) rfl rfl  k) ?_
  show own_Go p e below G (T2.setTop (mkF m 20 #[rv r, .unset, .unset] [(.ref r)]))
  obtain ⟨T4, X4, e4, st4⟩ := getF X2 hx hZ hown (host := "") (Or.inl (hw _ (List.mem_of_getElem? (i := 22) rfl))) Via.refl e2 F_size_r (g := (mkF m 20 #[rv r, .unset, .unset] [(.ref r)])) rfl rfl (hb hby d4_20)
  refine own_st st4 ?_
  show own_Go p e below G (T4.setTop (mkF m 23 #[rv r, .unset, .unset] [(.int (0 : Int32))]))
  refine own_st (fun t k => XS.ifYes X4.here hx rfl (pc0 := 23) (pc' := 36) rfl (hb hby d4_23) rfl ((if0 _ _).trans (flt (by decide)).2.2.2) (by decide) (by decide) k) ?_
  show own_Go p e below G (T4.setTop (mkF m 36 #[rv r, .unset, .unset] []))
  refine own_st (fun t k => X4.ldc2DoubleC hx hown (mvT hZ (hw _ (List.mem_of_getElem? (i := 24) rfl))) (g := (mkF m 36 #[rv r, .unset, .unset] [])) rfl (hb hby d4_36) t k) ?_
  show own_Go p e below G (T4.setTop (mkF m 39 #[rv r, .unset, .unset] [(.double (9218868437227405312 : UInt64))]))
  refine own_st (fun t k => XS.dstoreN X4.here hx rfl (hb hby d4_39) rfl (l' := #[rv r, own_dv (9218868437227405312 : UInt64), .second]) rfl k) ?_
  show own_Go p e below G (T4.setTop (mkF m 40 #[rv r, own_dv (9218868437227405312 : UInt64), .second] []))
  refine own_st (fun t k => XS.dloadN X4.here hx rfl (hb hby d4_40) rfl  k) ?_
  show own_Go p e below G (T4.setTop (mkF m 41 #[rv r, own_dv (9218868437227405312 : UInt64), .second] [(.double (9218868437227405312 : UInt64))]))
  rw [hG]
  exact own_retD X4 hx hlk hret (hb hby d4_41) ⟨rfl, rfl, e4⟩ (by decide) (by decide)
theorem pn_rmL10 : plainFor (⟨"com/example/thinleaf/thinleaf/prune/Nearest", "least", "()D"⟩ : MethodName) = true := by decide +kernel
theorem ef_rmL10 (m : MethodId) (x0 : Addr) : entryFrame m #[(.ref x0)] 3 = mkF m 0 #[rv x0, .unset, .unset] [] := by first | (simp [entryFrame, mkF, argsToLocals, Value.category]; done) | rfl
set_option maxRecDepth 65536 in
set_option maxHeartbeats 40000000 in
theorem rmL10 (l : Launch) (Z : State) (a0 : Array Value) (hw : ∀ d ∈ tables_1, d.before a0 Z = true) (r bn bc : Addr) (kn kc : ClassId) (pv : Value)  (h0 : Heap) (n0 : Nat) (NB : own_NE Z h0 n0 r bn bc kn kc pv (1 : Int32) (0 : Int32) [(.int (0 : Int32))] [(.double (0 : UInt64))]) :
    own_Met l Z (⟨"com/example/thinleaf/thinleaf/prune/Nearest", "least", "()D"⟩ : MethodName) prog_219_method_7_code 3 (some .double) [] ({ frames := 0, cells := 0, slots := 0, locals := 0 } : Room) #[(.ref r)] h0 (fun v h L => v = some (.double (18442240474082181120 : UInt64)) ∧ L = [] ∧ h = h0) := by
  refine own_body pn_rmL10 ?_
  intro p e s m below meth c s₁ hx hby hml hown hnm hret hlk hZ X0 e0 G hG
  replace hml : c.maxLocals = 3 := hml
  replace hown : s.vm.findClass "com/example/thinleaf/thinleaf/prune/Nearest" = some m.cls := hown
  rw [ef_rmL10]
  obtain ⟨E_r, F_numbers_r, F_cosines_r, F_places_r, F_size_r, V_bn, V_bc, Pl, nrn, nrc, nnc, g_r, g_bn, g_bc, Z0⟩ := NB
  show own_Go p e below G (s₁.setTop (mkF m 0 #[rv r, .unset, .unset] []))
  refine own_st (fun t k => XS.aloadN X0.here hx rfl (hb hby d4_0) rfl rfl  k) ?_
  show own_Go p e below G (s₁.setTop (mkF m 1 #[rv r, .unset, .unset] [(.ref r)]))
  obtain ⟨T1, X1, e1, st1⟩ := getF X0 hx hZ hown (host := "") (Or.inl (hw _ (List.mem_of_getElem? (i := 22) rfl))) Via.refl e0 F_size_r (g := (mkF m 1 #[rv r, .unset, .unset] [(.ref r)])) rfl rfl (hb hby d4_1)
  refine own_st st1 ?_
  show own_Go p e below G (T1.setTop (mkF m 4 #[rv r, .unset, .unset] [(.int (0 : Int32))]))
  refine own_st (fun t k => XS.aloadN X1.here hx rfl (hb hby d4_4) rfl rfl  k) ?_
  show own_Go p e below G (T1.setTop (mkF m 5 #[rv r, .unset, .unset] [(.ref r), (.int (0 : Int32))]))
  obtain ⟨T2, X2, e2, st2⟩ := getF X1 hx hZ hown (host := "") (Or.inl (hw _ (List.mem_of_getElem? (i := 10) rfl))) Via.refl e1 F_numbers_r (g := (mkF m 5 #[rv r, .unset, .unset] [(.ref r), (.int (0 : Int32))])) rfl rfl (hb hby d4_5)
  refine own_st st2 ?_
  show own_Go p e below G (T2.setTop (mkF m 8 #[rv r, .unset, .unset] [(.ref bn), (.int (0 : Int32))]))
  have Vc3 := V_bn
  obtain ⟨cl3, Ar3, -, Sa3, Na3, -, -⟩ := Vc3
  refine own_st (fun t k => X2.arraylength hx (by rw [e2]; exact Ar3.1) (State.isArrayOf_alike hZ.alike Ar3.2.1) (g := (mkF m 8 #[rv r, .unset, .unset] [(.ref bn), (.int (0 : Int32))])) rfl rfl (hb hby d4_8) t k) ?_
  rw [len_of Sa3 Na3]
  show own_Go p e below G (T2.setTop (mkF m 9 #[rv r, .unset, .unset] [(.int (1 : Int32)), (.int (0 : Int32))]))
  refine own_st (fun t k => XS.icmpNo X2.here hx rfl (hb hby d4_9) rfl (tlt (by decide)).2.1 k) ?_
  show own_Go p e below G (T2.setTop (mkF m 12 #[rv r, .unset, .unset] []))
  refine own_st (fun t k => X2.ldc2DoubleC hx hown (mvT hZ (hw _ (List.mem_of_getElem? (i := 40) rfl))) (g := (mkF m 12 #[rv r, .unset, .unset] [])) rfl (hb hby d4_12) t k) ?_
  show own_Go p e below G (T2.setTop (mkF m 15 #[rv r, .unset, .unset] [(.double (18442240474082181120 : UInt64))]))
  refine own_st (fun t k => XS.dstoreN X2.here hx rfl (hb hby d4_15) rfl (l' := #[rv r, own_dv (18442240474082181120 : UInt64), .second]) rfl k) ?_
  show own_Go p e below G (T2.setTop (mkF m 16 #[rv r, own_dv (18442240474082181120 : UInt64), .second] []))
  refine own_st (fun t k => XS.goto X2.here hx rfl (pc0 := 16) (pc' := 40) rfl (hb hby d4_16) (by decide) (by decide) k) ?_
  show own_Go p e below G (T2.setTop (mkF m 40 #[rv r, own_dv (18442240474082181120 : UInt64), .second] []))
  refine own_st (fun t k => XS.dloadN X2.here hx rfl (hb hby d4_40) rfl  k) ?_
  show own_Go p e below G (T2.setTop (mkF m 41 #[rv r, own_dv (18442240474082181120 : UInt64), .second] [(.double (18442240474082181120 : UInt64))]))
  rw [hG]
  exact own_retD X2 hx hlk hret (hb hby d4_41) ⟨rfl, rfl, e2⟩ (by decide) (by decide)
theorem pn_rmL11 : plainFor (⟨"com/example/thinleaf/thinleaf/prune/Nearest", "least", "()D"⟩ : MethodName) = true := by decide +kernel
theorem ef_rmL11 (m : MethodId) (x0 : Addr) : entryFrame m #[(.ref x0)] 3 = mkF m 0 #[rv x0, .unset, .unset] [] := by first | (simp [entryFrame, mkF, argsToLocals, Value.category]; done) | rfl
set_option maxRecDepth 65536 in
set_option maxHeartbeats 40000000 in
theorem rmL11 (l : Launch) (Z : State) (a0 : Array Value) (hw : ∀ d ∈ tables_1, d.before a0 Z = true) (r bn bc : Addr) (kn kc : ClassId) (pv : Value) (m0 : Int32) (c0 : Int64) (h0 : Heap) (n0 : Nat) (NB : own_NE Z h0 n0 r bn bc kn kc pv (1 : Int32) (1 : Int32) [(.int m0)] [(.double (FP.l2d c0))]) :
    own_Met l Z (⟨"com/example/thinleaf/thinleaf/prune/Nearest", "least", "()D"⟩ : MethodName) prog_219_method_7_code 3 (some .double) [] ({ frames := 0, cells := 0, slots := 0, locals := 0 } : Room) #[(.ref r)] h0 (fun v h L => v = some (.double (FP.l2d c0)) ∧ L = [] ∧ h = h0) := by
  refine own_body pn_rmL11 ?_
  intro p e s m below meth c s₁ hx hby hml hown hnm hret hlk hZ X0 e0 G hG
  replace hml : c.maxLocals = 3 := hml
  replace hown : s.vm.findClass "com/example/thinleaf/thinleaf/prune/Nearest" = some m.cls := hown
  rw [ef_rmL11]
  obtain ⟨E_r, F_numbers_r, F_cosines_r, F_places_r, F_size_r, V_bn, V_bc, Pl, nrn, nrc, nnc, g_r, g_bn, g_bc, Z0⟩ := NB
  show own_Go p e below G (s₁.setTop (mkF m 0 #[rv r, .unset, .unset] []))
  refine own_st (fun t k => XS.aloadN X0.here hx rfl (hb hby d4_0) rfl rfl  k) ?_
  show own_Go p e below G (s₁.setTop (mkF m 1 #[rv r, .unset, .unset] [(.ref r)]))
  obtain ⟨T1, X1, e1, st1⟩ := getF X0 hx hZ hown (host := "") (Or.inl (hw _ (List.mem_of_getElem? (i := 22) rfl))) Via.refl e0 F_size_r (g := (mkF m 1 #[rv r, .unset, .unset] [(.ref r)])) rfl rfl (hb hby d4_1)
  refine own_st st1 ?_
  show own_Go p e below G (T1.setTop (mkF m 4 #[rv r, .unset, .unset] [(.int (1 : Int32))]))
  refine own_st (fun t k => XS.aloadN X1.here hx rfl (hb hby d4_4) rfl rfl  k) ?_
  show own_Go p e below G (T1.setTop (mkF m 5 #[rv r, .unset, .unset] [(.ref r), (.int (1 : Int32))]))
  obtain ⟨T2, X2, e2, st2⟩ := getF X1 hx hZ hown (host := "") (Or.inl (hw _ (List.mem_of_getElem? (i := 10) rfl))) Via.refl e1 F_numbers_r (g := (mkF m 5 #[rv r, .unset, .unset] [(.ref r), (.int (1 : Int32))])) rfl rfl (hb hby d4_5)
  refine own_st st2 ?_
  show own_Go p e below G (T2.setTop (mkF m 8 #[rv r, .unset, .unset] [(.ref bn), (.int (1 : Int32))]))
  have Vc3 := V_bn
  obtain ⟨cl3, Ar3, -, Sa3, Na3, -, -⟩ := Vc3
  refine own_st (fun t k => X2.arraylength hx (by rw [e2]; exact Ar3.1) (State.isArrayOf_alike hZ.alike Ar3.2.1) (g := (mkF m 8 #[rv r, .unset, .unset] [(.ref bn), (.int (1 : Int32))])) rfl rfl (hb hby d4_8) t k) ?_
  rw [len_of Sa3 Na3]
  show own_Go p e below G (T2.setTop (mkF m 9 #[rv r, .unset, .unset] [(.int (1 : Int32)), (.int (1 : Int32))]))
  refine own_st (fun t k => XS.icmpYes X2.here hx rfl (pc0 := 9) (pc' := 19) rfl (hb hby d4_9) rfl (flt (by decide)).2.1 (by decide) (by decide) k) ?_
  show own_Go p e below G (T2.setTop (mkF m 19 #[rv r, .unset, .unset] []))
  refine own_st (fun t k => XS.aloadN X2.here hx rfl (hb hby d4_19) rfl rfl  k) ?_
  show own_Go p e below G (T2.setTop (mkF m 20 #[rv r, .unset, .unset] [(.ref r)]))
  obtain ⟨T4, X4, e4, st4⟩ := getF X2 hx hZ hown (host := "") (Or.inl (hw _ (List.mem_of_getElem? (i := 22) rfl))) Via.refl e2 F_size_r (g := (mkF m 20 #[rv r, .unset, .unset] [(.ref r)])) rfl rfl (hb hby d4_20)
  refine own_st st4 ?_
  show own_Go p e below G (T4.setTop (mkF m 23 #[rv r, .unset, .unset] [(.int (1 : Int32))]))
  refine own_st (fun t k => XS.ifNo X4.here hx rfl (hb hby d4_23) rfl ((if0 _ _).trans (tlt (by decide)).2.2.2) k) ?_
  show own_Go p e below G (T4.setTop (mkF m 26 #[rv r, .unset, .unset] []))
  refine own_st (fun t k => XS.aloadN X4.here hx rfl (hb hby d4_26) rfl rfl  k) ?_
  show own_Go p e below G (T4.setTop (mkF m 27 #[rv r, .unset, .unset] [(.ref r)]))
  obtain ⟨T5, X5, e5, st5⟩ := getF X4 hx hZ hown (host := "") (Or.inl (hw _ (List.mem_of_getElem? (i := 13) rfl))) Via.refl e4 F_cosines_r (g := (mkF m 27 #[rv r, .unset, .unset] [(.ref r)])) rfl rfl (hb hby d4_27)
  refine own_st st5 ?_
  show own_Go p e below G (T5.setTop (mkF m 30 #[rv r, .unset, .unset] [(.ref bc)]))
  refine own_st (fun t k => XS.iconst X5.here hx rfl (hb hby d4_30) k) ?_
  show own_Go p e below G (T5.setTop (mkF m 31 #[rv r, .unset, .unset] [(.int (0 : Int32)), (.ref bc)]))
  have Vc6 := V_bc
  obtain ⟨cl6, Ar6, -, Sa6, -, Ha6, -⟩ := Vc6
  have hin6 : ¬ ((0 : Int32) < 0 ∨ cl6.slots.size ≤ ((0 : Int32)).toNatClampNeg) := inb_of Sa6 ⟨by decide, by decide⟩
  refine own_st (fun t k => X5.daload hx (j := (0 : Int32)) (v := (.double (FP.l2d c0))) (by rw [e5]; exact Ar6.1) (State.isArrayOf_alike hZ.alike Ar6.2.1) Ar6.2.2 hin6 (Ha6.at hin6 rfl) (g := (mkF m 31 #[rv r, .unset, .unset] [(.int (0 : Int32)), (.ref bc)])) rfl rfl (hb hby d4_31) t k) ?_
  show own_Go p e below G (T5.setTop (mkF m 32 #[rv r, .unset, .unset] [(.double (FP.l2d c0))]))
  refine own_st (fun t k => XS.dstoreN X5.here hx rfl (hb hby d4_32) rfl (l' := #[rv r, own_dv (FP.l2d c0), .second]) rfl k) ?_
  show own_Go p e below G (T5.setTop (mkF m 33 #[rv r, own_dv (FP.l2d c0), .second] []))
  refine own_st (fun t k => XS.goto X5.here hx rfl (pc0 := 33) (pc' := 40) rfl (hb hby d4_33) (by decide) (by decide) k) ?_
  show own_Go p e below G (T5.setTop (mkF m 40 #[rv r, own_dv (FP.l2d c0), .second] []))
  refine own_st (fun t k => XS.dloadN X5.here hx rfl (hb hby d4_40) rfl  k) ?_
  show own_Go p e below G (T5.setTop (mkF m 41 #[rv r, own_dv (FP.l2d c0), .second] [(.double (FP.l2d c0))]))
  rw [hG]
  exact own_retD X5 hx hlk hret (hb hby d4_41) ⟨rfl, rfl, e5⟩ (by decide) (by decide)
theorem pn_rmL20 : plainFor (⟨"com/example/thinleaf/thinleaf/prune/Nearest", "least", "()D"⟩ : MethodName) = true := by decide +kernel
theorem ef_rmL20 (m : MethodId) (x0 : Addr) : entryFrame m #[(.ref x0)] 3 = mkF m 0 #[rv x0, .unset, .unset] [] := by first | (simp [entryFrame, mkF, argsToLocals, Value.category]; done) | rfl
set_option maxRecDepth 65536 in
set_option maxHeartbeats 40000000 in
theorem rmL20 (l : Launch) (Z : State) (a0 : Array Value) (hw : ∀ d ∈ tables_1, d.before a0 Z = true) (r bn bc : Addr) (kn kc : ClassId) (pv : Value)  (h0 : Heap) (n0 : Nat) (NB : own_NE Z h0 n0 r bn bc kn kc pv (2 : Int32) (0 : Int32) [(.int (0 : Int32)), (.int (0 : Int32))] [(.double (0 : UInt64)), (.double (0 : UInt64))]) :
    own_Met l Z (⟨"com/example/thinleaf/thinleaf/prune/Nearest", "least", "()D"⟩ : MethodName) prog_219_method_7_code 3 (some .double) [] ({ frames := 0, cells := 0, slots := 0, locals := 0 } : Room) #[(.ref r)] h0 (fun v h L => v = some (.double (18442240474082181120 : UInt64)) ∧ L = [] ∧ h = h0) := by
  refine own_body pn_rmL20 ?_
  intro p e s m below meth c s₁ hx hby hml hown hnm hret hlk hZ X0 e0 G hG
  replace hml : c.maxLocals = 3 := hml
  replace hown : s.vm.findClass "com/example/thinleaf/thinleaf/prune/Nearest" = some m.cls := hown
  rw [ef_rmL20]
  obtain ⟨E_r, F_numbers_r, F_cosines_r, F_places_r, F_size_r, V_bn, V_bc, Pl, nrn, nrc, nnc, g_r, g_bn, g_bc, Z0⟩ := NB
  show own_Go p e below G (s₁.setTop (mkF m 0 #[rv r, .unset, .unset] []))
  refine own_st (fun t k => XS.aloadN X0.here hx rfl (hb hby d4_0) rfl rfl  k) ?_
  show own_Go p e below G (s₁.setTop (mkF m 1 #[rv r, .unset, .unset] [(.ref r)]))
  obtain ⟨T1, X1, e1, st1⟩ := getF X0 hx hZ hown (host := "") (Or.inl (hw _ (List.mem_of_getElem? (i := 22) rfl))) Via.refl e0 F_size_r (g := (mkF m 1 #[rv r, .unset, .unset] [(.ref r)])) rfl rfl (hb hby d4_1)
  refine own_st st1 ?_
  show own_Go p e below G (T1.setTop (mkF m 4 #[rv r, .unset, .unset] [(.int (0 : Int32))]))
  refine own_st (fun t k => XS.aloadN X1.here hx rfl (hb hby d4_4) rfl rfl  k) ?_
  show own_Go p e below G (T1.setTop (mkF m 5 #[rv r, .unset, .unset] [(.ref r), (.int (0 : Int32))]))
  obtain ⟨T2, X2, e2, st2⟩ := getF X1 hx hZ hown (host := "") (Or.inl (hw _ (List.mem_of_getElem? (i := 10) rfl))) Via.refl e1 F_numbers_r (g := (mkF m 5 #[rv r, .unset, .unset] [(.ref r), (.int (0 : Int32))])) rfl rfl (hb hby d4_5)
  refine own_st st2 ?_
  show own_Go p e below G (T2.setTop (mkF m 8 #[rv r, .unset, .unset] [(.ref bn), (.int (0 : Int32))]))
  have Vc3 := V_bn
  obtain ⟨cl3, Ar3, -, Sa3, Na3, -, -⟩ := Vc3
  refine own_st (fun t k => X2.arraylength hx (by rw [e2]; exact Ar3.1) (State.isArrayOf_alike hZ.alike Ar3.2.1) (g := (mkF m 8 #[rv r, .unset, .unset] [(.ref bn), (.int (0 : Int32))])) rfl rfl (hb hby d4_8) t k) ?_
  rw [len_of Sa3 Na3]
  show own_Go p e below G (T2.setTop (mkF m 9 #[rv r, .unset, .unset] [(.int (2 : Int32)), (.int (0 : Int32))]))
  refine own_st (fun t k => XS.icmpNo X2.here hx rfl (hb hby d4_9) rfl (tlt (by decide)).2.1 k) ?_
  show own_Go p e below G (T2.setTop (mkF m 12 #[rv r, .unset, .unset] []))
  refine own_st (fun t k => X2.ldc2DoubleC hx hown (mvT hZ (hw _ (List.mem_of_getElem? (i := 40) rfl))) (g := (mkF m 12 #[rv r, .unset, .unset] [])) rfl (hb hby d4_12) t k) ?_
  show own_Go p e below G (T2.setTop (mkF m 15 #[rv r, .unset, .unset] [(.double (18442240474082181120 : UInt64))]))
  refine own_st (fun t k => XS.dstoreN X2.here hx rfl (hb hby d4_15) rfl (l' := #[rv r, own_dv (18442240474082181120 : UInt64), .second]) rfl k) ?_
  show own_Go p e below G (T2.setTop (mkF m 16 #[rv r, own_dv (18442240474082181120 : UInt64), .second] []))
  refine own_st (fun t k => XS.goto X2.here hx rfl (pc0 := 16) (pc' := 40) rfl (hb hby d4_16) (by decide) (by decide) k) ?_
  show own_Go p e below G (T2.setTop (mkF m 40 #[rv r, own_dv (18442240474082181120 : UInt64), .second] []))
  refine own_st (fun t k => XS.dloadN X2.here hx rfl (hb hby d4_40) rfl  k) ?_
  show own_Go p e below G (T2.setTop (mkF m 41 #[rv r, own_dv (18442240474082181120 : UInt64), .second] [(.double (18442240474082181120 : UInt64))]))
  rw [hG]
  exact own_retD X2 hx hlk hret (hb hby d4_41) ⟨rfl, rfl, e2⟩ (by decide) (by decide)
theorem pn_rmL21 : plainFor (⟨"com/example/thinleaf/thinleaf/prune/Nearest", "least", "()D"⟩ : MethodName) = true := by decide +kernel
theorem ef_rmL21 (m : MethodId) (x0 : Addr) : entryFrame m #[(.ref x0)] 3 = mkF m 0 #[rv x0, .unset, .unset] [] := by first | (simp [entryFrame, mkF, argsToLocals, Value.category]; done) | rfl
set_option maxRecDepth 65536 in
set_option maxHeartbeats 40000000 in
theorem rmL21 (l : Launch) (Z : State) (a0 : Array Value) (hw : ∀ d ∈ tables_1, d.before a0 Z = true) (r bn bc : Addr) (kn kc : ClassId) (pv : Value) (m0 : Int32) (c0 : Int64) (h0 : Heap) (n0 : Nat) (NB : own_NE Z h0 n0 r bn bc kn kc pv (2 : Int32) (1 : Int32) [(.int m0), (.int (0 : Int32))] [(.double (FP.l2d c0)), (.double (0 : UInt64))]) :
    own_Met l Z (⟨"com/example/thinleaf/thinleaf/prune/Nearest", "least", "()D"⟩ : MethodName) prog_219_method_7_code 3 (some .double) [] ({ frames := 0, cells := 0, slots := 0, locals := 0 } : Room) #[(.ref r)] h0 (fun v h L => v = some (.double (18442240474082181120 : UInt64)) ∧ L = [] ∧ h = h0) := by
  refine own_body pn_rmL21 ?_
  intro p e s m below meth c s₁ hx hby hml hown hnm hret hlk hZ X0 e0 G hG
  replace hml : c.maxLocals = 3 := hml
  replace hown : s.vm.findClass "com/example/thinleaf/thinleaf/prune/Nearest" = some m.cls := hown
  rw [ef_rmL21]
  obtain ⟨E_r, F_numbers_r, F_cosines_r, F_places_r, F_size_r, V_bn, V_bc, Pl, nrn, nrc, nnc, g_r, g_bn, g_bc, Z0⟩ := NB
  show own_Go p e below G (s₁.setTop (mkF m 0 #[rv r, .unset, .unset] []))
  refine own_st (fun t k => XS.aloadN X0.here hx rfl (hb hby d4_0) rfl rfl  k) ?_
  show own_Go p e below G (s₁.setTop (mkF m 1 #[rv r, .unset, .unset] [(.ref r)]))
  obtain ⟨T1, X1, e1, st1⟩ := getF X0 hx hZ hown (host := "") (Or.inl (hw _ (List.mem_of_getElem? (i := 22) rfl))) Via.refl e0 F_size_r (g := (mkF m 1 #[rv r, .unset, .unset] [(.ref r)])) rfl rfl (hb hby d4_1)
  refine own_st st1 ?_
  show own_Go p e below G (T1.setTop (mkF m 4 #[rv r, .unset, .unset] [(.int (1 : Int32))]))
  refine own_st (fun t k => XS.aloadN X1.here hx rfl (hb hby d4_4) rfl rfl  k) ?_
  show own_Go p e below G (T1.setTop (mkF m 5 #[rv r, .unset, .unset] [(.ref r), (.int (1 : Int32))]))
  obtain ⟨T2, X2, e2, st2⟩ := getF X1 hx hZ hown (host := "") (Or.inl (hw _ (List.mem_of_getElem? (i := 10) rfl))) Via.refl e1 F_numbers_r (g := (mkF m 5 #[rv r, .unset, .unset] [(.ref r), (.int (1 : Int32))])) rfl rfl (hb hby d4_5)
  refine own_st st2 ?_
  show own_Go p e below G (T2.setTop (mkF m 8 #[rv r, .unset, .unset] [(.ref bn), (.int (1 : Int32))]))
  have Vc3 := V_bn
  obtain ⟨cl3, Ar3, -, Sa3, Na3, -, -⟩ := Vc3
  refine own_st (fun t k => X2.arraylength hx (by rw [e2]; exact Ar3.1) (State.isArrayOf_alike hZ.alike Ar3.2.1) (g := (mkF m 8 #[rv r, .unset, .unset] [(.ref bn), (.int (1 : Int32))])) rfl rfl (hb hby d4_8) t k) ?_
  rw [len_of Sa3 Na3]
  show own_Go p e below G (T2.setTop (mkF m 9 #[rv r, .unset, .unset] [(.int (2 : Int32)), (.int (1 : Int32))]))
  refine own_st (fun t k => XS.icmpNo X2.here hx rfl (hb hby d4_9) rfl (tlt (by decide)).2.1 k) ?_
  show own_Go p e below G (T2.setTop (mkF m 12 #[rv r, .unset, .unset] []))
  refine own_st (fun t k => X2.ldc2DoubleC hx hown (mvT hZ (hw _ (List.mem_of_getElem? (i := 40) rfl))) (g := (mkF m 12 #[rv r, .unset, .unset] [])) rfl (hb hby d4_12) t k) ?_
  show own_Go p e below G (T2.setTop (mkF m 15 #[rv r, .unset, .unset] [(.double (18442240474082181120 : UInt64))]))
  refine own_st (fun t k => XS.dstoreN X2.here hx rfl (hb hby d4_15) rfl (l' := #[rv r, own_dv (18442240474082181120 : UInt64), .second]) rfl k) ?_
  show own_Go p e below G (T2.setTop (mkF m 16 #[rv r, own_dv (18442240474082181120 : UInt64), .second] []))
  refine own_st (fun t k => XS.goto X2.here hx rfl (pc0 := 16) (pc' := 40) rfl (hb hby d4_16) (by decide) (by decide) k) ?_
  show own_Go p e below G (T2.setTop (mkF m 40 #[rv r, own_dv (18442240474082181120 : UInt64), .second] []))
  refine own_st (fun t k => XS.dloadN X2.here hx rfl (hb hby d4_40) rfl  k) ?_
  show own_Go p e below G (T2.setTop (mkF m 41 #[rv r, own_dv (18442240474082181120 : UInt64), .second] [(.double (18442240474082181120 : UInt64))]))
  rw [hG]
  exact own_retD X2 hx hlk hret (hb hby d4_41) ⟨rfl, rfl, e2⟩ (by decide) (by decide)
theorem pn_rmL22 : plainFor (⟨"com/example/thinleaf/thinleaf/prune/Nearest", "least", "()D"⟩ : MethodName) = true := by decide +kernel
theorem ef_rmL22 (m : MethodId) (x0 : Addr) : entryFrame m #[(.ref x0)] 3 = mkF m 0 #[rv x0, .unset, .unset] [] := by first | (simp [entryFrame, mkF, argsToLocals, Value.category]; done) | rfl
set_option maxRecDepth 65536 in
set_option maxHeartbeats 40000000 in
theorem rmL22 (l : Launch) (Z : State) (a0 : Array Value) (hw : ∀ d ∈ tables_1, d.before a0 Z = true) (r bn bc : Addr) (kn kc : ClassId) (pv : Value) (m0 m1 : Int32) (c0 c1 : Int64) (h0 : Heap) (n0 : Nat) (NB : own_NE Z h0 n0 r bn bc kn kc pv (2 : Int32) (2 : Int32) [(.int m0), (.int m1)] [(.double (FP.l2d c0)), (.double (FP.l2d c1))]) :
    own_Met l Z (⟨"com/example/thinleaf/thinleaf/prune/Nearest", "least", "()D"⟩ : MethodName) prog_219_method_7_code 3 (some .double) [] ({ frames := 0, cells := 0, slots := 0, locals := 0 } : Room) #[(.ref r)] h0 (fun v h L => v = some (.double (FP.l2d c0)) ∧ L = [] ∧ h = h0) := by
  refine own_body pn_rmL22 ?_
  intro p e s m below meth c s₁ hx hby hml hown hnm hret hlk hZ X0 e0 G hG
  replace hml : c.maxLocals = 3 := hml
  replace hown : s.vm.findClass "com/example/thinleaf/thinleaf/prune/Nearest" = some m.cls := hown
  rw [ef_rmL22]
  obtain ⟨E_r, F_numbers_r, F_cosines_r, F_places_r, F_size_r, V_bn, V_bc, Pl, nrn, nrc, nnc, g_r, g_bn, g_bc, Z0⟩ := NB
  show own_Go p e below G (s₁.setTop (mkF m 0 #[rv r, .unset, .unset] []))
  refine own_st (fun t k => XS.aloadN X0.here hx rfl (hb hby d4_0) rfl rfl  k) ?_
  show own_Go p e below G (s₁.setTop (mkF m 1 #[rv r, .unset, .unset] [(.ref r)]))
  obtain ⟨T1, X1, e1, st1⟩ := getF X0 hx hZ hown (host := "") (Or.inl (hw _ (List.mem_of_getElem? (i := 22) rfl))) Via.refl e0 F_size_r (g := (mkF m 1 #[rv r, .unset, .unset] [(.ref r)])) rfl rfl (hb hby d4_1)
  refine own_st st1 ?_
  show own_Go p e below G (T1.setTop (mkF m 4 #[rv r, .unset, .unset] [(.int (2 : Int32))]))
  refine own_st (fun t k => XS.aloadN X1.here hx rfl (hb hby d4_4) rfl rfl  k) ?_
  show own_Go p e below G (T1.setTop (mkF m 5 #[rv r, .unset, .unset] [(.ref r), (.int (2 : Int32))]))
  obtain ⟨T2, X2, e2, st2⟩ := getF X1 hx hZ hown (host := "") (Or.inl (hw _ (List.mem_of_getElem? (i := 10) rfl))) Via.refl e1 F_numbers_r (g := (mkF m 5 #[rv r, .unset, .unset] [(.ref r), (.int (2 : Int32))])) rfl rfl (hb hby d4_5)
  refine own_st st2 ?_
  show own_Go p e below G (T2.setTop (mkF m 8 #[rv r, .unset, .unset] [(.ref bn), (.int (2 : Int32))]))
  have Vc3 := V_bn
  obtain ⟨cl3, Ar3, -, Sa3, Na3, -, -⟩ := Vc3
  refine own_st (fun t k => X2.arraylength hx (by rw [e2]; exact Ar3.1) (State.isArrayOf_alike hZ.alike Ar3.2.1) (g := (mkF m 8 #[rv r, .unset, .unset] [(.ref bn), (.int (2 : Int32))])) rfl rfl (hb hby d4_8) t k) ?_
  rw [len_of Sa3 Na3]
  show own_Go p e below G (T2.setTop (mkF m 9 #[rv r, .unset, .unset] [(.int (2 : Int32)), (.int (2 : Int32))]))
  refine own_st (fun t k => XS.icmpYes X2.here hx rfl (pc0 := 9) (pc' := 19) rfl (hb hby d4_9) rfl (flt (by decide)).2.1 (by decide) (by decide) k) ?_
  show own_Go p e below G (T2.setTop (mkF m 19 #[rv r, .unset, .unset] []))
  refine own_st (fun t k => XS.aloadN X2.here hx rfl (hb hby d4_19) rfl rfl  k) ?_
  show own_Go p e below G (T2.setTop (mkF m 20 #[rv r, .unset, .unset] [(.ref r)]))
  obtain ⟨T4, X4, e4, st4⟩ := getF X2 hx hZ hown (host := "") (Or.inl (hw _ (List.mem_of_getElem? (i := 22) rfl))) Via.refl e2 F_size_r (g := (mkF m 20 #[rv r, .unset, .unset] [(.ref r)])) rfl rfl (hb hby d4_20)
  refine own_st st4 ?_
  show own_Go p e below G (T4.setTop (mkF m 23 #[rv r, .unset, .unset] [(.int (2 : Int32))]))
  refine own_st (fun t k => XS.ifNo X4.here hx rfl (hb hby d4_23) rfl ((if0 _ _).trans (tlt (by decide)).2.2.2) k) ?_
  show own_Go p e below G (T4.setTop (mkF m 26 #[rv r, .unset, .unset] []))
  refine own_st (fun t k => XS.aloadN X4.here hx rfl (hb hby d4_26) rfl rfl  k) ?_
  show own_Go p e below G (T4.setTop (mkF m 27 #[rv r, .unset, .unset] [(.ref r)]))
  obtain ⟨T5, X5, e5, st5⟩ := getF X4 hx hZ hown (host := "") (Or.inl (hw _ (List.mem_of_getElem? (i := 13) rfl))) Via.refl e4 F_cosines_r (g := (mkF m 27 #[rv r, .unset, .unset] [(.ref r)])) rfl rfl (hb hby d4_27)
  refine own_st st5 ?_
  show own_Go p e below G (T5.setTop (mkF m 30 #[rv r, .unset, .unset] [(.ref bc)]))
  refine own_st (fun t k => XS.iconst X5.here hx rfl (hb hby d4_30) k) ?_
  show own_Go p e below G (T5.setTop (mkF m 31 #[rv r, .unset, .unset] [(.int (0 : Int32)), (.ref bc)]))
  have Vc6 := V_bc
  obtain ⟨cl6, Ar6, -, Sa6, -, Ha6, -⟩ := Vc6
  have hin6 : ¬ ((0 : Int32) < 0 ∨ cl6.slots.size ≤ ((0 : Int32)).toNatClampNeg) := inb_of Sa6 ⟨by decide, by decide⟩
  refine own_st (fun t k => X5.daload hx (j := (0 : Int32)) (v := (.double (FP.l2d c0))) (by rw [e5]; exact Ar6.1) (State.isArrayOf_alike hZ.alike Ar6.2.1) Ar6.2.2 hin6 (Ha6.at hin6 rfl) (g := (mkF m 31 #[rv r, .unset, .unset] [(.int (0 : Int32)), (.ref bc)])) rfl rfl (hb hby d4_31) t k) ?_
  show own_Go p e below G (T5.setTop (mkF m 32 #[rv r, .unset, .unset] [(.double (FP.l2d c0))]))
  refine own_st (fun t k => XS.dstoreN X5.here hx rfl (hb hby d4_32) rfl (l' := #[rv r, own_dv (FP.l2d c0), .second]) rfl k) ?_
  show own_Go p e below G (T5.setTop (mkF m 33 #[rv r, own_dv (FP.l2d c0), .second] []))
  refine own_st (fun t k => XS.goto X5.here hx rfl (pc0 := 33) (pc' := 40) rfl (hb hby d4_33) (by decide) (by decide) k) ?_
  show own_Go p e below G (T5.setTop (mkF m 40 #[rv r, own_dv (FP.l2d c0), .second] []))
  refine own_st (fun t k => XS.dloadN X5.here hx rfl (hb hby d4_40) rfl  k) ?_
  show own_Go p e below G (T5.setTop (mkF m 41 #[rv r, own_dv (FP.l2d c0), .second] [(.double (FP.l2d c0))]))
  rw [hG]
  exact own_retD X5 hx hlk hret (hb hby d4_41) ⟨rfl, rfl, e5⟩ (by decide) (by decide)
theorem pn_rmL30 : plainFor (⟨"com/example/thinleaf/thinleaf/prune/Nearest", "least", "()D"⟩ : MethodName) = true := by decide +kernel
theorem ef_rmL30 (m : MethodId) (x0 : Addr) : entryFrame m #[(.ref x0)] 3 = mkF m 0 #[rv x0, .unset, .unset] [] := by first | (simp [entryFrame, mkF, argsToLocals, Value.category]; done) | rfl
set_option maxRecDepth 65536 in
set_option maxHeartbeats 40000000 in
theorem rmL30 (l : Launch) (Z : State) (a0 : Array Value) (hw : ∀ d ∈ tables_1, d.before a0 Z = true) (r bn bc : Addr) (kn kc : ClassId) (pv : Value)  (h0 : Heap) (n0 : Nat) (NB : own_NE Z h0 n0 r bn bc kn kc pv (3 : Int32) (0 : Int32) [(.int (0 : Int32)), (.int (0 : Int32)), (.int (0 : Int32))] [(.double (0 : UInt64)), (.double (0 : UInt64)), (.double (0 : UInt64))]) :
    own_Met l Z (⟨"com/example/thinleaf/thinleaf/prune/Nearest", "least", "()D"⟩ : MethodName) prog_219_method_7_code 3 (some .double) [] ({ frames := 0, cells := 0, slots := 0, locals := 0 } : Room) #[(.ref r)] h0 (fun v h L => v = some (.double (18442240474082181120 : UInt64)) ∧ L = [] ∧ h = h0) := by
  refine own_body pn_rmL30 ?_
  intro p e s m below meth c s₁ hx hby hml hown hnm hret hlk hZ X0 e0 G hG
  replace hml : c.maxLocals = 3 := hml
  replace hown : s.vm.findClass "com/example/thinleaf/thinleaf/prune/Nearest" = some m.cls := hown
  rw [ef_rmL30]
  obtain ⟨E_r, F_numbers_r, F_cosines_r, F_places_r, F_size_r, V_bn, V_bc, Pl, nrn, nrc, nnc, g_r, g_bn, g_bc, Z0⟩ := NB
  show own_Go p e below G (s₁.setTop (mkF m 0 #[rv r, .unset, .unset] []))
  refine own_st (fun t k => XS.aloadN X0.here hx rfl (hb hby d4_0) rfl rfl  k) ?_
  show own_Go p e below G (s₁.setTop (mkF m 1 #[rv r, .unset, .unset] [(.ref r)]))
  obtain ⟨T1, X1, e1, st1⟩ := getF X0 hx hZ hown (host := "") (Or.inl (hw _ (List.mem_of_getElem? (i := 22) rfl))) Via.refl e0 F_size_r (g := (mkF m 1 #[rv r, .unset, .unset] [(.ref r)])) rfl rfl (hb hby d4_1)
  refine own_st st1 ?_
  show own_Go p e below G (T1.setTop (mkF m 4 #[rv r, .unset, .unset] [(.int (0 : Int32))]))
  refine own_st (fun t k => XS.aloadN X1.here hx rfl (hb hby d4_4) rfl rfl  k) ?_
  show own_Go p e below G (T1.setTop (mkF m 5 #[rv r, .unset, .unset] [(.ref r), (.int (0 : Int32))]))
  obtain ⟨T2, X2, e2, st2⟩ := getF X1 hx hZ hown (host := "") (Or.inl (hw _ (List.mem_of_getElem? (i := 10) rfl))) Via.refl e1 F_numbers_r (g := (mkF m 5 #[rv r, .unset, .unset] [(.ref r), (.int (0 : Int32))])) rfl rfl (hb hby d4_5)
  refine own_st st2 ?_
  show own_Go p e below G (T2.setTop (mkF m 8 #[rv r, .unset, .unset] [(.ref bn), (.int (0 : Int32))]))
  have Vc3 := V_bn
  obtain ⟨cl3, Ar3, -, Sa3, Na3, -, -⟩ := Vc3
  refine own_st (fun t k => X2.arraylength hx (by rw [e2]; exact Ar3.1) (State.isArrayOf_alike hZ.alike Ar3.2.1) (g := (mkF m 8 #[rv r, .unset, .unset] [(.ref bn), (.int (0 : Int32))])) rfl rfl (hb hby d4_8) t k) ?_
  rw [len_of Sa3 Na3]
  show own_Go p e below G (T2.setTop (mkF m 9 #[rv r, .unset, .unset] [(.int (3 : Int32)), (.int (0 : Int32))]))
  refine own_st (fun t k => XS.icmpNo X2.here hx rfl (hb hby d4_9) rfl (tlt (by decide)).2.1 k) ?_
  show own_Go p e below G (T2.setTop (mkF m 12 #[rv r, .unset, .unset] []))
  refine own_st (fun t k => X2.ldc2DoubleC hx hown (mvT hZ (hw _ (List.mem_of_getElem? (i := 40) rfl))) (g := (mkF m 12 #[rv r, .unset, .unset] [])) rfl (hb hby d4_12) t k) ?_
  show own_Go p e below G (T2.setTop (mkF m 15 #[rv r, .unset, .unset] [(.double (18442240474082181120 : UInt64))]))
  refine own_st (fun t k => XS.dstoreN X2.here hx rfl (hb hby d4_15) rfl (l' := #[rv r, own_dv (18442240474082181120 : UInt64), .second]) rfl k) ?_
  show own_Go p e below G (T2.setTop (mkF m 16 #[rv r, own_dv (18442240474082181120 : UInt64), .second] []))
  refine own_st (fun t k => XS.goto X2.here hx rfl (pc0 := 16) (pc' := 40) rfl (hb hby d4_16) (by decide) (by decide) k) ?_
  show own_Go p e below G (T2.setTop (mkF m 40 #[rv r, own_dv (18442240474082181120 : UInt64), .second] []))
  refine own_st (fun t k => XS.dloadN X2.here hx rfl (hb hby d4_40) rfl  k) ?_
  show own_Go p e below G (T2.setTop (mkF m 41 #[rv r, own_dv (18442240474082181120 : UInt64), .second] [(.double (18442240474082181120 : UInt64))]))
  rw [hG]
  exact own_retD X2 hx hlk hret (hb hby d4_41) ⟨rfl, rfl, e2⟩ (by decide) (by decide)
theorem pn_rmL31 : plainFor (⟨"com/example/thinleaf/thinleaf/prune/Nearest", "least", "()D"⟩ : MethodName) = true := by decide +kernel
theorem ef_rmL31 (m : MethodId) (x0 : Addr) : entryFrame m #[(.ref x0)] 3 = mkF m 0 #[rv x0, .unset, .unset] [] := by first | (simp [entryFrame, mkF, argsToLocals, Value.category]; done) | rfl
set_option maxRecDepth 65536 in
set_option maxHeartbeats 40000000 in
theorem rmL31 (l : Launch) (Z : State) (a0 : Array Value) (hw : ∀ d ∈ tables_1, d.before a0 Z = true) (r bn bc : Addr) (kn kc : ClassId) (pv : Value) (m0 : Int32) (c0 : Int64) (h0 : Heap) (n0 : Nat) (NB : own_NE Z h0 n0 r bn bc kn kc pv (3 : Int32) (1 : Int32) [(.int m0), (.int (0 : Int32)), (.int (0 : Int32))] [(.double (FP.l2d c0)), (.double (0 : UInt64)), (.double (0 : UInt64))]) :
    own_Met l Z (⟨"com/example/thinleaf/thinleaf/prune/Nearest", "least", "()D"⟩ : MethodName) prog_219_method_7_code 3 (some .double) [] ({ frames := 0, cells := 0, slots := 0, locals := 0 } : Room) #[(.ref r)] h0 (fun v h L => v = some (.double (18442240474082181120 : UInt64)) ∧ L = [] ∧ h = h0) := by
  refine own_body pn_rmL31 ?_
  intro p e s m below meth c s₁ hx hby hml hown hnm hret hlk hZ X0 e0 G hG
  replace hml : c.maxLocals = 3 := hml
  replace hown : s.vm.findClass "com/example/thinleaf/thinleaf/prune/Nearest" = some m.cls := hown
  rw [ef_rmL31]
  obtain ⟨E_r, F_numbers_r, F_cosines_r, F_places_r, F_size_r, V_bn, V_bc, Pl, nrn, nrc, nnc, g_r, g_bn, g_bc, Z0⟩ := NB
  show own_Go p e below G (s₁.setTop (mkF m 0 #[rv r, .unset, .unset] []))
  refine own_st (fun t k => XS.aloadN X0.here hx rfl (hb hby d4_0) rfl rfl  k) ?_
  show own_Go p e below G (s₁.setTop (mkF m 1 #[rv r, .unset, .unset] [(.ref r)]))
  obtain ⟨T1, X1, e1, st1⟩ := getF X0 hx hZ hown (host := "") (Or.inl (hw _ (List.mem_of_getElem? (i := 22) rfl))) Via.refl e0 F_size_r (g := (mkF m 1 #[rv r, .unset, .unset] [(.ref r)])) rfl rfl (hb hby d4_1)
  refine own_st st1 ?_
  show own_Go p e below G (T1.setTop (mkF m 4 #[rv r, .unset, .unset] [(.int (1 : Int32))]))
  refine own_st (fun t k => XS.aloadN X1.here hx rfl (hb hby d4_4) rfl rfl  k) ?_
  show own_Go p e below G (T1.setTop (mkF m 5 #[rv r, .unset, .unset] [(.ref r), (.int (1 : Int32))]))
  obtain ⟨T2, X2, e2, st2⟩ := getF X1 hx hZ hown (host := "") (Or.inl (hw _ (List.mem_of_getElem? (i := 10) rfl))) Via.refl e1 F_numbers_r (g := (mkF m 5 #[rv r, .unset, .unset] [(.ref r), (.int (1 : Int32))])) rfl rfl (hb hby d4_5)
  refine own_st st2 ?_
  show own_Go p e below G (T2.setTop (mkF m 8 #[rv r, .unset, .unset] [(.ref bn), (.int (1 : Int32))]))
  have Vc3 := V_bn
  obtain ⟨cl3, Ar3, -, Sa3, Na3, -, -⟩ := Vc3
  refine own_st (fun t k => X2.arraylength hx (by rw [e2]; exact Ar3.1) (State.isArrayOf_alike hZ.alike Ar3.2.1) (g := (mkF m 8 #[rv r, .unset, .unset] [(.ref bn), (.int (1 : Int32))])) rfl rfl (hb hby d4_8) t k) ?_
  rw [len_of Sa3 Na3]
  show own_Go p e below G (T2.setTop (mkF m 9 #[rv r, .unset, .unset] [(.int (3 : Int32)), (.int (1 : Int32))]))
  refine own_st (fun t k => XS.icmpNo X2.here hx rfl (hb hby d4_9) rfl (tlt (by decide)).2.1 k) ?_
  show own_Go p e below G (T2.setTop (mkF m 12 #[rv r, .unset, .unset] []))
  refine own_st (fun t k => X2.ldc2DoubleC hx hown (mvT hZ (hw _ (List.mem_of_getElem? (i := 40) rfl))) (g := (mkF m 12 #[rv r, .unset, .unset] [])) rfl (hb hby d4_12) t k) ?_
  show own_Go p e below G (T2.setTop (mkF m 15 #[rv r, .unset, .unset] [(.double (18442240474082181120 : UInt64))]))
  refine own_st (fun t k => XS.dstoreN X2.here hx rfl (hb hby d4_15) rfl (l' := #[rv r, own_dv (18442240474082181120 : UInt64), .second]) rfl k) ?_
  show own_Go p e below G (T2.setTop (mkF m 16 #[rv r, own_dv (18442240474082181120 : UInt64), .second] []))
  refine own_st (fun t k => XS.goto X2.here hx rfl (pc0 := 16) (pc' := 40) rfl (hb hby d4_16) (by decide) (by decide) k) ?_
  show own_Go p e below G (T2.setTop (mkF m 40 #[rv r, own_dv (18442240474082181120 : UInt64), .second] []))
  refine own_st (fun t k => XS.dloadN X2.here hx rfl (hb hby d4_40) rfl  k) ?_
  show own_Go p e below G (T2.setTop (mkF m 41 #[rv r, own_dv (18442240474082181120 : UInt64), .second] [(.double (18442240474082181120 : UInt64))]))
  rw [hG]
  exact own_retD X2 hx hlk hret (hb hby d4_41) ⟨rfl, rfl, e2⟩ (by decide) (by decide)
theorem pn_rmL32 : plainFor (⟨"com/example/thinleaf/thinleaf/prune/Nearest", "least", "()D"⟩ : MethodName) = true := by decide +kernel
theorem ef_rmL32 (m : MethodId) (x0 : Addr) : entryFrame m #[(.ref x0)] 3 = mkF m 0 #[rv x0, .unset, .unset] [] := by first | (simp [entryFrame, mkF, argsToLocals, Value.category]; done) | rfl
set_option maxRecDepth 65536 in
set_option maxHeartbeats 40000000 in
theorem rmL32 (l : Launch) (Z : State) (a0 : Array Value) (hw : ∀ d ∈ tables_1, d.before a0 Z = true) (r bn bc : Addr) (kn kc : ClassId) (pv : Value) (m0 m1 : Int32) (c0 c1 : Int64) (h0 : Heap) (n0 : Nat) (NB : own_NE Z h0 n0 r bn bc kn kc pv (3 : Int32) (2 : Int32) [(.int m0), (.int m1), (.int (0 : Int32))] [(.double (FP.l2d c0)), (.double (FP.l2d c1)), (.double (0 : UInt64))]) :
    own_Met l Z (⟨"com/example/thinleaf/thinleaf/prune/Nearest", "least", "()D"⟩ : MethodName) prog_219_method_7_code 3 (some .double) [] ({ frames := 0, cells := 0, slots := 0, locals := 0 } : Room) #[(.ref r)] h0 (fun v h L => v = some (.double (18442240474082181120 : UInt64)) ∧ L = [] ∧ h = h0) := by
  refine own_body pn_rmL32 ?_
  intro p e s m below meth c s₁ hx hby hml hown hnm hret hlk hZ X0 e0 G hG
  replace hml : c.maxLocals = 3 := hml
  replace hown : s.vm.findClass "com/example/thinleaf/thinleaf/prune/Nearest" = some m.cls := hown
  rw [ef_rmL32]
  obtain ⟨E_r, F_numbers_r, F_cosines_r, F_places_r, F_size_r, V_bn, V_bc, Pl, nrn, nrc, nnc, g_r, g_bn, g_bc, Z0⟩ := NB
  show own_Go p e below G (s₁.setTop (mkF m 0 #[rv r, .unset, .unset] []))
  refine own_st (fun t k => XS.aloadN X0.here hx rfl (hb hby d4_0) rfl rfl  k) ?_
  show own_Go p e below G (s₁.setTop (mkF m 1 #[rv r, .unset, .unset] [(.ref r)]))
  obtain ⟨T1, X1, e1, st1⟩ := getF X0 hx hZ hown (host := "") (Or.inl (hw _ (List.mem_of_getElem? (i := 22) rfl))) Via.refl e0 F_size_r (g := (mkF m 1 #[rv r, .unset, .unset] [(.ref r)])) rfl rfl (hb hby d4_1)
  refine own_st st1 ?_
  show own_Go p e below G (T1.setTop (mkF m 4 #[rv r, .unset, .unset] [(.int (2 : Int32))]))
  refine own_st (fun t k => XS.aloadN X1.here hx rfl (hb hby d4_4) rfl rfl  k) ?_
  show own_Go p e below G (T1.setTop (mkF m 5 #[rv r, .unset, .unset] [(.ref r), (.int (2 : Int32))]))
  obtain ⟨T2, X2, e2, st2⟩ := getF X1 hx hZ hown (host := "") (Or.inl (hw _ (List.mem_of_getElem? (i := 10) rfl))) Via.refl e1 F_numbers_r (g := (mkF m 5 #[rv r, .unset, .unset] [(.ref r), (.int (2 : Int32))])) rfl rfl (hb hby d4_5)
  refine own_st st2 ?_
  show own_Go p e below G (T2.setTop (mkF m 8 #[rv r, .unset, .unset] [(.ref bn), (.int (2 : Int32))]))
  have Vc3 := V_bn
  obtain ⟨cl3, Ar3, -, Sa3, Na3, -, -⟩ := Vc3
  refine own_st (fun t k => X2.arraylength hx (by rw [e2]; exact Ar3.1) (State.isArrayOf_alike hZ.alike Ar3.2.1) (g := (mkF m 8 #[rv r, .unset, .unset] [(.ref bn), (.int (2 : Int32))])) rfl rfl (hb hby d4_8) t k) ?_
  rw [len_of Sa3 Na3]
  show own_Go p e below G (T2.setTop (mkF m 9 #[rv r, .unset, .unset] [(.int (3 : Int32)), (.int (2 : Int32))]))
  refine own_st (fun t k => XS.icmpNo X2.here hx rfl (hb hby d4_9) rfl (tlt (by decide)).2.1 k) ?_
  show own_Go p e below G (T2.setTop (mkF m 12 #[rv r, .unset, .unset] []))
  refine own_st (fun t k => X2.ldc2DoubleC hx hown (mvT hZ (hw _ (List.mem_of_getElem? (i := 40) rfl))) (g := (mkF m 12 #[rv r, .unset, .unset] [])) rfl (hb hby d4_12) t k) ?_
  show own_Go p e below G (T2.setTop (mkF m 15 #[rv r, .unset, .unset] [(.double (18442240474082181120 : UInt64))]))
  refine own_st (fun t k => XS.dstoreN X2.here hx rfl (hb hby d4_15) rfl (l' := #[rv r, own_dv (18442240474082181120 : UInt64), .second]) rfl k) ?_
  show own_Go p e below G (T2.setTop (mkF m 16 #[rv r, own_dv (18442240474082181120 : UInt64), .second] []))
  refine own_st (fun t k => XS.goto X2.here hx rfl (pc0 := 16) (pc' := 40) rfl (hb hby d4_16) (by decide) (by decide) k) ?_
  show own_Go p e below G (T2.setTop (mkF m 40 #[rv r, own_dv (18442240474082181120 : UInt64), .second] []))
  refine own_st (fun t k => XS.dloadN X2.here hx rfl (hb hby d4_40) rfl  k) ?_
  show own_Go p e below G (T2.setTop (mkF m 41 #[rv r, own_dv (18442240474082181120 : UInt64), .second] [(.double (18442240474082181120 : UInt64))]))
  rw [hG]
  exact own_retD X2 hx hlk hret (hb hby d4_41) ⟨rfl, rfl, e2⟩ (by decide) (by decide)
theorem pn_rmL33 : plainFor (⟨"com/example/thinleaf/thinleaf/prune/Nearest", "least", "()D"⟩ : MethodName) = true := by decide +kernel
theorem ef_rmL33 (m : MethodId) (x0 : Addr) : entryFrame m #[(.ref x0)] 3 = mkF m 0 #[rv x0, .unset, .unset] [] := by first | (simp [entryFrame, mkF, argsToLocals, Value.category]; done) | rfl
set_option maxRecDepth 65536 in
set_option maxHeartbeats 40000000 in
theorem rmL33 (l : Launch) (Z : State) (a0 : Array Value) (hw : ∀ d ∈ tables_1, d.before a0 Z = true) (r bn bc : Addr) (kn kc : ClassId) (pv : Value) (m0 m1 m2 : Int32) (c0 c1 c2 : Int64) (h0 : Heap) (n0 : Nat) (NB : own_NE Z h0 n0 r bn bc kn kc pv (3 : Int32) (3 : Int32) [(.int m0), (.int m1), (.int m2)] [(.double (FP.l2d c0)), (.double (FP.l2d c1)), (.double (FP.l2d c2))]) :
    own_Met l Z (⟨"com/example/thinleaf/thinleaf/prune/Nearest", "least", "()D"⟩ : MethodName) prog_219_method_7_code 3 (some .double) [] ({ frames := 0, cells := 0, slots := 0, locals := 0 } : Room) #[(.ref r)] h0 (fun v h L => v = some (.double (FP.l2d c0)) ∧ L = [] ∧ h = h0) := by
  refine own_body pn_rmL33 ?_
  intro p e s m below meth c s₁ hx hby hml hown hnm hret hlk hZ X0 e0 G hG
  replace hml : c.maxLocals = 3 := hml
  replace hown : s.vm.findClass "com/example/thinleaf/thinleaf/prune/Nearest" = some m.cls := hown
  rw [ef_rmL33]
  obtain ⟨E_r, F_numbers_r, F_cosines_r, F_places_r, F_size_r, V_bn, V_bc, Pl, nrn, nrc, nnc, g_r, g_bn, g_bc, Z0⟩ := NB
  show own_Go p e below G (s₁.setTop (mkF m 0 #[rv r, .unset, .unset] []))
  refine own_st (fun t k => XS.aloadN X0.here hx rfl (hb hby d4_0) rfl rfl  k) ?_
  show own_Go p e below G (s₁.setTop (mkF m 1 #[rv r, .unset, .unset] [(.ref r)]))
  obtain ⟨T1, X1, e1, st1⟩ := getF X0 hx hZ hown (host := "") (Or.inl (hw _ (List.mem_of_getElem? (i := 22) rfl))) Via.refl e0 F_size_r (g := (mkF m 1 #[rv r, .unset, .unset] [(.ref r)])) rfl rfl (hb hby d4_1)
  refine own_st st1 ?_
  show own_Go p e below G (T1.setTop (mkF m 4 #[rv r, .unset, .unset] [(.int (3 : Int32))]))
  refine own_st (fun t k => XS.aloadN X1.here hx rfl (hb hby d4_4) rfl rfl  k) ?_
  show own_Go p e below G (T1.setTop (mkF m 5 #[rv r, .unset, .unset] [(.ref r), (.int (3 : Int32))]))
  obtain ⟨T2, X2, e2, st2⟩ := getF X1 hx hZ hown (host := "") (Or.inl (hw _ (List.mem_of_getElem? (i := 10) rfl))) Via.refl e1 F_numbers_r (g := (mkF m 5 #[rv r, .unset, .unset] [(.ref r), (.int (3 : Int32))])) rfl rfl (hb hby d4_5)
  refine own_st st2 ?_
  show own_Go p e below G (T2.setTop (mkF m 8 #[rv r, .unset, .unset] [(.ref bn), (.int (3 : Int32))]))
  have Vc3 := V_bn
  obtain ⟨cl3, Ar3, -, Sa3, Na3, -, -⟩ := Vc3
  refine own_st (fun t k => X2.arraylength hx (by rw [e2]; exact Ar3.1) (State.isArrayOf_alike hZ.alike Ar3.2.1) (g := (mkF m 8 #[rv r, .unset, .unset] [(.ref bn), (.int (3 : Int32))])) rfl rfl (hb hby d4_8) t k) ?_
  rw [len_of Sa3 Na3]
  show own_Go p e below G (T2.setTop (mkF m 9 #[rv r, .unset, .unset] [(.int (3 : Int32)), (.int (3 : Int32))]))
  refine own_st (fun t k => XS.icmpYes X2.here hx rfl (pc0 := 9) (pc' := 19) rfl (hb hby d4_9) rfl (flt (by decide)).2.1 (by decide) (by decide) k) ?_
  show own_Go p e below G (T2.setTop (mkF m 19 #[rv r, .unset, .unset] []))
  refine own_st (fun t k => XS.aloadN X2.here hx rfl (hb hby d4_19) rfl rfl  k) ?_
  show own_Go p e below G (T2.setTop (mkF m 20 #[rv r, .unset, .unset] [(.ref r)]))
  obtain ⟨T4, X4, e4, st4⟩ := getF X2 hx hZ hown (host := "") (Or.inl (hw _ (List.mem_of_getElem? (i := 22) rfl))) Via.refl e2 F_size_r (g := (mkF m 20 #[rv r, .unset, .unset] [(.ref r)])) rfl rfl (hb hby d4_20)
  refine own_st st4 ?_
  show own_Go p e below G (T4.setTop (mkF m 23 #[rv r, .unset, .unset] [(.int (3 : Int32))]))
  refine own_st (fun t k => XS.ifNo X4.here hx rfl (hb hby d4_23) rfl ((if0 _ _).trans (tlt (by decide)).2.2.2) k) ?_
  show own_Go p e below G (T4.setTop (mkF m 26 #[rv r, .unset, .unset] []))
  refine own_st (fun t k => XS.aloadN X4.here hx rfl (hb hby d4_26) rfl rfl  k) ?_
  show own_Go p e below G (T4.setTop (mkF m 27 #[rv r, .unset, .unset] [(.ref r)]))
  obtain ⟨T5, X5, e5, st5⟩ := getF X4 hx hZ hown (host := "") (Or.inl (hw _ (List.mem_of_getElem? (i := 13) rfl))) Via.refl e4 F_cosines_r (g := (mkF m 27 #[rv r, .unset, .unset] [(.ref r)])) rfl rfl (hb hby d4_27)
  refine own_st st5 ?_
  show own_Go p e below G (T5.setTop (mkF m 30 #[rv r, .unset, .unset] [(.ref bc)]))
  refine own_st (fun t k => XS.iconst X5.here hx rfl (hb hby d4_30) k) ?_
  show own_Go p e below G (T5.setTop (mkF m 31 #[rv r, .unset, .unset] [(.int (0 : Int32)), (.ref bc)]))
  have Vc6 := V_bc
  obtain ⟨cl6, Ar6, -, Sa6, -, Ha6, -⟩ := Vc6
  have hin6 : ¬ ((0 : Int32) < 0 ∨ cl6.slots.size ≤ ((0 : Int32)).toNatClampNeg) := inb_of Sa6 ⟨by decide, by decide⟩
  refine own_st (fun t k => X5.daload hx (j := (0 : Int32)) (v := (.double (FP.l2d c0))) (by rw [e5]; exact Ar6.1) (State.isArrayOf_alike hZ.alike Ar6.2.1) Ar6.2.2 hin6 (Ha6.at hin6 rfl) (g := (mkF m 31 #[rv r, .unset, .unset] [(.int (0 : Int32)), (.ref bc)])) rfl rfl (hb hby d4_31) t k) ?_
  show own_Go p e below G (T5.setTop (mkF m 32 #[rv r, .unset, .unset] [(.double (FP.l2d c0))]))
  refine own_st (fun t k => XS.dstoreN X5.here hx rfl (hb hby d4_32) rfl (l' := #[rv r, own_dv (FP.l2d c0), .second]) rfl k) ?_
  show own_Go p e below G (T5.setTop (mkF m 33 #[rv r, own_dv (FP.l2d c0), .second] []))
  refine own_st (fun t k => XS.goto X5.here hx rfl (pc0 := 33) (pc' := 40) rfl (hb hby d4_33) (by decide) (by decide) k) ?_
  show own_Go p e below G (T5.setTop (mkF m 40 #[rv r, own_dv (FP.l2d c0), .second] []))
  refine own_st (fun t k => XS.dloadN X5.here hx rfl (hb hby d4_40) rfl  k) ?_
  show own_Go p e below G (T5.setTop (mkF m 41 #[rv r, own_dv (FP.l2d c0), .second] [(.double (FP.l2d c0))]))
  rw [hG]
  exact own_retD X5 hx hlk hret (hb hby d4_41) ⟨rfl, rfl, e5⟩ (by decide) (by decide)
theorem d5_0 : decode prog_219_method_2_code 0 = .ok (.aload_n 0, 1) := by decide +kernel
theorem d5_1 : decode prog_219_method_2_code 1 = .ok (.invokespecial 7, 3) := by decide +kernel
theorem d5_4 : decode prog_219_method_2_code 4 = .ok (.aload_n 0, 1) := by decide +kernel
theorem d5_5 : decode prog_219_method_2_code 5 = .ok (.iload_n 1, 1) := by decide +kernel
theorem d5_6 : decode prog_219_method_2_code 6 = .ok (.newarray .int, 2) := by decide +kernel
theorem d5_8 : decode prog_219_method_2_code 8 = .ok (.putfield 12, 3) := by decide +kernel
theorem d5_11 : decode prog_219_method_2_code 11 = .ok (.aload_n 0, 1) := by decide +kernel
theorem d5_12 : decode prog_219_method_2_code 12 = .ok (.iload_n 1, 1) := by decide +kernel
theorem d5_13 : decode prog_219_method_2_code 13 = .ok (.newarray .double, 2) := by decide +kernel
theorem d5_15 : decode prog_219_method_2_code 15 = .ok (.putfield 16, 3) := by decide +kernel
theorem d5_18 : decode prog_219_method_2_code 18 = .ok (.aload_n 0, 1) := by decide +kernel
theorem d5_19 : decode prog_219_method_2_code 19 = .ok (.aload_n 2, 1) := by decide +kernel
theorem d5_20 : decode prog_219_method_2_code 20 = .ok (.putfield 20, 3) := by decide +kernel
theorem d5_23 : decode prog_219_method_2_code 23 = .ok (.return_, 1) := by decide +kernel
theorem pn_rmC0 : plainFor (⟨"com/example/thinleaf/thinleaf/prune/Nearest", "<init>", "(I[I)V"⟩ : MethodName) = true := by decide +kernel
theorem ef_rmC0 (m : MethodId) (x0 : Addr) (x1 : Int32) (x2 : Value) (c2 : x2.isRef = true) : entryFrame m #[(.ref x0), (.int x1), x2] 3 = mkF m 0 #[rv x0, iv x1, .val x2] [] := by rcases ref_cases c2 with rfl | ⟨_, rfl⟩ <;> first | (simp [entryFrame, mkF, argsToLocals, Value.category]; done) | rfl
set_option maxRecDepth 65536 in
set_option maxHeartbeats 40000000 in
theorem rmC0 (l : Launch) (Z : State) (a0 : Array Value) (hw : ∀ d ∈ tables_1, d.before a0 Z = true) (r : Addr) (pv : Value) (h0 : Heap) (n0 : Nat) (Z0 : n0 ≤ h0.size) (g_r : n0 ≤ r) (Pl : own_Pl Z h0 pv [r]) (E_r : Exa Z h0 r "com/example/thinleaf/thinleaf/prune/Nearest") (F_numbers_r : Fld Z h0 r "com/example/thinleaf/thinleaf/prune/Nearest" "numbers" "[I" .null) (F_cosines_r : Fld Z h0 r "com/example/thinleaf/thinleaf/prune/Nearest" "cosines" "[D" .null) (F_places_r : Fld Z h0 r "com/example/thinleaf/thinleaf/prune/Nearest" "places" "[I" .null) (F_size_r : Fld Z h0 r "com/example/thinleaf/thinleaf/prune/Nearest" "size" "I" (.int (0 : Int32))) :
    own_Met l Z (⟨"com/example/thinleaf/thinleaf/prune/Nearest", "<init>", "(I[I)V"⟩ : MethodName) prog_219_method_2_code 3 none [] ({ frames := 1, cells := 2, slots := 0, locals := 12 } : Room) #[(.ref r), (.int (0 : Int32)), pv] h0 (fun z h L => z = none ∧ Fr n0 L ∧ ∃ (bn bc : Addr) (kn kc : ClassId), own_NE Z h n0 r bn bc kn kc pv (0 : Int32) (0 : Int32) [] []) := by
  refine own_body pn_rmC0 ?_
  intro p e s m below meth c s₁ hx hby hml hown hnm hret hlk hZ X0 e0 G hG
  replace hml : c.maxLocals = 3 := hml
  replace hown : s.vm.findClass "com/example/thinleaf/thinleaf/prune/Nearest" = some m.cls := hown
  rw [ef_rmC0 m r (0 : Int32) pv (own_PlR Pl)]
  have N0 := Fr.nil n0
  show own_Go p e below G (s₁.setTop (mkF m 0 #[rv r, iv 0, .val pv] []))
  refine own_st (fun t k => XS.aloadN X0.here hx rfl (hb hby d5_0) rfl rfl  k) ?_
  show own_Go p e below G (s₁.setTop (mkF m 1 #[rv r, iv 0, .val pv] [(.ref r)]))
  obtain ⟨T1, X1, e1, st1⟩ := initO X0 hx hZ hown (hw _ (List.mem_of_getElem? (i := 7) rfl)) (hw _ (List.mem_of_getElem? (i := 8) rfl)) (hw _ (List.mem_of_getElem? (i := 9) rfl)) e0 (g := (mkF m 1 #[rv r, iv 0, .val pv] [(.ref r)])) rfl (by rw [hml]; rfl) rfl (hb hby d5_1) (by decide) (W := 0) (by show 2 * 0 + _ ≤ _; exact Nat.le_of_eq rfl) (by decide)
  refine own_st st1 ?_
  show own_Go p e below G (T1.setTop (mkF m 4 #[rv r, iv 0, .val pv] []))
  refine own_st (fun t k => XS.aloadN X1.here hx rfl (hb hby d5_4) rfl rfl  k) ?_
  show own_Go p e below G (T1.setTop (mkF m 5 #[rv r, iv 0, .val pv] [(.ref r)]))
  refine own_st (fun t k => XS.iloadN X1.here hx rfl (hb hby d5_5) rfl  k) ?_
  show own_Go p e below G (T1.setTop (mkF m 6 #[rv r, iv 0, .val pv] [(.int (0 : Int32)), (.ref r)]))
  obtain ⟨T2, h2, k2, X2, e2, E2, A2, st2⟩ := newP X1 hx hZ (hw _ (List.mem_of_getElem? (i := 0) rfl)) e1 (g := (mkF m 6 #[rv r, iv 0, .val pv] [(.int (0 : Int32)), (.ref r)])) rfl (hb hby d5_6) rfl (by decide) (cap := 0) (by decide) (by decide) (by decide) (by decide)
  obtain ⟨b2, gb2⟩ : ∃ z, z = h0.size := ⟨_, rfl⟩
  rw [← gb2] at A2 st2
  have g_b2 : n0 ≤ b2 := Nat.le_trans Z0 (Nat.le_of_eq gb2.symm)
  have ne_r_b2 : r ≠ b2 := Nat.ne_of_lt (Nat.lt_of_lt_of_le E_r.lt (Nat.le_of_eq gb2.symm))
  replace Z0 := Nat.le_trans Z0 E2.1
  replace E_r := E_r.ext E2
  replace F_numbers_r := F_numbers_r.ext E2
  replace F_cosines_r := F_cosines_r.ext E2
  replace F_places_r := F_places_r.ext E2
  replace F_size_r := F_size_r.ext E2
  replace Pl := own_PlE (own_Pln Pl (Nat.le_of_eq gb2.symm)) E2
  have V_b2 : Arv Z h2 b2 k2 .int (0 : Int32) [] (.int (0 : Int32)) := (Arv.new A2 (by decide)).pad (pad_rep [] (.int (0 : Int32)) 0)
  refine own_st st2 ?_
  show own_Go p e below G (T2.setTop (mkF m 8 #[rv r, iv 0, .val pv] [(.ref b2), (.ref r)]))
  obtain ⟨T3, h3, X3, e3, W3, st3⟩ := putF X2 hx hZ hown (host := "") (Or.inl (hw _ (List.mem_of_getElem? (i := 10) rfl))) Via.refl e2 F_numbers_r E_r (Or.inr ⟨(hw _ (List.mem_of_getElem? (i := 11) rfl)), rfl, hnm⟩) (hw _ (List.mem_of_getElem? (i := 2) rfl)) (ty := (.array .int)) (by decide) rfl rfl (g := (mkF m 8 #[rv r, iv 0, .val pv] [(.ref b2), (.ref r)])) rfl rfl (hb hby d5_8)
  replace E_r := E_r.wr W3
  replace F_numbers_r := F_numbers_r.same W3
  replace F_cosines_r := F_cosines_r.other W3 (Or.inr (slot_ne (Or.inr (hw _ (List.mem_of_getElem? (i := 14) rfl))) (Or.inr (hw _ (List.mem_of_getElem? (i := 11) rfl))) (by decide) (t := (.array .double)) (t' := (.array .int)) (by decide) (by decide)))
  replace F_places_r := F_places_r.other W3 (Or.inr (slot_ne (Or.inr (hw _ (List.mem_of_getElem? (i := 16) rfl))) (Or.inr (hw _ (List.mem_of_getElem? (i := 11) rfl))) (by decide) (t := (.array .int)) (t' := (.array .int)) (by decide) (by decide)))
  replace F_size_r := F_size_r.other W3 (Or.inr (slot_ne (Or.inl (hw _ (List.mem_of_getElem? (i := 23) rfl))) (Or.inr (hw _ (List.mem_of_getElem? (i := 11) rfl))) (by decide) (t := .int) (t' := (.array .int)) (by decide) (by decide)))
  replace Pl := own_PlW Pl W3 (List.mem_of_getElem? (i := 1) rfl)
  replace V_b2 := V_b2.other W3 (Ne.symm ne_r_b2)
  replace Z0 := Nat.le_trans Z0 (Keep.of_wr W3).1
  replace N0 := Fr.snoc X3 N0 g_r
  refine own_st st3 ?_
  show own_Go p e below G (T3.setTop (mkF m 11 #[rv r, iv 0, .val pv] []))
  refine own_st (fun t k => XS.aloadN X3.here hx rfl (hb hby d5_11) rfl rfl  k) ?_
  show own_Go p e below G (T3.setTop (mkF m 12 #[rv r, iv 0, .val pv] [(.ref r)]))
  refine own_st (fun t k => XS.iloadN X3.here hx rfl (hb hby d5_12) rfl  k) ?_
  show own_Go p e below G (T3.setTop (mkF m 13 #[rv r, iv 0, .val pv] [(.int (0 : Int32)), (.ref r)]))
  obtain ⟨T4, h4, k4, X4, e4, E4, A4, st4⟩ := newP X3 hx hZ (hw _ (List.mem_of_getElem? (i := 12) rfl)) e3 (g := (mkF m 13 #[rv r, iv 0, .val pv] [(.int (0 : Int32)), (.ref r)])) rfl (hb hby d5_13) rfl (by decide) (cap := 0) (by decide) (by decide) (by decide) (by decide)
  obtain ⟨b4, gb4⟩ : ∃ z, z = h3.size := ⟨_, rfl⟩
  rw [← gb4] at A4 st4
  have g_b4 : n0 ≤ b4 := Nat.le_trans Z0 (Nat.le_of_eq gb4.symm)
  have ne_r_b4 : r ≠ b4 := Nat.ne_of_lt (Nat.lt_of_lt_of_le E_r.lt (Nat.le_of_eq gb4.symm))
  have ne_b2_b4 : b2 ≠ b4 := Nat.ne_of_lt (Nat.lt_of_lt_of_le V_b2.lt (Nat.le_of_eq gb4.symm))
  replace Z0 := Nat.le_trans Z0 E4.1
  replace E_r := E_r.ext E4
  replace F_numbers_r := F_numbers_r.ext E4
  replace F_cosines_r := F_cosines_r.ext E4
  replace F_places_r := F_places_r.ext E4
  replace F_size_r := F_size_r.ext E4
  replace Pl := own_PlE (own_Pln Pl (Nat.le_of_eq gb4.symm)) E4
  replace V_b2 := V_b2.ext E4
  have V_b4 : Arv Z h4 b4 k4 .double (0 : Int32) [] (.double (0 : UInt64)) := (Arv.new A4 (by decide)).pad (pad_rep [] (.double (0 : UInt64)) 0)
  refine own_st st4 ?_
  show own_Go p e below G (T4.setTop (mkF m 15 #[rv r, iv 0, .val pv] [(.ref b4), (.ref r)]))
  obtain ⟨T5, h5, X5, e5, W5, st5⟩ := putF X4 hx hZ hown (host := "") (Or.inl (hw _ (List.mem_of_getElem? (i := 13) rfl))) Via.refl e4 F_cosines_r E_r (Or.inr ⟨(hw _ (List.mem_of_getElem? (i := 14) rfl)), rfl, hnm⟩) (hw _ (List.mem_of_getElem? (i := 2) rfl)) (ty := (.array .double)) (by decide) rfl rfl (g := (mkF m 15 #[rv r, iv 0, .val pv] [(.ref b4), (.ref r)])) rfl rfl (hb hby d5_15)
  replace E_r := E_r.wr W5
  replace F_numbers_r := F_numbers_r.other W5 (Or.inr (slot_ne (Or.inr (hw _ (List.mem_of_getElem? (i := 11) rfl))) (Or.inr (hw _ (List.mem_of_getElem? (i := 14) rfl))) (by decide) (t := (.array .int)) (t' := (.array .double)) (by decide) (by decide)))
  replace F_cosines_r := F_cosines_r.same W5
  replace F_places_r := F_places_r.other W5 (Or.inr (slot_ne (Or.inr (hw _ (List.mem_of_getElem? (i := 16) rfl))) (Or.inr (hw _ (List.mem_of_getElem? (i := 14) rfl))) (by decide) (t := (.array .int)) (t' := (.array .double)) (by decide) (by decide)))
  replace F_size_r := F_size_r.other W5 (Or.inr (slot_ne (Or.inl (hw _ (List.mem_of_getElem? (i := 23) rfl))) (Or.inr (hw _ (List.mem_of_getElem? (i := 14) rfl))) (by decide) (t := .int) (t' := (.array .double)) (by decide) (by decide)))
  replace Pl := own_PlW Pl W5 (List.mem_of_getElem? (i := 2) rfl)
  replace V_b2 := V_b2.other W5 (Ne.symm ne_r_b2)
  replace V_b4 := V_b4.other W5 (Ne.symm ne_r_b4)
  replace Z0 := Nat.le_trans Z0 (Keep.of_wr W5).1
  replace N0 := Fr.snoc X5 N0 g_r
  refine own_st st5 ?_
  show own_Go p e below G (T5.setTop (mkF m 18 #[rv r, iv 0, .val pv] []))
  refine own_st (fun t k => XS.aloadN X5.here hx rfl (hb hby d5_18) rfl rfl  k) ?_
  show own_Go p e below G (T5.setTop (mkF m 19 #[rv r, iv 0, .val pv] [(.ref r)]))
  refine own_st (fun t k => XS.aloadN X5.here hx rfl (hb hby d5_19) rfl (own_PlR Pl)  k) ?_
  show own_Go p e below G (T5.setTop (mkF m 20 #[rv r, iv 0, .val pv] [pv, (.ref r)]))
  obtain ⟨T6, h6, X6, e6, W6, st6⟩ := putF X5 hx hZ hown (host := "") (Or.inl (hw _ (List.mem_of_getElem? (i := 15) rfl))) Via.refl e5 F_places_r E_r (Or.inr ⟨(hw _ (List.mem_of_getElem? (i := 16) rfl)), rfl, hnm⟩) (hw _ (List.mem_of_getElem? (i := 2) rfl)) (ty := (.array .int)) (by decide) (own_PlN Pl) (own_PlF Pl) (g := (mkF m 20 #[rv r, iv 0, .val pv] [pv, (.ref r)])) rfl rfl (hb hby d5_20)
  replace E_r := E_r.wr W6
  replace F_numbers_r := F_numbers_r.other W6 (Or.inr (slot_ne (Or.inr (hw _ (List.mem_of_getElem? (i := 11) rfl))) (Or.inr (hw _ (List.mem_of_getElem? (i := 16) rfl))) (by decide) (t := (.array .int)) (t' := (.array .int)) (by decide) (by decide)))
  replace F_cosines_r := F_cosines_r.other W6 (Or.inr (slot_ne (Or.inr (hw _ (List.mem_of_getElem? (i := 14) rfl))) (Or.inr (hw _ (List.mem_of_getElem? (i := 16) rfl))) (by decide) (t := (.array .double)) (t' := (.array .int)) (by decide) (by decide)))
  replace F_places_r := F_places_r.same W6
  replace F_size_r := F_size_r.other W6 (Or.inr (slot_ne (Or.inl (hw _ (List.mem_of_getElem? (i := 23) rfl))) (Or.inr (hw _ (List.mem_of_getElem? (i := 16) rfl))) (by decide) (t := .int) (t' := (.array .int)) (by decide) (by decide)))
  replace Pl := own_PlW Pl W6 (List.mem_of_getElem? (i := 2) rfl)
  replace V_b2 := V_b2.other W6 (Ne.symm ne_r_b2)
  replace V_b4 := V_b4.other W6 (Ne.symm ne_r_b4)
  replace Z0 := Nat.le_trans Z0 (Keep.of_wr W6).1
  replace N0 := Fr.snoc X6 N0 g_r
  refine own_st st6 ?_
  show own_Go p e below G (T6.setTop (mkF m 23 #[rv r, iv 0, .val pv] []))
  rw [hG]
  have Pl' : own_Pl Z h6 pv [r, b2, b4] := by
    rcases Pl with rfl | ⟨pa, kp, q0, q1, q2, q3, rfl, V, n⟩
    · exact Or.inl rfl
    · exact Or.inr ⟨pa, kp, q0, q1, q2, q3, rfl, V, fun q => n (by simp only [List.mem_cons, List.not_mem_nil, or_false] at q ⊢; rcases q with q | q | q <;> simp [q])⟩
  exact own_retV X6 hx hlk hret (hb hby d5_23) (by rw [e6]; exact ⟨rfl, N0, b2, b4, k2, k4, E_r, F_numbers_r, F_cosines_r, F_places_r, F_size_r, V_b2, V_b4, Pl', ne_r_b2, ne_r_b4, ne_b2_b4, g_r, g_b2, g_b4, Z0⟩) (by decide) (by decide)
theorem pn_rmC1 : plainFor (⟨"com/example/thinleaf/thinleaf/prune/Nearest", "<init>", "(I[I)V"⟩ : MethodName) = true := by decide +kernel
theorem ef_rmC1 (m : MethodId) (x0 : Addr) (x1 : Int32) (x2 : Value) (c2 : x2.isRef = true) : entryFrame m #[(.ref x0), (.int x1), x2] 3 = mkF m 0 #[rv x0, iv x1, .val x2] [] := by rcases ref_cases c2 with rfl | ⟨_, rfl⟩ <;> first | (simp [entryFrame, mkF, argsToLocals, Value.category]; done) | rfl
set_option maxRecDepth 65536 in
set_option maxHeartbeats 40000000 in
theorem rmC1 (l : Launch) (Z : State) (a0 : Array Value) (hw : ∀ d ∈ tables_1, d.before a0 Z = true) (r : Addr) (pv : Value) (h0 : Heap) (n0 : Nat) (Z0 : n0 ≤ h0.size) (g_r : n0 ≤ r) (Pl : own_Pl Z h0 pv [r]) (E_r : Exa Z h0 r "com/example/thinleaf/thinleaf/prune/Nearest") (F_numbers_r : Fld Z h0 r "com/example/thinleaf/thinleaf/prune/Nearest" "numbers" "[I" .null) (F_cosines_r : Fld Z h0 r "com/example/thinleaf/thinleaf/prune/Nearest" "cosines" "[D" .null) (F_places_r : Fld Z h0 r "com/example/thinleaf/thinleaf/prune/Nearest" "places" "[I" .null) (F_size_r : Fld Z h0 r "com/example/thinleaf/thinleaf/prune/Nearest" "size" "I" (.int (0 : Int32))) :
    own_Met l Z (⟨"com/example/thinleaf/thinleaf/prune/Nearest", "<init>", "(I[I)V"⟩ : MethodName) prog_219_method_2_code 3 none [] ({ frames := 1, cells := 2, slots := 2, locals := 12 } : Room) #[(.ref r), (.int (1 : Int32)), pv] h0 (fun z h L => z = none ∧ Fr n0 L ∧ ∃ (bn bc : Addr) (kn kc : ClassId), own_NE Z h n0 r bn bc kn kc pv (1 : Int32) (0 : Int32) [(.int (0 : Int32))] [(.double (0 : UInt64))]) := by
  refine own_body pn_rmC1 ?_
  intro p e s m below meth c s₁ hx hby hml hown hnm hret hlk hZ X0 e0 G hG
  replace hml : c.maxLocals = 3 := hml
  replace hown : s.vm.findClass "com/example/thinleaf/thinleaf/prune/Nearest" = some m.cls := hown
  rw [ef_rmC1 m r (1 : Int32) pv (own_PlR Pl)]
  have N0 := Fr.nil n0
  show own_Go p e below G (s₁.setTop (mkF m 0 #[rv r, iv 1, .val pv] []))
  refine own_st (fun t k => XS.aloadN X0.here hx rfl (hb hby d5_0) rfl rfl  k) ?_
  show own_Go p e below G (s₁.setTop (mkF m 1 #[rv r, iv 1, .val pv] [(.ref r)]))
  obtain ⟨T1, X1, e1, st1⟩ := initO X0 hx hZ hown (hw _ (List.mem_of_getElem? (i := 7) rfl)) (hw _ (List.mem_of_getElem? (i := 8) rfl)) (hw _ (List.mem_of_getElem? (i := 9) rfl)) e0 (g := (mkF m 1 #[rv r, iv 1, .val pv] [(.ref r)])) rfl (by rw [hml]; rfl) rfl (hb hby d5_1) (by decide) (W := 0) (by show 2 * 0 + _ ≤ _; exact Nat.le_of_eq rfl) (by decide)
  refine own_st st1 ?_
  show own_Go p e below G (T1.setTop (mkF m 4 #[rv r, iv 1, .val pv] []))
  refine own_st (fun t k => XS.aloadN X1.here hx rfl (hb hby d5_4) rfl rfl  k) ?_
  show own_Go p e below G (T1.setTop (mkF m 5 #[rv r, iv 1, .val pv] [(.ref r)]))
  refine own_st (fun t k => XS.iloadN X1.here hx rfl (hb hby d5_5) rfl  k) ?_
  show own_Go p e below G (T1.setTop (mkF m 6 #[rv r, iv 1, .val pv] [(.int (1 : Int32)), (.ref r)]))
  obtain ⟨T2, h2, k2, X2, e2, E2, A2, st2⟩ := newP X1 hx hZ (hw _ (List.mem_of_getElem? (i := 0) rfl)) e1 (g := (mkF m 6 #[rv r, iv 1, .val pv] [(.int (1 : Int32)), (.ref r)])) rfl (hb hby d5_6) rfl (by decide) (cap := 1) (by decide) (by decide) (by decide) (by decide)
  obtain ⟨b2, gb2⟩ : ∃ z, z = h0.size := ⟨_, rfl⟩
  rw [← gb2] at A2 st2
  have g_b2 : n0 ≤ b2 := Nat.le_trans Z0 (Nat.le_of_eq gb2.symm)
  have ne_r_b2 : r ≠ b2 := Nat.ne_of_lt (Nat.lt_of_lt_of_le E_r.lt (Nat.le_of_eq gb2.symm))
  replace Z0 := Nat.le_trans Z0 E2.1
  replace E_r := E_r.ext E2
  replace F_numbers_r := F_numbers_r.ext E2
  replace F_cosines_r := F_cosines_r.ext E2
  replace F_places_r := F_places_r.ext E2
  replace F_size_r := F_size_r.ext E2
  replace Pl := own_PlE (own_Pln Pl (Nat.le_of_eq gb2.symm)) E2
  have V_b2 : Arv Z h2 b2 k2 .int (1 : Int32) [(.int (0 : Int32))] (.int (0 : Int32)) := (Arv.new A2 (by decide)).pad (pad_rep [] (.int (0 : Int32)) 1)
  refine own_st st2 ?_
  show own_Go p e below G (T2.setTop (mkF m 8 #[rv r, iv 1, .val pv] [(.ref b2), (.ref r)]))
  obtain ⟨T3, h3, X3, e3, W3, st3⟩ := putF X2 hx hZ hown (host := "") (Or.inl (hw _ (List.mem_of_getElem? (i := 10) rfl))) Via.refl e2 F_numbers_r E_r (Or.inr ⟨(hw _ (List.mem_of_getElem? (i := 11) rfl)), rfl, hnm⟩) (hw _ (List.mem_of_getElem? (i := 2) rfl)) (ty := (.array .int)) (by decide) rfl rfl (g := (mkF m 8 #[rv r, iv 1, .val pv] [(.ref b2), (.ref r)])) rfl rfl (hb hby d5_8)
  replace E_r := E_r.wr W3
  replace F_numbers_r := F_numbers_r.same W3
  replace F_cosines_r := F_cosines_r.other W3 (Or.inr (slot_ne (Or.inr (hw _ (List.mem_of_getElem? (i := 14) rfl))) (Or.inr (hw _ (List.mem_of_getElem? (i := 11) rfl))) (by decide) (t := (.array .double)) (t' := (.array .int)) (by decide) (by decide)))
  replace F_places_r := F_places_r.other W3 (Or.inr (slot_ne (Or.inr (hw _ (List.mem_of_getElem? (i := 16) rfl))) (Or.inr (hw _ (List.mem_of_getElem? (i := 11) rfl))) (by decide) (t := (.array .int)) (t' := (.array .int)) (by decide) (by decide)))
  replace F_size_r := F_size_r.other W3 (Or.inr (slot_ne (Or.inl (hw _ (List.mem_of_getElem? (i := 23) rfl))) (Or.inr (hw _ (List.mem_of_getElem? (i := 11) rfl))) (by decide) (t := .int) (t' := (.array .int)) (by decide) (by decide)))
  replace Pl := own_PlW Pl W3 (List.mem_of_getElem? (i := 1) rfl)
  replace V_b2 := V_b2.other W3 (Ne.symm ne_r_b2)
  replace Z0 := Nat.le_trans Z0 (Keep.of_wr W3).1
  replace N0 := Fr.snoc X3 N0 g_r
  refine own_st st3 ?_
  show own_Go p e below G (T3.setTop (mkF m 11 #[rv r, iv 1, .val pv] []))
  refine own_st (fun t k => XS.aloadN X3.here hx rfl (hb hby d5_11) rfl rfl  k) ?_
  show own_Go p e below G (T3.setTop (mkF m 12 #[rv r, iv 1, .val pv] [(.ref r)]))
  refine own_st (fun t k => XS.iloadN X3.here hx rfl (hb hby d5_12) rfl  k) ?_
  show own_Go p e below G (T3.setTop (mkF m 13 #[rv r, iv 1, .val pv] [(.int (1 : Int32)), (.ref r)]))
  obtain ⟨T4, h4, k4, X4, e4, E4, A4, st4⟩ := newP X3 hx hZ (hw _ (List.mem_of_getElem? (i := 12) rfl)) e3 (g := (mkF m 13 #[rv r, iv 1, .val pv] [(.int (1 : Int32)), (.ref r)])) rfl (hb hby d5_13) rfl (by decide) (cap := 1) (by decide) (by decide) (by decide) (by decide)
  obtain ⟨b4, gb4⟩ : ∃ z, z = h3.size := ⟨_, rfl⟩
  rw [← gb4] at A4 st4
  have g_b4 : n0 ≤ b4 := Nat.le_trans Z0 (Nat.le_of_eq gb4.symm)
  have ne_r_b4 : r ≠ b4 := Nat.ne_of_lt (Nat.lt_of_lt_of_le E_r.lt (Nat.le_of_eq gb4.symm))
  have ne_b2_b4 : b2 ≠ b4 := Nat.ne_of_lt (Nat.lt_of_lt_of_le V_b2.lt (Nat.le_of_eq gb4.symm))
  replace Z0 := Nat.le_trans Z0 E4.1
  replace E_r := E_r.ext E4
  replace F_numbers_r := F_numbers_r.ext E4
  replace F_cosines_r := F_cosines_r.ext E4
  replace F_places_r := F_places_r.ext E4
  replace F_size_r := F_size_r.ext E4
  replace Pl := own_PlE (own_Pln Pl (Nat.le_of_eq gb4.symm)) E4
  replace V_b2 := V_b2.ext E4
  have V_b4 : Arv Z h4 b4 k4 .double (1 : Int32) [(.double (0 : UInt64))] (.double (0 : UInt64)) := (Arv.new A4 (by decide)).pad (pad_rep [] (.double (0 : UInt64)) 1)
  refine own_st st4 ?_
  show own_Go p e below G (T4.setTop (mkF m 15 #[rv r, iv 1, .val pv] [(.ref b4), (.ref r)]))
  obtain ⟨T5, h5, X5, e5, W5, st5⟩ := putF X4 hx hZ hown (host := "") (Or.inl (hw _ (List.mem_of_getElem? (i := 13) rfl))) Via.refl e4 F_cosines_r E_r (Or.inr ⟨(hw _ (List.mem_of_getElem? (i := 14) rfl)), rfl, hnm⟩) (hw _ (List.mem_of_getElem? (i := 2) rfl)) (ty := (.array .double)) (by decide) rfl rfl (g := (mkF m 15 #[rv r, iv 1, .val pv] [(.ref b4), (.ref r)])) rfl rfl (hb hby d5_15)
  replace E_r := E_r.wr W5
  replace F_numbers_r := F_numbers_r.other W5 (Or.inr (slot_ne (Or.inr (hw _ (List.mem_of_getElem? (i := 11) rfl))) (Or.inr (hw _ (List.mem_of_getElem? (i := 14) rfl))) (by decide) (t := (.array .int)) (t' := (.array .double)) (by decide) (by decide)))
  replace F_cosines_r := F_cosines_r.same W5
  replace F_places_r := F_places_r.other W5 (Or.inr (slot_ne (Or.inr (hw _ (List.mem_of_getElem? (i := 16) rfl))) (Or.inr (hw _ (List.mem_of_getElem? (i := 14) rfl))) (by decide) (t := (.array .int)) (t' := (.array .double)) (by decide) (by decide)))
  replace F_size_r := F_size_r.other W5 (Or.inr (slot_ne (Or.inl (hw _ (List.mem_of_getElem? (i := 23) rfl))) (Or.inr (hw _ (List.mem_of_getElem? (i := 14) rfl))) (by decide) (t := .int) (t' := (.array .double)) (by decide) (by decide)))
  replace Pl := own_PlW Pl W5 (List.mem_of_getElem? (i := 2) rfl)
  replace V_b2 := V_b2.other W5 (Ne.symm ne_r_b2)
  replace V_b4 := V_b4.other W5 (Ne.symm ne_r_b4)
  replace Z0 := Nat.le_trans Z0 (Keep.of_wr W5).1
  replace N0 := Fr.snoc X5 N0 g_r
  refine own_st st5 ?_
  show own_Go p e below G (T5.setTop (mkF m 18 #[rv r, iv 1, .val pv] []))
  refine own_st (fun t k => XS.aloadN X5.here hx rfl (hb hby d5_18) rfl rfl  k) ?_
  show own_Go p e below G (T5.setTop (mkF m 19 #[rv r, iv 1, .val pv] [(.ref r)]))
  refine own_st (fun t k => XS.aloadN X5.here hx rfl (hb hby d5_19) rfl (own_PlR Pl)  k) ?_
  show own_Go p e below G (T5.setTop (mkF m 20 #[rv r, iv 1, .val pv] [pv, (.ref r)]))
  obtain ⟨T6, h6, X6, e6, W6, st6⟩ := putF X5 hx hZ hown (host := "") (Or.inl (hw _ (List.mem_of_getElem? (i := 15) rfl))) Via.refl e5 F_places_r E_r (Or.inr ⟨(hw _ (List.mem_of_getElem? (i := 16) rfl)), rfl, hnm⟩) (hw _ (List.mem_of_getElem? (i := 2) rfl)) (ty := (.array .int)) (by decide) (own_PlN Pl) (own_PlF Pl) (g := (mkF m 20 #[rv r, iv 1, .val pv] [pv, (.ref r)])) rfl rfl (hb hby d5_20)
  replace E_r := E_r.wr W6
  replace F_numbers_r := F_numbers_r.other W6 (Or.inr (slot_ne (Or.inr (hw _ (List.mem_of_getElem? (i := 11) rfl))) (Or.inr (hw _ (List.mem_of_getElem? (i := 16) rfl))) (by decide) (t := (.array .int)) (t' := (.array .int)) (by decide) (by decide)))
  replace F_cosines_r := F_cosines_r.other W6 (Or.inr (slot_ne (Or.inr (hw _ (List.mem_of_getElem? (i := 14) rfl))) (Or.inr (hw _ (List.mem_of_getElem? (i := 16) rfl))) (by decide) (t := (.array .double)) (t' := (.array .int)) (by decide) (by decide)))
  replace F_places_r := F_places_r.same W6
  replace F_size_r := F_size_r.other W6 (Or.inr (slot_ne (Or.inl (hw _ (List.mem_of_getElem? (i := 23) rfl))) (Or.inr (hw _ (List.mem_of_getElem? (i := 16) rfl))) (by decide) (t := .int) (t' := (.array .int)) (by decide) (by decide)))
  replace Pl := own_PlW Pl W6 (List.mem_of_getElem? (i := 2) rfl)
  replace V_b2 := V_b2.other W6 (Ne.symm ne_r_b2)
  replace V_b4 := V_b4.other W6 (Ne.symm ne_r_b4)
  replace Z0 := Nat.le_trans Z0 (Keep.of_wr W6).1
  replace N0 := Fr.snoc X6 N0 g_r
  refine own_st st6 ?_
  show own_Go p e below G (T6.setTop (mkF m 23 #[rv r, iv 1, .val pv] []))
  rw [hG]
  have Pl' : own_Pl Z h6 pv [r, b2, b4] := by
    rcases Pl with rfl | ⟨pa, kp, q0, q1, q2, q3, rfl, V, n⟩
    · exact Or.inl rfl
    · exact Or.inr ⟨pa, kp, q0, q1, q2, q3, rfl, V, fun q => n (by simp only [List.mem_cons, List.not_mem_nil, or_false] at q ⊢; rcases q with q | q | q <;> simp [q])⟩
  exact own_retV X6 hx hlk hret (hb hby d5_23) (by rw [e6]; exact ⟨rfl, N0, b2, b4, k2, k4, E_r, F_numbers_r, F_cosines_r, F_places_r, F_size_r, V_b2, V_b4, Pl', ne_r_b2, ne_r_b4, ne_b2_b4, g_r, g_b2, g_b4, Z0⟩) (by decide) (by decide)
theorem pn_rmC2 : plainFor (⟨"com/example/thinleaf/thinleaf/prune/Nearest", "<init>", "(I[I)V"⟩ : MethodName) = true := by decide +kernel
theorem ef_rmC2 (m : MethodId) (x0 : Addr) (x1 : Int32) (x2 : Value) (c2 : x2.isRef = true) : entryFrame m #[(.ref x0), (.int x1), x2] 3 = mkF m 0 #[rv x0, iv x1, .val x2] [] := by rcases ref_cases c2 with rfl | ⟨_, rfl⟩ <;> first | (simp [entryFrame, mkF, argsToLocals, Value.category]; done) | rfl
set_option maxRecDepth 65536 in
set_option maxHeartbeats 40000000 in
theorem rmC2 (l : Launch) (Z : State) (a0 : Array Value) (hw : ∀ d ∈ tables_1, d.before a0 Z = true) (r : Addr) (pv : Value) (h0 : Heap) (n0 : Nat) (Z0 : n0 ≤ h0.size) (g_r : n0 ≤ r) (Pl : own_Pl Z h0 pv [r]) (E_r : Exa Z h0 r "com/example/thinleaf/thinleaf/prune/Nearest") (F_numbers_r : Fld Z h0 r "com/example/thinleaf/thinleaf/prune/Nearest" "numbers" "[I" .null) (F_cosines_r : Fld Z h0 r "com/example/thinleaf/thinleaf/prune/Nearest" "cosines" "[D" .null) (F_places_r : Fld Z h0 r "com/example/thinleaf/thinleaf/prune/Nearest" "places" "[I" .null) (F_size_r : Fld Z h0 r "com/example/thinleaf/thinleaf/prune/Nearest" "size" "I" (.int (0 : Int32))) :
    own_Met l Z (⟨"com/example/thinleaf/thinleaf/prune/Nearest", "<init>", "(I[I)V"⟩ : MethodName) prog_219_method_2_code 3 none [] ({ frames := 1, cells := 2, slots := 4, locals := 12 } : Room) #[(.ref r), (.int (2 : Int32)), pv] h0 (fun z h L => z = none ∧ Fr n0 L ∧ ∃ (bn bc : Addr) (kn kc : ClassId), own_NE Z h n0 r bn bc kn kc pv (2 : Int32) (0 : Int32) [(.int (0 : Int32)), (.int (0 : Int32))] [(.double (0 : UInt64)), (.double (0 : UInt64))]) := by
  refine own_body pn_rmC2 ?_
  intro p e s m below meth c s₁ hx hby hml hown hnm hret hlk hZ X0 e0 G hG
  replace hml : c.maxLocals = 3 := hml
  replace hown : s.vm.findClass "com/example/thinleaf/thinleaf/prune/Nearest" = some m.cls := hown
  rw [ef_rmC2 m r (2 : Int32) pv (own_PlR Pl)]
  have N0 := Fr.nil n0
  show own_Go p e below G (s₁.setTop (mkF m 0 #[rv r, iv 2, .val pv] []))
  refine own_st (fun t k => XS.aloadN X0.here hx rfl (hb hby d5_0) rfl rfl  k) ?_
  show own_Go p e below G (s₁.setTop (mkF m 1 #[rv r, iv 2, .val pv] [(.ref r)]))
  obtain ⟨T1, X1, e1, st1⟩ := initO X0 hx hZ hown (hw _ (List.mem_of_getElem? (i := 7) rfl)) (hw _ (List.mem_of_getElem? (i := 8) rfl)) (hw _ (List.mem_of_getElem? (i := 9) rfl)) e0 (g := (mkF m 1 #[rv r, iv 2, .val pv] [(.ref r)])) rfl (by rw [hml]; rfl) rfl (hb hby d5_1) (by decide) (W := 0) (by show 2 * 0 + _ ≤ _; exact Nat.le_of_eq rfl) (by decide)
  refine own_st st1 ?_
  show own_Go p e below G (T1.setTop (mkF m 4 #[rv r, iv 2, .val pv] []))
  refine own_st (fun t k => XS.aloadN X1.here hx rfl (hb hby d5_4) rfl rfl  k) ?_
  show own_Go p e below G (T1.setTop (mkF m 5 #[rv r, iv 2, .val pv] [(.ref r)]))
  refine own_st (fun t k => XS.iloadN X1.here hx rfl (hb hby d5_5) rfl  k) ?_
  show own_Go p e below G (T1.setTop (mkF m 6 #[rv r, iv 2, .val pv] [(.int (2 : Int32)), (.ref r)]))
  obtain ⟨T2, h2, k2, X2, e2, E2, A2, st2⟩ := newP X1 hx hZ (hw _ (List.mem_of_getElem? (i := 0) rfl)) e1 (g := (mkF m 6 #[rv r, iv 2, .val pv] [(.int (2 : Int32)), (.ref r)])) rfl (hb hby d5_6) rfl (by decide) (cap := 2) (by decide) (by decide) (by decide) (by decide)
  obtain ⟨b2, gb2⟩ : ∃ z, z = h0.size := ⟨_, rfl⟩
  rw [← gb2] at A2 st2
  have g_b2 : n0 ≤ b2 := Nat.le_trans Z0 (Nat.le_of_eq gb2.symm)
  have ne_r_b2 : r ≠ b2 := Nat.ne_of_lt (Nat.lt_of_lt_of_le E_r.lt (Nat.le_of_eq gb2.symm))
  replace Z0 := Nat.le_trans Z0 E2.1
  replace E_r := E_r.ext E2
  replace F_numbers_r := F_numbers_r.ext E2
  replace F_cosines_r := F_cosines_r.ext E2
  replace F_places_r := F_places_r.ext E2
  replace F_size_r := F_size_r.ext E2
  replace Pl := own_PlE (own_Pln Pl (Nat.le_of_eq gb2.symm)) E2
  have V_b2 : Arv Z h2 b2 k2 .int (2 : Int32) [(.int (0 : Int32)), (.int (0 : Int32))] (.int (0 : Int32)) := (Arv.new A2 (by decide)).pad (pad_rep [] (.int (0 : Int32)) 2)
  refine own_st st2 ?_
  show own_Go p e below G (T2.setTop (mkF m 8 #[rv r, iv 2, .val pv] [(.ref b2), (.ref r)]))
  obtain ⟨T3, h3, X3, e3, W3, st3⟩ := putF X2 hx hZ hown (host := "") (Or.inl (hw _ (List.mem_of_getElem? (i := 10) rfl))) Via.refl e2 F_numbers_r E_r (Or.inr ⟨(hw _ (List.mem_of_getElem? (i := 11) rfl)), rfl, hnm⟩) (hw _ (List.mem_of_getElem? (i := 2) rfl)) (ty := (.array .int)) (by decide) rfl rfl (g := (mkF m 8 #[rv r, iv 2, .val pv] [(.ref b2), (.ref r)])) rfl rfl (hb hby d5_8)
  replace E_r := E_r.wr W3
  replace F_numbers_r := F_numbers_r.same W3
  replace F_cosines_r := F_cosines_r.other W3 (Or.inr (slot_ne (Or.inr (hw _ (List.mem_of_getElem? (i := 14) rfl))) (Or.inr (hw _ (List.mem_of_getElem? (i := 11) rfl))) (by decide) (t := (.array .double)) (t' := (.array .int)) (by decide) (by decide)))
  replace F_places_r := F_places_r.other W3 (Or.inr (slot_ne (Or.inr (hw _ (List.mem_of_getElem? (i := 16) rfl))) (Or.inr (hw _ (List.mem_of_getElem? (i := 11) rfl))) (by decide) (t := (.array .int)) (t' := (.array .int)) (by decide) (by decide)))
  replace F_size_r := F_size_r.other W3 (Or.inr (slot_ne (Or.inl (hw _ (List.mem_of_getElem? (i := 23) rfl))) (Or.inr (hw _ (List.mem_of_getElem? (i := 11) rfl))) (by decide) (t := .int) (t' := (.array .int)) (by decide) (by decide)))
  replace Pl := own_PlW Pl W3 (List.mem_of_getElem? (i := 1) rfl)
  replace V_b2 := V_b2.other W3 (Ne.symm ne_r_b2)
  replace Z0 := Nat.le_trans Z0 (Keep.of_wr W3).1
  replace N0 := Fr.snoc X3 N0 g_r
  refine own_st st3 ?_
  show own_Go p e below G (T3.setTop (mkF m 11 #[rv r, iv 2, .val pv] []))
  refine own_st (fun t k => XS.aloadN X3.here hx rfl (hb hby d5_11) rfl rfl  k) ?_
  show own_Go p e below G (T3.setTop (mkF m 12 #[rv r, iv 2, .val pv] [(.ref r)]))
  refine own_st (fun t k => XS.iloadN X3.here hx rfl (hb hby d5_12) rfl  k) ?_
  show own_Go p e below G (T3.setTop (mkF m 13 #[rv r, iv 2, .val pv] [(.int (2 : Int32)), (.ref r)]))
  obtain ⟨T4, h4, k4, X4, e4, E4, A4, st4⟩ := newP X3 hx hZ (hw _ (List.mem_of_getElem? (i := 12) rfl)) e3 (g := (mkF m 13 #[rv r, iv 2, .val pv] [(.int (2 : Int32)), (.ref r)])) rfl (hb hby d5_13) rfl (by decide) (cap := 2) (by decide) (by decide) (by decide) (by decide)
  obtain ⟨b4, gb4⟩ : ∃ z, z = h3.size := ⟨_, rfl⟩
  rw [← gb4] at A4 st4
  have g_b4 : n0 ≤ b4 := Nat.le_trans Z0 (Nat.le_of_eq gb4.symm)
  have ne_r_b4 : r ≠ b4 := Nat.ne_of_lt (Nat.lt_of_lt_of_le E_r.lt (Nat.le_of_eq gb4.symm))
  have ne_b2_b4 : b2 ≠ b4 := Nat.ne_of_lt (Nat.lt_of_lt_of_le V_b2.lt (Nat.le_of_eq gb4.symm))
  replace Z0 := Nat.le_trans Z0 E4.1
  replace E_r := E_r.ext E4
  replace F_numbers_r := F_numbers_r.ext E4
  replace F_cosines_r := F_cosines_r.ext E4
  replace F_places_r := F_places_r.ext E4
  replace F_size_r := F_size_r.ext E4
  replace Pl := own_PlE (own_Pln Pl (Nat.le_of_eq gb4.symm)) E4
  replace V_b2 := V_b2.ext E4
  have V_b4 : Arv Z h4 b4 k4 .double (2 : Int32) [(.double (0 : UInt64)), (.double (0 : UInt64))] (.double (0 : UInt64)) := (Arv.new A4 (by decide)).pad (pad_rep [] (.double (0 : UInt64)) 2)
  refine own_st st4 ?_
  show own_Go p e below G (T4.setTop (mkF m 15 #[rv r, iv 2, .val pv] [(.ref b4), (.ref r)]))
  obtain ⟨T5, h5, X5, e5, W5, st5⟩ := putF X4 hx hZ hown (host := "") (Or.inl (hw _ (List.mem_of_getElem? (i := 13) rfl))) Via.refl e4 F_cosines_r E_r (Or.inr ⟨(hw _ (List.mem_of_getElem? (i := 14) rfl)), rfl, hnm⟩) (hw _ (List.mem_of_getElem? (i := 2) rfl)) (ty := (.array .double)) (by decide) rfl rfl (g := (mkF m 15 #[rv r, iv 2, .val pv] [(.ref b4), (.ref r)])) rfl rfl (hb hby d5_15)
  replace E_r := E_r.wr W5
  replace F_numbers_r := F_numbers_r.other W5 (Or.inr (slot_ne (Or.inr (hw _ (List.mem_of_getElem? (i := 11) rfl))) (Or.inr (hw _ (List.mem_of_getElem? (i := 14) rfl))) (by decide) (t := (.array .int)) (t' := (.array .double)) (by decide) (by decide)))
  replace F_cosines_r := F_cosines_r.same W5
  replace F_places_r := F_places_r.other W5 (Or.inr (slot_ne (Or.inr (hw _ (List.mem_of_getElem? (i := 16) rfl))) (Or.inr (hw _ (List.mem_of_getElem? (i := 14) rfl))) (by decide) (t := (.array .int)) (t' := (.array .double)) (by decide) (by decide)))
  replace F_size_r := F_size_r.other W5 (Or.inr (slot_ne (Or.inl (hw _ (List.mem_of_getElem? (i := 23) rfl))) (Or.inr (hw _ (List.mem_of_getElem? (i := 14) rfl))) (by decide) (t := .int) (t' := (.array .double)) (by decide) (by decide)))
  replace Pl := own_PlW Pl W5 (List.mem_of_getElem? (i := 2) rfl)
  replace V_b2 := V_b2.other W5 (Ne.symm ne_r_b2)
  replace V_b4 := V_b4.other W5 (Ne.symm ne_r_b4)
  replace Z0 := Nat.le_trans Z0 (Keep.of_wr W5).1
  replace N0 := Fr.snoc X5 N0 g_r
  refine own_st st5 ?_
  show own_Go p e below G (T5.setTop (mkF m 18 #[rv r, iv 2, .val pv] []))
  refine own_st (fun t k => XS.aloadN X5.here hx rfl (hb hby d5_18) rfl rfl  k) ?_
  show own_Go p e below G (T5.setTop (mkF m 19 #[rv r, iv 2, .val pv] [(.ref r)]))
  refine own_st (fun t k => XS.aloadN X5.here hx rfl (hb hby d5_19) rfl (own_PlR Pl)  k) ?_
  show own_Go p e below G (T5.setTop (mkF m 20 #[rv r, iv 2, .val pv] [pv, (.ref r)]))
  obtain ⟨T6, h6, X6, e6, W6, st6⟩ := putF X5 hx hZ hown (host := "") (Or.inl (hw _ (List.mem_of_getElem? (i := 15) rfl))) Via.refl e5 F_places_r E_r (Or.inr ⟨(hw _ (List.mem_of_getElem? (i := 16) rfl)), rfl, hnm⟩) (hw _ (List.mem_of_getElem? (i := 2) rfl)) (ty := (.array .int)) (by decide) (own_PlN Pl) (own_PlF Pl) (g := (mkF m 20 #[rv r, iv 2, .val pv] [pv, (.ref r)])) rfl rfl (hb hby d5_20)
  replace E_r := E_r.wr W6
  replace F_numbers_r := F_numbers_r.other W6 (Or.inr (slot_ne (Or.inr (hw _ (List.mem_of_getElem? (i := 11) rfl))) (Or.inr (hw _ (List.mem_of_getElem? (i := 16) rfl))) (by decide) (t := (.array .int)) (t' := (.array .int)) (by decide) (by decide)))
  replace F_cosines_r := F_cosines_r.other W6 (Or.inr (slot_ne (Or.inr (hw _ (List.mem_of_getElem? (i := 14) rfl))) (Or.inr (hw _ (List.mem_of_getElem? (i := 16) rfl))) (by decide) (t := (.array .double)) (t' := (.array .int)) (by decide) (by decide)))
  replace F_places_r := F_places_r.same W6
  replace F_size_r := F_size_r.other W6 (Or.inr (slot_ne (Or.inl (hw _ (List.mem_of_getElem? (i := 23) rfl))) (Or.inr (hw _ (List.mem_of_getElem? (i := 16) rfl))) (by decide) (t := .int) (t' := (.array .int)) (by decide) (by decide)))
  replace Pl := own_PlW Pl W6 (List.mem_of_getElem? (i := 2) rfl)
  replace V_b2 := V_b2.other W6 (Ne.symm ne_r_b2)
  replace V_b4 := V_b4.other W6 (Ne.symm ne_r_b4)
  replace Z0 := Nat.le_trans Z0 (Keep.of_wr W6).1
  replace N0 := Fr.snoc X6 N0 g_r
  refine own_st st6 ?_
  show own_Go p e below G (T6.setTop (mkF m 23 #[rv r, iv 2, .val pv] []))
  rw [hG]
  have Pl' : own_Pl Z h6 pv [r, b2, b4] := by
    rcases Pl with rfl | ⟨pa, kp, q0, q1, q2, q3, rfl, V, n⟩
    · exact Or.inl rfl
    · exact Or.inr ⟨pa, kp, q0, q1, q2, q3, rfl, V, fun q => n (by simp only [List.mem_cons, List.not_mem_nil, or_false] at q ⊢; rcases q with q | q | q <;> simp [q])⟩
  exact own_retV X6 hx hlk hret (hb hby d5_23) (by rw [e6]; exact ⟨rfl, N0, b2, b4, k2, k4, E_r, F_numbers_r, F_cosines_r, F_places_r, F_size_r, V_b2, V_b4, Pl', ne_r_b2, ne_r_b4, ne_b2_b4, g_r, g_b2, g_b4, Z0⟩) (by decide) (by decide)
theorem pn_rmC3 : plainFor (⟨"com/example/thinleaf/thinleaf/prune/Nearest", "<init>", "(I[I)V"⟩ : MethodName) = true := by decide +kernel
theorem ef_rmC3 (m : MethodId) (x0 : Addr) (x1 : Int32) (x2 : Value) (c2 : x2.isRef = true) : entryFrame m #[(.ref x0), (.int x1), x2] 3 = mkF m 0 #[rv x0, iv x1, .val x2] [] := by rcases ref_cases c2 with rfl | ⟨_, rfl⟩ <;> first | (simp [entryFrame, mkF, argsToLocals, Value.category]; done) | rfl
set_option maxRecDepth 65536 in
set_option maxHeartbeats 40000000 in
theorem rmC3 (l : Launch) (Z : State) (a0 : Array Value) (hw : ∀ d ∈ tables_1, d.before a0 Z = true) (r : Addr) (pv : Value) (h0 : Heap) (n0 : Nat) (Z0 : n0 ≤ h0.size) (g_r : n0 ≤ r) (Pl : own_Pl Z h0 pv [r]) (E_r : Exa Z h0 r "com/example/thinleaf/thinleaf/prune/Nearest") (F_numbers_r : Fld Z h0 r "com/example/thinleaf/thinleaf/prune/Nearest" "numbers" "[I" .null) (F_cosines_r : Fld Z h0 r "com/example/thinleaf/thinleaf/prune/Nearest" "cosines" "[D" .null) (F_places_r : Fld Z h0 r "com/example/thinleaf/thinleaf/prune/Nearest" "places" "[I" .null) (F_size_r : Fld Z h0 r "com/example/thinleaf/thinleaf/prune/Nearest" "size" "I" (.int (0 : Int32))) :
    own_Met l Z (⟨"com/example/thinleaf/thinleaf/prune/Nearest", "<init>", "(I[I)V"⟩ : MethodName) prog_219_method_2_code 3 none [] ({ frames := 1, cells := 2, slots := 6, locals := 12 } : Room) #[(.ref r), (.int (3 : Int32)), pv] h0 (fun z h L => z = none ∧ Fr n0 L ∧ ∃ (bn bc : Addr) (kn kc : ClassId), own_NE Z h n0 r bn bc kn kc pv (3 : Int32) (0 : Int32) [(.int (0 : Int32)), (.int (0 : Int32)), (.int (0 : Int32))] [(.double (0 : UInt64)), (.double (0 : UInt64)), (.double (0 : UInt64))]) := by
  refine own_body pn_rmC3 ?_
  intro p e s m below meth c s₁ hx hby hml hown hnm hret hlk hZ X0 e0 G hG
  replace hml : c.maxLocals = 3 := hml
  replace hown : s.vm.findClass "com/example/thinleaf/thinleaf/prune/Nearest" = some m.cls := hown
  rw [ef_rmC3 m r (3 : Int32) pv (own_PlR Pl)]
  have N0 := Fr.nil n0
  show own_Go p e below G (s₁.setTop (mkF m 0 #[rv r, iv 3, .val pv] []))
  refine own_st (fun t k => XS.aloadN X0.here hx rfl (hb hby d5_0) rfl rfl  k) ?_
  show own_Go p e below G (s₁.setTop (mkF m 1 #[rv r, iv 3, .val pv] [(.ref r)]))
  obtain ⟨T1, X1, e1, st1⟩ := initO X0 hx hZ hown (hw _ (List.mem_of_getElem? (i := 7) rfl)) (hw _ (List.mem_of_getElem? (i := 8) rfl)) (hw _ (List.mem_of_getElem? (i := 9) rfl)) e0 (g := (mkF m 1 #[rv r, iv 3, .val pv] [(.ref r)])) rfl (by rw [hml]; rfl) rfl (hb hby d5_1) (by decide) (W := 0) (by show 2 * 0 + _ ≤ _; exact Nat.le_of_eq rfl) (by decide)
  refine own_st st1 ?_
  show own_Go p e below G (T1.setTop (mkF m 4 #[rv r, iv 3, .val pv] []))
  refine own_st (fun t k => XS.aloadN X1.here hx rfl (hb hby d5_4) rfl rfl  k) ?_
  show own_Go p e below G (T1.setTop (mkF m 5 #[rv r, iv 3, .val pv] [(.ref r)]))
  refine own_st (fun t k => XS.iloadN X1.here hx rfl (hb hby d5_5) rfl  k) ?_
  show own_Go p e below G (T1.setTop (mkF m 6 #[rv r, iv 3, .val pv] [(.int (3 : Int32)), (.ref r)]))
  obtain ⟨T2, h2, k2, X2, e2, E2, A2, st2⟩ := newP X1 hx hZ (hw _ (List.mem_of_getElem? (i := 0) rfl)) e1 (g := (mkF m 6 #[rv r, iv 3, .val pv] [(.int (3 : Int32)), (.ref r)])) rfl (hb hby d5_6) rfl (by decide) (cap := 3) (by decide) (by decide) (by decide) (by decide)
  obtain ⟨b2, gb2⟩ : ∃ z, z = h0.size := ⟨_, rfl⟩
  rw [← gb2] at A2 st2
  have g_b2 : n0 ≤ b2 := Nat.le_trans Z0 (Nat.le_of_eq gb2.symm)
  have ne_r_b2 : r ≠ b2 := Nat.ne_of_lt (Nat.lt_of_lt_of_le E_r.lt (Nat.le_of_eq gb2.symm))
  replace Z0 := Nat.le_trans Z0 E2.1
  replace E_r := E_r.ext E2
  replace F_numbers_r := F_numbers_r.ext E2
  replace F_cosines_r := F_cosines_r.ext E2
  replace F_places_r := F_places_r.ext E2
  replace F_size_r := F_size_r.ext E2
  replace Pl := own_PlE (own_Pln Pl (Nat.le_of_eq gb2.symm)) E2
  have V_b2 : Arv Z h2 b2 k2 .int (3 : Int32) [(.int (0 : Int32)), (.int (0 : Int32)), (.int (0 : Int32))] (.int (0 : Int32)) := (Arv.new A2 (by decide)).pad (pad_rep [] (.int (0 : Int32)) 3)
  refine own_st st2 ?_
  show own_Go p e below G (T2.setTop (mkF m 8 #[rv r, iv 3, .val pv] [(.ref b2), (.ref r)]))
  obtain ⟨T3, h3, X3, e3, W3, st3⟩ := putF X2 hx hZ hown (host := "") (Or.inl (hw _ (List.mem_of_getElem? (i := 10) rfl))) Via.refl e2 F_numbers_r E_r (Or.inr ⟨(hw _ (List.mem_of_getElem? (i := 11) rfl)), rfl, hnm⟩) (hw _ (List.mem_of_getElem? (i := 2) rfl)) (ty := (.array .int)) (by decide) rfl rfl (g := (mkF m 8 #[rv r, iv 3, .val pv] [(.ref b2), (.ref r)])) rfl rfl (hb hby d5_8)
  replace E_r := E_r.wr W3
  replace F_numbers_r := F_numbers_r.same W3
  replace F_cosines_r := F_cosines_r.other W3 (Or.inr (slot_ne (Or.inr (hw _ (List.mem_of_getElem? (i := 14) rfl))) (Or.inr (hw _ (List.mem_of_getElem? (i := 11) rfl))) (by decide) (t := (.array .double)) (t' := (.array .int)) (by decide) (by decide)))
  replace F_places_r := F_places_r.other W3 (Or.inr (slot_ne (Or.inr (hw _ (List.mem_of_getElem? (i := 16) rfl))) (Or.inr (hw _ (List.mem_of_getElem? (i := 11) rfl))) (by decide) (t := (.array .int)) (t' := (.array .int)) (by decide) (by decide)))
  replace F_size_r := F_size_r.other W3 (Or.inr (slot_ne (Or.inl (hw _ (List.mem_of_getElem? (i := 23) rfl))) (Or.inr (hw _ (List.mem_of_getElem? (i := 11) rfl))) (by decide) (t := .int) (t' := (.array .int)) (by decide) (by decide)))
  replace Pl := own_PlW Pl W3 (List.mem_of_getElem? (i := 1) rfl)
  replace V_b2 := V_b2.other W3 (Ne.symm ne_r_b2)
  replace Z0 := Nat.le_trans Z0 (Keep.of_wr W3).1
  replace N0 := Fr.snoc X3 N0 g_r
  refine own_st st3 ?_
  show own_Go p e below G (T3.setTop (mkF m 11 #[rv r, iv 3, .val pv] []))
  refine own_st (fun t k => XS.aloadN X3.here hx rfl (hb hby d5_11) rfl rfl  k) ?_
  show own_Go p e below G (T3.setTop (mkF m 12 #[rv r, iv 3, .val pv] [(.ref r)]))
  refine own_st (fun t k => XS.iloadN X3.here hx rfl (hb hby d5_12) rfl  k) ?_
  show own_Go p e below G (T3.setTop (mkF m 13 #[rv r, iv 3, .val pv] [(.int (3 : Int32)), (.ref r)]))
  obtain ⟨T4, h4, k4, X4, e4, E4, A4, st4⟩ := newP X3 hx hZ (hw _ (List.mem_of_getElem? (i := 12) rfl)) e3 (g := (mkF m 13 #[rv r, iv 3, .val pv] [(.int (3 : Int32)), (.ref r)])) rfl (hb hby d5_13) rfl (by decide) (cap := 3) (by decide) (by decide) (by decide) (by decide)
  obtain ⟨b4, gb4⟩ : ∃ z, z = h3.size := ⟨_, rfl⟩
  rw [← gb4] at A4 st4
  have g_b4 : n0 ≤ b4 := Nat.le_trans Z0 (Nat.le_of_eq gb4.symm)
  have ne_r_b4 : r ≠ b4 := Nat.ne_of_lt (Nat.lt_of_lt_of_le E_r.lt (Nat.le_of_eq gb4.symm))
  have ne_b2_b4 : b2 ≠ b4 := Nat.ne_of_lt (Nat.lt_of_lt_of_le V_b2.lt (Nat.le_of_eq gb4.symm))
  replace Z0 := Nat.le_trans Z0 E4.1
  replace E_r := E_r.ext E4
  replace F_numbers_r := F_numbers_r.ext E4
  replace F_cosines_r := F_cosines_r.ext E4
  replace F_places_r := F_places_r.ext E4
  replace F_size_r := F_size_r.ext E4
  replace Pl := own_PlE (own_Pln Pl (Nat.le_of_eq gb4.symm)) E4
  replace V_b2 := V_b2.ext E4
  have V_b4 : Arv Z h4 b4 k4 .double (3 : Int32) [(.double (0 : UInt64)), (.double (0 : UInt64)), (.double (0 : UInt64))] (.double (0 : UInt64)) := (Arv.new A4 (by decide)).pad (pad_rep [] (.double (0 : UInt64)) 3)
  refine own_st st4 ?_
  show own_Go p e below G (T4.setTop (mkF m 15 #[rv r, iv 3, .val pv] [(.ref b4), (.ref r)]))
  obtain ⟨T5, h5, X5, e5, W5, st5⟩ := putF X4 hx hZ hown (host := "") (Or.inl (hw _ (List.mem_of_getElem? (i := 13) rfl))) Via.refl e4 F_cosines_r E_r (Or.inr ⟨(hw _ (List.mem_of_getElem? (i := 14) rfl)), rfl, hnm⟩) (hw _ (List.mem_of_getElem? (i := 2) rfl)) (ty := (.array .double)) (by decide) rfl rfl (g := (mkF m 15 #[rv r, iv 3, .val pv] [(.ref b4), (.ref r)])) rfl rfl (hb hby d5_15)
  replace E_r := E_r.wr W5
  replace F_numbers_r := F_numbers_r.other W5 (Or.inr (slot_ne (Or.inr (hw _ (List.mem_of_getElem? (i := 11) rfl))) (Or.inr (hw _ (List.mem_of_getElem? (i := 14) rfl))) (by decide) (t := (.array .int)) (t' := (.array .double)) (by decide) (by decide)))
  replace F_cosines_r := F_cosines_r.same W5
  replace F_places_r := F_places_r.other W5 (Or.inr (slot_ne (Or.inr (hw _ (List.mem_of_getElem? (i := 16) rfl))) (Or.inr (hw _ (List.mem_of_getElem? (i := 14) rfl))) (by decide) (t := (.array .int)) (t' := (.array .double)) (by decide) (by decide)))
  replace F_size_r := F_size_r.other W5 (Or.inr (slot_ne (Or.inl (hw _ (List.mem_of_getElem? (i := 23) rfl))) (Or.inr (hw _ (List.mem_of_getElem? (i := 14) rfl))) (by decide) (t := .int) (t' := (.array .double)) (by decide) (by decide)))
  replace Pl := own_PlW Pl W5 (List.mem_of_getElem? (i := 2) rfl)
  replace V_b2 := V_b2.other W5 (Ne.symm ne_r_b2)
  replace V_b4 := V_b4.other W5 (Ne.symm ne_r_b4)
  replace Z0 := Nat.le_trans Z0 (Keep.of_wr W5).1
  replace N0 := Fr.snoc X5 N0 g_r
  refine own_st st5 ?_
  show own_Go p e below G (T5.setTop (mkF m 18 #[rv r, iv 3, .val pv] []))
  refine own_st (fun t k => XS.aloadN X5.here hx rfl (hb hby d5_18) rfl rfl  k) ?_
  show own_Go p e below G (T5.setTop (mkF m 19 #[rv r, iv 3, .val pv] [(.ref r)]))
  refine own_st (fun t k => XS.aloadN X5.here hx rfl (hb hby d5_19) rfl (own_PlR Pl)  k) ?_
  show own_Go p e below G (T5.setTop (mkF m 20 #[rv r, iv 3, .val pv] [pv, (.ref r)]))
  obtain ⟨T6, h6, X6, e6, W6, st6⟩ := putF X5 hx hZ hown (host := "") (Or.inl (hw _ (List.mem_of_getElem? (i := 15) rfl))) Via.refl e5 F_places_r E_r (Or.inr ⟨(hw _ (List.mem_of_getElem? (i := 16) rfl)), rfl, hnm⟩) (hw _ (List.mem_of_getElem? (i := 2) rfl)) (ty := (.array .int)) (by decide) (own_PlN Pl) (own_PlF Pl) (g := (mkF m 20 #[rv r, iv 3, .val pv] [pv, (.ref r)])) rfl rfl (hb hby d5_20)
  replace E_r := E_r.wr W6
  replace F_numbers_r := F_numbers_r.other W6 (Or.inr (slot_ne (Or.inr (hw _ (List.mem_of_getElem? (i := 11) rfl))) (Or.inr (hw _ (List.mem_of_getElem? (i := 16) rfl))) (by decide) (t := (.array .int)) (t' := (.array .int)) (by decide) (by decide)))
  replace F_cosines_r := F_cosines_r.other W6 (Or.inr (slot_ne (Or.inr (hw _ (List.mem_of_getElem? (i := 14) rfl))) (Or.inr (hw _ (List.mem_of_getElem? (i := 16) rfl))) (by decide) (t := (.array .double)) (t' := (.array .int)) (by decide) (by decide)))
  replace F_places_r := F_places_r.same W6
  replace F_size_r := F_size_r.other W6 (Or.inr (slot_ne (Or.inl (hw _ (List.mem_of_getElem? (i := 23) rfl))) (Or.inr (hw _ (List.mem_of_getElem? (i := 16) rfl))) (by decide) (t := .int) (t' := (.array .int)) (by decide) (by decide)))
  replace Pl := own_PlW Pl W6 (List.mem_of_getElem? (i := 2) rfl)
  replace V_b2 := V_b2.other W6 (Ne.symm ne_r_b2)
  replace V_b4 := V_b4.other W6 (Ne.symm ne_r_b4)
  replace Z0 := Nat.le_trans Z0 (Keep.of_wr W6).1
  replace N0 := Fr.snoc X6 N0 g_r
  refine own_st st6 ?_
  show own_Go p e below G (T6.setTop (mkF m 23 #[rv r, iv 3, .val pv] []))
  rw [hG]
  have Pl' : own_Pl Z h6 pv [r, b2, b4] := by
    rcases Pl with rfl | ⟨pa, kp, q0, q1, q2, q3, rfl, V, n⟩
    · exact Or.inl rfl
    · exact Or.inr ⟨pa, kp, q0, q1, q2, q3, rfl, V, fun q => n (by simp only [List.mem_cons, List.not_mem_nil, or_false] at q ⊢; rcases q with q | q | q <;> simp [q])⟩
  exact own_retV X6 hx hlk hret (hb hby d5_23) (by rw [e6]; exact ⟨rfl, N0, b2, b4, k2, k4, E_r, F_numbers_r, F_cosines_r, F_places_r, F_size_r, V_b2, V_b4, Pl', ne_r_b2, ne_r_b4, ne_b2_b4, g_r, g_b2, g_b4, Z0⟩) (by decide) (by decide)
theorem d6_0 : decode method_3_code 0 = .ok (.aload_n 0, 1) := by decide +kernel
theorem d6_1 : decode method_3_code 1 = .ok (.iload_n 1, 1) := by decide +kernel
theorem d6_2 : decode method_3_code 2 = .ok (.daload, 1) := by decide +kernel
theorem d6_3 : decode method_3_code 3 = .ok (.aload_n 0, 1) := by decide +kernel
theorem d6_4 : decode method_3_code 4 = .ok (.iload_n 2, 1) := by decide +kernel
theorem d6_5 : decode method_3_code 5 = .ok (.daload, 1) := by decide +kernel
theorem d6_6 : decode method_3_code 6 = .ok (.dcmp .g, 1) := by decide +kernel
theorem d6_7 : decode method_3_code 7 = .ok (.ifCond .ge 17, 3) := by decide +kernel
theorem d6_10 : decode method_3_code 10 = .ok (.aload_n 0, 1) := by decide +kernel
theorem d6_11 : decode method_3_code 11 = .ok (.iload_n 1, 1) := by decide +kernel
theorem d6_12 : decode method_3_code 12 = .ok (.daload, 1) := by decide +kernel
theorem d6_13 : decode method_3_code 13 = .ok (.dstore_n 3, 1) := by decide +kernel
theorem d6_14 : decode method_3_code 14 = .ok (.aload_n 0, 1) := by decide +kernel
theorem d6_15 : decode method_3_code 15 = .ok (.iload_n 1, 1) := by decide +kernel
theorem d6_16 : decode method_3_code 16 = .ok (.aload_n 0, 1) := by decide +kernel
theorem d6_17 : decode method_3_code 17 = .ok (.iload_n 2, 1) := by decide +kernel
theorem d6_18 : decode method_3_code 18 = .ok (.daload, 1) := by decide +kernel
theorem d6_19 : decode method_3_code 19 = .ok (.dastore, 1) := by decide +kernel
theorem d6_20 : decode method_3_code 20 = .ok (.aload_n 0, 1) := by decide +kernel
theorem d6_21 : decode method_3_code 21 = .ok (.iload_n 2, 1) := by decide +kernel
theorem d6_22 : decode method_3_code 22 = .ok (.dload_n 3, 1) := by decide +kernel
theorem d6_23 : decode method_3_code 23 = .ok (.dastore, 1) := by decide +kernel
theorem d6_24 : decode method_3_code 24 = .ok (.return_, 1) := by decide +kernel
theorem pn_rmX01 : plainFor (⟨"com/example/thinleaf/thinleaf/prune/NearestLeastPinLaw", "cs", "([DII)V"⟩ : MethodName) = true := by decide +kernel
theorem ef_rmX01 (m : MethodId) (x0 : Addr) (x1 : Int32) (x2 : Int32) : entryFrame m #[(.ref x0), (.int x1), (.int x2)] 5 = mkF m 0 #[rv x0, iv x1, iv x2, .unset, .unset] [] := by first | (simp [entryFrame, mkF, argsToLocals, Value.category]; done) | rfl
set_option maxRecDepth 65536 in
set_option maxHeartbeats 40000000 in
theorem rmX01 (l : Launch) (Z : State) (a0 : Array Value) (hw : ∀ d ∈ tables_1, d.before a0 Z = true) (sa : Addr) (ks : ClassId) (t0 t1 t2 t3 : Int64) (h0 : Heap) (n0 : Nat) (Z0 : n0 ≤ h0.size) (g_sa : n0 ≤ sa) (V_sa : Arv Z h0 sa ks .double (4 : Int32) [(.double (FP.l2d t0)), (.double (FP.l2d t1)), (.double (FP.l2d t2)), (.double (FP.l2d t3))] (.double (0 : UInt64))) (ht0 : own_b t0) (ht1 : own_b t1) :
    own_Met l Z (⟨"com/example/thinleaf/thinleaf/prune/NearestLeastPinLaw", "cs", "([DII)V"⟩ : MethodName) method_3_code 5 none [] ({ frames := 0, cells := 0, slots := 0, locals := 0 } : Room) #[(.ref sa), (.int (0 : Int32)), (.int (1 : Int32))] h0 (fun z h L => z = none ∧ Fr n0 L ∧ n0 ≤ h.size ∧ ∃ (ui uj : Int64), Arv Z h sa ks .double (4 : Int32) [(.double (FP.l2d ui)), (.double (FP.l2d uj)), (.double (FP.l2d t2)), (.double (FP.l2d t3))] (.double (0 : UInt64)) ∧ own_b ui ∧ own_b uj ∧ ui.toInt = max t0.toInt t1.toInt ∧ uj.toInt = min t0.toInt t1.toInt) := by
  refine own_body pn_rmX01 ?_
  intro p e s m below meth c s₁ hx hby hml hown hnm hret hlk hZ X0 e0 G hG
  replace hml : c.maxLocals = 5 := hml
  replace hown : s.vm.findClass "com/example/thinleaf/thinleaf/prune/NearestLeastPinLaw" = some m.cls := hown
  rw [ef_rmX01]
  have N0 := Fr.nil n0
  show own_Go p e below G (s₁.setTop (mkF m 0 #[rv sa, iv 0, iv 1, .unset, .unset] []))
  refine own_st (fun t k => XS.aloadN X0.here hx rfl (hb hby d6_0) rfl rfl  k) ?_
  show own_Go p e below G (s₁.setTop (mkF m 1 #[rv sa, iv 0, iv 1, .unset, .unset] [(.ref sa)]))
  refine own_st (fun t k => XS.iloadN X0.here hx rfl (hb hby d6_1) rfl  k) ?_
  show own_Go p e below G (s₁.setTop (mkF m 2 #[rv sa, iv 0, iv 1, .unset, .unset] [(.int (0 : Int32)), (.ref sa)]))
  have Vc1 := V_sa
  obtain ⟨cl1, Ar1, -, Sa1, -, Ha1, -⟩ := Vc1
  have hin1 : ¬ ((0 : Int32) < 0 ∨ cl1.slots.size ≤ ((0 : Int32)).toNatClampNeg) := inb_of Sa1 ⟨by decide, by decide⟩
  refine own_st (fun t k => X0.daload hx (j := (0 : Int32)) (v := (.double (FP.l2d t0))) (by rw [e0]; exact Ar1.1) (State.isArrayOf_alike hZ.alike Ar1.2.1) Ar1.2.2 hin1 (Ha1.at hin1 rfl) (g := (mkF m 2 #[rv sa, iv 0, iv 1, .unset, .unset] [(.int (0 : Int32)), (.ref sa)])) rfl rfl (hb hby d6_2) t k) ?_
  show own_Go p e below G (s₁.setTop (mkF m 3 #[rv sa, iv 0, iv 1, .unset, .unset] [(.double (FP.l2d t0))]))
  refine own_st (fun t k => XS.aloadN X0.here hx rfl (hb hby d6_3) rfl rfl  k) ?_
  show own_Go p e below G (s₁.setTop (mkF m 4 #[rv sa, iv 0, iv 1, .unset, .unset] [(.ref sa), (.double (FP.l2d t0))]))
  refine own_st (fun t k => XS.iloadN X0.here hx rfl (hb hby d6_4) rfl  k) ?_
  show own_Go p e below G (s₁.setTop (mkF m 5 #[rv sa, iv 0, iv 1, .unset, .unset] [(.int (1 : Int32)), (.ref sa), (.double (FP.l2d t0))]))
  have Vc2 := V_sa
  obtain ⟨cl2, Ar2, -, Sa2, -, Ha2, -⟩ := Vc2
  have hin2 : ¬ ((1 : Int32) < 0 ∨ cl2.slots.size ≤ ((1 : Int32)).toNatClampNeg) := inb_of Sa2 ⟨by decide, by decide⟩
  refine own_st (fun t k => X0.daload hx (j := (1 : Int32)) (v := (.double (FP.l2d t1))) (by rw [e0]; exact Ar2.1) (State.isArrayOf_alike hZ.alike Ar2.2.1) Ar2.2.2 hin2 (Ha2.at hin2 rfl) (g := (mkF m 5 #[rv sa, iv 0, iv 1, .unset, .unset] [(.int (1 : Int32)), (.ref sa), (.double (FP.l2d t0))])) rfl rfl (hb hby d6_5) t k) ?_
  show own_Go p e below G (s₁.setTop (mkF m 6 #[rv sa, iv 0, iv 1, .unset, .unset] [(.double (FP.l2d t1)), (.double (FP.l2d t0))]))
  refine own_st (fun t k => XS.dcmpS X0.here hx rfl (hb hby d6_6) rfl (dcmpV_w (own_b53 ht0) (own_b53 ht1) _) k) ?_
  show own_Go p e below G (s₁.setTop (mkF m 7 #[rv sa, iv 0, iv 1, .unset, .unset] [(.int (lcmpW t0 t1))]))
  by_cases c7_3 : t0 < t1
  · skip
    refine own_st (fun t k => XS.ifNo X0.here hx rfl (hb hby d6_7) rfl ((if0 _ _).trans (tlt ((lw_lt _ _).2 c7_3)).2.1) k) ?_
    show own_Go p e below G (s₁.setTop (mkF m 10 #[rv sa, iv 0, iv 1, .unset, .unset] []))
    refine own_st (fun t k => XS.aloadN X0.here hx rfl (hb hby d6_10) rfl rfl  k) ?_
    show own_Go p e below G (s₁.setTop (mkF m 11 #[rv sa, iv 0, iv 1, .unset, .unset] [(.ref sa)]))
    refine own_st (fun t k => XS.iloadN X0.here hx rfl (hb hby d6_11) rfl  k) ?_
    show own_Go p e below G (s₁.setTop (mkF m 12 #[rv sa, iv 0, iv 1, .unset, .unset] [(.int (0 : Int32)), (.ref sa)]))
    have Vc4 := V_sa
    obtain ⟨cl4, Ar4, -, Sa4, -, Ha4, -⟩ := Vc4
    have hin4 : ¬ ((0 : Int32) < 0 ∨ cl4.slots.size ≤ ((0 : Int32)).toNatClampNeg) := inb_of Sa4 ⟨by decide, by decide⟩
    refine own_st (fun t k => X0.daload hx (j := (0 : Int32)) (v := (.double (FP.l2d t0))) (by rw [e0]; exact Ar4.1) (State.isArrayOf_alike hZ.alike Ar4.2.1) Ar4.2.2 hin4 (Ha4.at hin4 rfl) (g := (mkF m 12 #[rv sa, iv 0, iv 1, .unset, .unset] [(.int (0 : Int32)), (.ref sa)])) rfl rfl (hb hby d6_12) t k) ?_
    show own_Go p e below G (s₁.setTop (mkF m 13 #[rv sa, iv 0, iv 1, .unset, .unset] [(.double (FP.l2d t0))]))
    refine own_st (fun t k => XS.dstoreN X0.here hx rfl (hb hby d6_13) rfl (l' := #[rv sa, iv 0, iv 1, own_dv (FP.l2d t0), .second]) rfl k) ?_
    show own_Go p e below G (s₁.setTop (mkF m 14 #[rv sa, iv 0, iv 1, own_dv (FP.l2d t0), .second] []))
    refine own_st (fun t k => XS.aloadN X0.here hx rfl (hb hby d6_14) rfl rfl  k) ?_
    show own_Go p e below G (s₁.setTop (mkF m 15 #[rv sa, iv 0, iv 1, own_dv (FP.l2d t0), .second] [(.ref sa)]))
    refine own_st (fun t k => XS.iloadN X0.here hx rfl (hb hby d6_15) rfl  k) ?_
    show own_Go p e below G (s₁.setTop (mkF m 16 #[rv sa, iv 0, iv 1, own_dv (FP.l2d t0), .second] [(.int (0 : Int32)), (.ref sa)]))
    refine own_st (fun t k => XS.aloadN X0.here hx rfl (hb hby d6_16) rfl rfl  k) ?_
    show own_Go p e below G (s₁.setTop (mkF m 17 #[rv sa, iv 0, iv 1, own_dv (FP.l2d t0), .second] [(.ref sa), (.int (0 : Int32)), (.ref sa)]))
    refine own_st (fun t k => XS.iloadN X0.here hx rfl (hb hby d6_17) rfl  k) ?_
    show own_Go p e below G (s₁.setTop (mkF m 18 #[rv sa, iv 0, iv 1, own_dv (FP.l2d t0), .second] [(.int (1 : Int32)), (.ref sa), (.int (0 : Int32)), (.ref sa)]))
    have Vc5 := V_sa
    obtain ⟨cl5, Ar5, -, Sa5, -, Ha5, -⟩ := Vc5
    have hin5 : ¬ ((1 : Int32) < 0 ∨ cl5.slots.size ≤ ((1 : Int32)).toNatClampNeg) := inb_of Sa5 ⟨by decide, by decide⟩
    refine own_st (fun t k => X0.daload hx (j := (1 : Int32)) (v := (.double (FP.l2d t1))) (by rw [e0]; exact Ar5.1) (State.isArrayOf_alike hZ.alike Ar5.2.1) Ar5.2.2 hin5 (Ha5.at hin5 rfl) (g := (mkF m 18 #[rv sa, iv 0, iv 1, own_dv (FP.l2d t0), .second] [(.int (1 : Int32)), (.ref sa), (.int (0 : Int32)), (.ref sa)])) rfl rfl (hb hby d6_18) t k) ?_
    show own_Go p e below G (s₁.setTop (mkF m 19 #[rv sa, iv 0, iv 1, own_dv (FP.l2d t0), .second] [(.double (FP.l2d t1)), (.int (0 : Int32)), (.ref sa)]))
    obtain ⟨cl6, Ar6, qa6, Sa6, Na6, Ha6, Ga6⟩ := V_sa
    have hin6 : ¬ ((0 : Int32) < 0 ∨ cl6.slots.size ≤ ((0 : Int32)).toNatClampNeg) := inb_of Sa6 ⟨by decide, by decide⟩
    obtain ⟨T6, h6, X6, e6, W6, st6⟩ := stD X0 hx hZ e0 Ar6 (j := (0 : Int32)) hin6 (g := (mkF m 19 #[rv sa, iv 0, iv 1, own_dv (FP.l2d t0), .second] [(.double (FP.l2d t1)), (.int (0 : Int32)), (.ref sa)])) rfl rfl (hb hby d6_19)
    have V_sa : Arv Z h6 sa ks .double (4 : Int32) [(.double (FP.l2d t1)), (.double (FP.l2d t1)), (.double (FP.l2d t2)), (.double (FP.l2d t3))] (.double (0 : UInt64)) := Arv.set Ar6 qa6 Sa6 Na6 Ha6 Ga6 rfl W6 0 rfl (Nat.le_of_ble_eq_true rfl)
    replace Z0 := Nat.le_trans Z0 (Keep.of_wr W6).1
    replace N0 := Fr.snoc X6 N0 g_sa
    refine own_st st6 ?_
    show own_Go p e below G (T6.setTop (mkF m 20 #[rv sa, iv 0, iv 1, own_dv (FP.l2d t0), .second] []))
    refine own_st (fun t k => XS.aloadN X6.here hx rfl (hb hby d6_20) rfl rfl  k) ?_
    show own_Go p e below G (T6.setTop (mkF m 21 #[rv sa, iv 0, iv 1, own_dv (FP.l2d t0), .second] [(.ref sa)]))
    refine own_st (fun t k => XS.iloadN X6.here hx rfl (hb hby d6_21) rfl  k) ?_
    show own_Go p e below G (T6.setTop (mkF m 22 #[rv sa, iv 0, iv 1, own_dv (FP.l2d t0), .second] [(.int (1 : Int32)), (.ref sa)]))
    refine own_st (fun t k => XS.dloadN X6.here hx rfl (hb hby d6_22) rfl  k) ?_
    show own_Go p e below G (T6.setTop (mkF m 23 #[rv sa, iv 0, iv 1, own_dv (FP.l2d t0), .second] [(.double (FP.l2d t0)), (.int (1 : Int32)), (.ref sa)]))
    obtain ⟨cl7, Ar7, qa7, Sa7, Na7, Ha7, Ga7⟩ := V_sa
    have hin7 : ¬ ((1 : Int32) < 0 ∨ cl7.slots.size ≤ ((1 : Int32)).toNatClampNeg) := inb_of Sa7 ⟨by decide, by decide⟩
    obtain ⟨T7, h7, X7, e7, W7, st7⟩ := stD X6 hx hZ e6 Ar7 (j := (1 : Int32)) hin7 (g := (mkF m 23 #[rv sa, iv 0, iv 1, own_dv (FP.l2d t0), .second] [(.double (FP.l2d t0)), (.int (1 : Int32)), (.ref sa)])) rfl rfl (hb hby d6_23)
    have V_sa : Arv Z h7 sa ks .double (4 : Int32) [(.double (FP.l2d t1)), (.double (FP.l2d t0)), (.double (FP.l2d t2)), (.double (FP.l2d t3))] (.double (0 : UInt64)) := Arv.set Ar7 qa7 Sa7 Na7 Ha7 Ga7 rfl W7 1 rfl (Nat.le_of_ble_eq_true rfl)
    replace Z0 := Nat.le_trans Z0 (Keep.of_wr W7).1
    replace N0 := Fr.snoc X7 N0 g_sa
    refine own_st st7 ?_
    show own_Go p e below G (T7.setTop (mkF m 24 #[rv sa, iv 0, iv 1, own_dv (FP.l2d t0), .second] []))
    have hlt : t0.toInt < t1.toInt := Int64.lt_iff_toInt_lt.mp c7_3
    rw [hG]
    exact own_retV X7 hx hlk hret (hb hby d6_24) (by rw [e7]; exact ⟨rfl, N0, Z0, t1, t0, V_sa, ht1, ht0, by omega, by omega⟩) (by decide) (by decide)
  · skip
    refine own_st (fun t k => XS.ifYes X0.here hx rfl (pc0 := 7) (pc' := 24) rfl (hb hby d6_7) rfl ((if0 _ _).trans (flt (fun q => c7_3 ((lw_lt _ _).1 q))).2.1) (by decide) (by decide) k) ?_
    show own_Go p e below G (s₁.setTop (mkF m 24 #[rv sa, iv 0, iv 1, .unset, .unset] []))
    have hlt : ¬ t0.toInt < t1.toInt := fun q => c7_3 (Int64.lt_iff_toInt_lt.mpr q)
    rw [hG]
    exact own_retV X0 hx hlk hret (hb hby d6_24) (by rw [e0]; exact ⟨rfl, N0, Z0, t0, t1, V_sa, ht0, ht1, by omega, by omega⟩) (by decide) (by decide)
theorem pn_rmX23 : plainFor (⟨"com/example/thinleaf/thinleaf/prune/NearestLeastPinLaw", "cs", "([DII)V"⟩ : MethodName) = true := by decide +kernel
theorem ef_rmX23 (m : MethodId) (x0 : Addr) (x1 : Int32) (x2 : Int32) : entryFrame m #[(.ref x0), (.int x1), (.int x2)] 5 = mkF m 0 #[rv x0, iv x1, iv x2, .unset, .unset] [] := by first | (simp [entryFrame, mkF, argsToLocals, Value.category]; done) | rfl
set_option maxRecDepth 65536 in
set_option maxHeartbeats 40000000 in
theorem rmX23 (l : Launch) (Z : State) (a0 : Array Value) (hw : ∀ d ∈ tables_1, d.before a0 Z = true) (sa : Addr) (ks : ClassId) (t0 t1 t2 t3 : Int64) (h0 : Heap) (n0 : Nat) (Z0 : n0 ≤ h0.size) (g_sa : n0 ≤ sa) (V_sa : Arv Z h0 sa ks .double (4 : Int32) [(.double (FP.l2d t0)), (.double (FP.l2d t1)), (.double (FP.l2d t2)), (.double (FP.l2d t3))] (.double (0 : UInt64))) (ht2 : own_b t2) (ht3 : own_b t3) :
    own_Met l Z (⟨"com/example/thinleaf/thinleaf/prune/NearestLeastPinLaw", "cs", "([DII)V"⟩ : MethodName) method_3_code 5 none [] ({ frames := 0, cells := 0, slots := 0, locals := 0 } : Room) #[(.ref sa), (.int (2 : Int32)), (.int (3 : Int32))] h0 (fun z h L => z = none ∧ Fr n0 L ∧ n0 ≤ h.size ∧ ∃ (ui uj : Int64), Arv Z h sa ks .double (4 : Int32) [(.double (FP.l2d t0)), (.double (FP.l2d t1)), (.double (FP.l2d ui)), (.double (FP.l2d uj))] (.double (0 : UInt64)) ∧ own_b ui ∧ own_b uj ∧ ui.toInt = max t2.toInt t3.toInt ∧ uj.toInt = min t2.toInt t3.toInt) := by
  refine own_body pn_rmX23 ?_
  intro p e s m below meth c s₁ hx hby hml hown hnm hret hlk hZ X0 e0 G hG
  replace hml : c.maxLocals = 5 := hml
  replace hown : s.vm.findClass "com/example/thinleaf/thinleaf/prune/NearestLeastPinLaw" = some m.cls := hown
  rw [ef_rmX23]
  have N0 := Fr.nil n0
  show own_Go p e below G (s₁.setTop (mkF m 0 #[rv sa, iv 2, iv 3, .unset, .unset] []))
  refine own_st (fun t k => XS.aloadN X0.here hx rfl (hb hby d6_0) rfl rfl  k) ?_
  show own_Go p e below G (s₁.setTop (mkF m 1 #[rv sa, iv 2, iv 3, .unset, .unset] [(.ref sa)]))
  refine own_st (fun t k => XS.iloadN X0.here hx rfl (hb hby d6_1) rfl  k) ?_
  show own_Go p e below G (s₁.setTop (mkF m 2 #[rv sa, iv 2, iv 3, .unset, .unset] [(.int (2 : Int32)), (.ref sa)]))
  have Vc1 := V_sa
  obtain ⟨cl1, Ar1, -, Sa1, -, Ha1, -⟩ := Vc1
  have hin1 : ¬ ((2 : Int32) < 0 ∨ cl1.slots.size ≤ ((2 : Int32)).toNatClampNeg) := inb_of Sa1 ⟨by decide, by decide⟩
  refine own_st (fun t k => X0.daload hx (j := (2 : Int32)) (v := (.double (FP.l2d t2))) (by rw [e0]; exact Ar1.1) (State.isArrayOf_alike hZ.alike Ar1.2.1) Ar1.2.2 hin1 (Ha1.at hin1 rfl) (g := (mkF m 2 #[rv sa, iv 2, iv 3, .unset, .unset] [(.int (2 : Int32)), (.ref sa)])) rfl rfl (hb hby d6_2) t k) ?_
  show own_Go p e below G (s₁.setTop (mkF m 3 #[rv sa, iv 2, iv 3, .unset, .unset] [(.double (FP.l2d t2))]))
  refine own_st (fun t k => XS.aloadN X0.here hx rfl (hb hby d6_3) rfl rfl  k) ?_
  show own_Go p e below G (s₁.setTop (mkF m 4 #[rv sa, iv 2, iv 3, .unset, .unset] [(.ref sa), (.double (FP.l2d t2))]))
  refine own_st (fun t k => XS.iloadN X0.here hx rfl (hb hby d6_4) rfl  k) ?_
  show own_Go p e below G (s₁.setTop (mkF m 5 #[rv sa, iv 2, iv 3, .unset, .unset] [(.int (3 : Int32)), (.ref sa), (.double (FP.l2d t2))]))
  have Vc2 := V_sa
  obtain ⟨cl2, Ar2, -, Sa2, -, Ha2, -⟩ := Vc2
  have hin2 : ¬ ((3 : Int32) < 0 ∨ cl2.slots.size ≤ ((3 : Int32)).toNatClampNeg) := inb_of Sa2 ⟨by decide, by decide⟩
  refine own_st (fun t k => X0.daload hx (j := (3 : Int32)) (v := (.double (FP.l2d t3))) (by rw [e0]; exact Ar2.1) (State.isArrayOf_alike hZ.alike Ar2.2.1) Ar2.2.2 hin2 (Ha2.at hin2 rfl) (g := (mkF m 5 #[rv sa, iv 2, iv 3, .unset, .unset] [(.int (3 : Int32)), (.ref sa), (.double (FP.l2d t2))])) rfl rfl (hb hby d6_5) t k) ?_
  show own_Go p e below G (s₁.setTop (mkF m 6 #[rv sa, iv 2, iv 3, .unset, .unset] [(.double (FP.l2d t3)), (.double (FP.l2d t2))]))
  refine own_st (fun t k => XS.dcmpS X0.here hx rfl (hb hby d6_6) rfl (dcmpV_w (own_b53 ht2) (own_b53 ht3) _) k) ?_
  show own_Go p e below G (s₁.setTop (mkF m 7 #[rv sa, iv 2, iv 3, .unset, .unset] [(.int (lcmpW t2 t3))]))
  by_cases c7_3 : t2 < t3
  · skip
    refine own_st (fun t k => XS.ifNo X0.here hx rfl (hb hby d6_7) rfl ((if0 _ _).trans (tlt ((lw_lt _ _).2 c7_3)).2.1) k) ?_
    show own_Go p e below G (s₁.setTop (mkF m 10 #[rv sa, iv 2, iv 3, .unset, .unset] []))
    refine own_st (fun t k => XS.aloadN X0.here hx rfl (hb hby d6_10) rfl rfl  k) ?_
    show own_Go p e below G (s₁.setTop (mkF m 11 #[rv sa, iv 2, iv 3, .unset, .unset] [(.ref sa)]))
    refine own_st (fun t k => XS.iloadN X0.here hx rfl (hb hby d6_11) rfl  k) ?_
    show own_Go p e below G (s₁.setTop (mkF m 12 #[rv sa, iv 2, iv 3, .unset, .unset] [(.int (2 : Int32)), (.ref sa)]))
    have Vc4 := V_sa
    obtain ⟨cl4, Ar4, -, Sa4, -, Ha4, -⟩ := Vc4
    have hin4 : ¬ ((2 : Int32) < 0 ∨ cl4.slots.size ≤ ((2 : Int32)).toNatClampNeg) := inb_of Sa4 ⟨by decide, by decide⟩
    refine own_st (fun t k => X0.daload hx (j := (2 : Int32)) (v := (.double (FP.l2d t2))) (by rw [e0]; exact Ar4.1) (State.isArrayOf_alike hZ.alike Ar4.2.1) Ar4.2.2 hin4 (Ha4.at hin4 rfl) (g := (mkF m 12 #[rv sa, iv 2, iv 3, .unset, .unset] [(.int (2 : Int32)), (.ref sa)])) rfl rfl (hb hby d6_12) t k) ?_
    show own_Go p e below G (s₁.setTop (mkF m 13 #[rv sa, iv 2, iv 3, .unset, .unset] [(.double (FP.l2d t2))]))
    refine own_st (fun t k => XS.dstoreN X0.here hx rfl (hb hby d6_13) rfl (l' := #[rv sa, iv 2, iv 3, own_dv (FP.l2d t2), .second]) rfl k) ?_
    show own_Go p e below G (s₁.setTop (mkF m 14 #[rv sa, iv 2, iv 3, own_dv (FP.l2d t2), .second] []))
    refine own_st (fun t k => XS.aloadN X0.here hx rfl (hb hby d6_14) rfl rfl  k) ?_
    show own_Go p e below G (s₁.setTop (mkF m 15 #[rv sa, iv 2, iv 3, own_dv (FP.l2d t2), .second] [(.ref sa)]))
    refine own_st (fun t k => XS.iloadN X0.here hx rfl (hb hby d6_15) rfl  k) ?_
    show own_Go p e below G (s₁.setTop (mkF m 16 #[rv sa, iv 2, iv 3, own_dv (FP.l2d t2), .second] [(.int (2 : Int32)), (.ref sa)]))
    refine own_st (fun t k => XS.aloadN X0.here hx rfl (hb hby d6_16) rfl rfl  k) ?_
    show own_Go p e below G (s₁.setTop (mkF m 17 #[rv sa, iv 2, iv 3, own_dv (FP.l2d t2), .second] [(.ref sa), (.int (2 : Int32)), (.ref sa)]))
    refine own_st (fun t k => XS.iloadN X0.here hx rfl (hb hby d6_17) rfl  k) ?_
    show own_Go p e below G (s₁.setTop (mkF m 18 #[rv sa, iv 2, iv 3, own_dv (FP.l2d t2), .second] [(.int (3 : Int32)), (.ref sa), (.int (2 : Int32)), (.ref sa)]))
    have Vc5 := V_sa
    obtain ⟨cl5, Ar5, -, Sa5, -, Ha5, -⟩ := Vc5
    have hin5 : ¬ ((3 : Int32) < 0 ∨ cl5.slots.size ≤ ((3 : Int32)).toNatClampNeg) := inb_of Sa5 ⟨by decide, by decide⟩
    refine own_st (fun t k => X0.daload hx (j := (3 : Int32)) (v := (.double (FP.l2d t3))) (by rw [e0]; exact Ar5.1) (State.isArrayOf_alike hZ.alike Ar5.2.1) Ar5.2.2 hin5 (Ha5.at hin5 rfl) (g := (mkF m 18 #[rv sa, iv 2, iv 3, own_dv (FP.l2d t2), .second] [(.int (3 : Int32)), (.ref sa), (.int (2 : Int32)), (.ref sa)])) rfl rfl (hb hby d6_18) t k) ?_
    show own_Go p e below G (s₁.setTop (mkF m 19 #[rv sa, iv 2, iv 3, own_dv (FP.l2d t2), .second] [(.double (FP.l2d t3)), (.int (2 : Int32)), (.ref sa)]))
    obtain ⟨cl6, Ar6, qa6, Sa6, Na6, Ha6, Ga6⟩ := V_sa
    have hin6 : ¬ ((2 : Int32) < 0 ∨ cl6.slots.size ≤ ((2 : Int32)).toNatClampNeg) := inb_of Sa6 ⟨by decide, by decide⟩
    obtain ⟨T6, h6, X6, e6, W6, st6⟩ := stD X0 hx hZ e0 Ar6 (j := (2 : Int32)) hin6 (g := (mkF m 19 #[rv sa, iv 2, iv 3, own_dv (FP.l2d t2), .second] [(.double (FP.l2d t3)), (.int (2 : Int32)), (.ref sa)])) rfl rfl (hb hby d6_19)
    have V_sa : Arv Z h6 sa ks .double (4 : Int32) [(.double (FP.l2d t0)), (.double (FP.l2d t1)), (.double (FP.l2d t3)), (.double (FP.l2d t3))] (.double (0 : UInt64)) := Arv.set Ar6 qa6 Sa6 Na6 Ha6 Ga6 rfl W6 2 rfl (Nat.le_of_ble_eq_true rfl)
    replace Z0 := Nat.le_trans Z0 (Keep.of_wr W6).1
    replace N0 := Fr.snoc X6 N0 g_sa
    refine own_st st6 ?_
    show own_Go p e below G (T6.setTop (mkF m 20 #[rv sa, iv 2, iv 3, own_dv (FP.l2d t2), .second] []))
    refine own_st (fun t k => XS.aloadN X6.here hx rfl (hb hby d6_20) rfl rfl  k) ?_
    show own_Go p e below G (T6.setTop (mkF m 21 #[rv sa, iv 2, iv 3, own_dv (FP.l2d t2), .second] [(.ref sa)]))
    refine own_st (fun t k => XS.iloadN X6.here hx rfl (hb hby d6_21) rfl  k) ?_
    show own_Go p e below G (T6.setTop (mkF m 22 #[rv sa, iv 2, iv 3, own_dv (FP.l2d t2), .second] [(.int (3 : Int32)), (.ref sa)]))
    refine own_st (fun t k => XS.dloadN X6.here hx rfl (hb hby d6_22) rfl  k) ?_
    show own_Go p e below G (T6.setTop (mkF m 23 #[rv sa, iv 2, iv 3, own_dv (FP.l2d t2), .second] [(.double (FP.l2d t2)), (.int (3 : Int32)), (.ref sa)]))
    obtain ⟨cl7, Ar7, qa7, Sa7, Na7, Ha7, Ga7⟩ := V_sa
    have hin7 : ¬ ((3 : Int32) < 0 ∨ cl7.slots.size ≤ ((3 : Int32)).toNatClampNeg) := inb_of Sa7 ⟨by decide, by decide⟩
    obtain ⟨T7, h7, X7, e7, W7, st7⟩ := stD X6 hx hZ e6 Ar7 (j := (3 : Int32)) hin7 (g := (mkF m 23 #[rv sa, iv 2, iv 3, own_dv (FP.l2d t2), .second] [(.double (FP.l2d t2)), (.int (3 : Int32)), (.ref sa)])) rfl rfl (hb hby d6_23)
    have V_sa : Arv Z h7 sa ks .double (4 : Int32) [(.double (FP.l2d t0)), (.double (FP.l2d t1)), (.double (FP.l2d t3)), (.double (FP.l2d t2))] (.double (0 : UInt64)) := Arv.set Ar7 qa7 Sa7 Na7 Ha7 Ga7 rfl W7 3 rfl (Nat.le_of_ble_eq_true rfl)
    replace Z0 := Nat.le_trans Z0 (Keep.of_wr W7).1
    replace N0 := Fr.snoc X7 N0 g_sa
    refine own_st st7 ?_
    show own_Go p e below G (T7.setTop (mkF m 24 #[rv sa, iv 2, iv 3, own_dv (FP.l2d t2), .second] []))
    have hlt : t2.toInt < t3.toInt := Int64.lt_iff_toInt_lt.mp c7_3
    rw [hG]
    exact own_retV X7 hx hlk hret (hb hby d6_24) (by rw [e7]; exact ⟨rfl, N0, Z0, t3, t2, V_sa, ht3, ht2, by omega, by omega⟩) (by decide) (by decide)
  · skip
    refine own_st (fun t k => XS.ifYes X0.here hx rfl (pc0 := 7) (pc' := 24) rfl (hb hby d6_7) rfl ((if0 _ _).trans (flt (fun q => c7_3 ((lw_lt _ _).1 q))).2.1) (by decide) (by decide) k) ?_
    show own_Go p e below G (s₁.setTop (mkF m 24 #[rv sa, iv 2, iv 3, .unset, .unset] []))
    have hlt : ¬ t2.toInt < t3.toInt := fun q => c7_3 (Int64.lt_iff_toInt_lt.mpr q)
    rw [hG]
    exact own_retV X0 hx hlk hret (hb hby d6_24) (by rw [e0]; exact ⟨rfl, N0, Z0, t2, t3, V_sa, ht2, ht3, by omega, by omega⟩) (by decide) (by decide)
theorem pn_rmX02 : plainFor (⟨"com/example/thinleaf/thinleaf/prune/NearestLeastPinLaw", "cs", "([DII)V"⟩ : MethodName) = true := by decide +kernel
theorem ef_rmX02 (m : MethodId) (x0 : Addr) (x1 : Int32) (x2 : Int32) : entryFrame m #[(.ref x0), (.int x1), (.int x2)] 5 = mkF m 0 #[rv x0, iv x1, iv x2, .unset, .unset] [] := by first | (simp [entryFrame, mkF, argsToLocals, Value.category]; done) | rfl
set_option maxRecDepth 65536 in
set_option maxHeartbeats 40000000 in
theorem rmX02 (l : Launch) (Z : State) (a0 : Array Value) (hw : ∀ d ∈ tables_1, d.before a0 Z = true) (sa : Addr) (ks : ClassId) (t0 t1 t2 t3 : Int64) (h0 : Heap) (n0 : Nat) (Z0 : n0 ≤ h0.size) (g_sa : n0 ≤ sa) (V_sa : Arv Z h0 sa ks .double (4 : Int32) [(.double (FP.l2d t0)), (.double (FP.l2d t1)), (.double (FP.l2d t2)), (.double (FP.l2d t3))] (.double (0 : UInt64))) (ht0 : own_b t0) (ht2 : own_b t2) :
    own_Met l Z (⟨"com/example/thinleaf/thinleaf/prune/NearestLeastPinLaw", "cs", "([DII)V"⟩ : MethodName) method_3_code 5 none [] ({ frames := 0, cells := 0, slots := 0, locals := 0 } : Room) #[(.ref sa), (.int (0 : Int32)), (.int (2 : Int32))] h0 (fun z h L => z = none ∧ Fr n0 L ∧ n0 ≤ h.size ∧ ∃ (ui uj : Int64), Arv Z h sa ks .double (4 : Int32) [(.double (FP.l2d ui)), (.double (FP.l2d t1)), (.double (FP.l2d uj)), (.double (FP.l2d t3))] (.double (0 : UInt64)) ∧ own_b ui ∧ own_b uj ∧ ui.toInt = max t0.toInt t2.toInt ∧ uj.toInt = min t0.toInt t2.toInt) := by
  refine own_body pn_rmX02 ?_
  intro p e s m below meth c s₁ hx hby hml hown hnm hret hlk hZ X0 e0 G hG
  replace hml : c.maxLocals = 5 := hml
  replace hown : s.vm.findClass "com/example/thinleaf/thinleaf/prune/NearestLeastPinLaw" = some m.cls := hown
  rw [ef_rmX02]
  have N0 := Fr.nil n0
  show own_Go p e below G (s₁.setTop (mkF m 0 #[rv sa, iv 0, iv 2, .unset, .unset] []))
  refine own_st (fun t k => XS.aloadN X0.here hx rfl (hb hby d6_0) rfl rfl  k) ?_
  show own_Go p e below G (s₁.setTop (mkF m 1 #[rv sa, iv 0, iv 2, .unset, .unset] [(.ref sa)]))
  refine own_st (fun t k => XS.iloadN X0.here hx rfl (hb hby d6_1) rfl  k) ?_
  show own_Go p e below G (s₁.setTop (mkF m 2 #[rv sa, iv 0, iv 2, .unset, .unset] [(.int (0 : Int32)), (.ref sa)]))
  have Vc1 := V_sa
  obtain ⟨cl1, Ar1, -, Sa1, -, Ha1, -⟩ := Vc1
  have hin1 : ¬ ((0 : Int32) < 0 ∨ cl1.slots.size ≤ ((0 : Int32)).toNatClampNeg) := inb_of Sa1 ⟨by decide, by decide⟩
  refine own_st (fun t k => X0.daload hx (j := (0 : Int32)) (v := (.double (FP.l2d t0))) (by rw [e0]; exact Ar1.1) (State.isArrayOf_alike hZ.alike Ar1.2.1) Ar1.2.2 hin1 (Ha1.at hin1 rfl) (g := (mkF m 2 #[rv sa, iv 0, iv 2, .unset, .unset] [(.int (0 : Int32)), (.ref sa)])) rfl rfl (hb hby d6_2) t k) ?_
  show own_Go p e below G (s₁.setTop (mkF m 3 #[rv sa, iv 0, iv 2, .unset, .unset] [(.double (FP.l2d t0))]))
  refine own_st (fun t k => XS.aloadN X0.here hx rfl (hb hby d6_3) rfl rfl  k) ?_
  show own_Go p e below G (s₁.setTop (mkF m 4 #[rv sa, iv 0, iv 2, .unset, .unset] [(.ref sa), (.double (FP.l2d t0))]))
  refine own_st (fun t k => XS.iloadN X0.here hx rfl (hb hby d6_4) rfl  k) ?_
  show own_Go p e below G (s₁.setTop (mkF m 5 #[rv sa, iv 0, iv 2, .unset, .unset] [(.int (2 : Int32)), (.ref sa), (.double (FP.l2d t0))]))
  have Vc2 := V_sa
  obtain ⟨cl2, Ar2, -, Sa2, -, Ha2, -⟩ := Vc2
  have hin2 : ¬ ((2 : Int32) < 0 ∨ cl2.slots.size ≤ ((2 : Int32)).toNatClampNeg) := inb_of Sa2 ⟨by decide, by decide⟩
  refine own_st (fun t k => X0.daload hx (j := (2 : Int32)) (v := (.double (FP.l2d t2))) (by rw [e0]; exact Ar2.1) (State.isArrayOf_alike hZ.alike Ar2.2.1) Ar2.2.2 hin2 (Ha2.at hin2 rfl) (g := (mkF m 5 #[rv sa, iv 0, iv 2, .unset, .unset] [(.int (2 : Int32)), (.ref sa), (.double (FP.l2d t0))])) rfl rfl (hb hby d6_5) t k) ?_
  show own_Go p e below G (s₁.setTop (mkF m 6 #[rv sa, iv 0, iv 2, .unset, .unset] [(.double (FP.l2d t2)), (.double (FP.l2d t0))]))
  refine own_st (fun t k => XS.dcmpS X0.here hx rfl (hb hby d6_6) rfl (dcmpV_w (own_b53 ht0) (own_b53 ht2) _) k) ?_
  show own_Go p e below G (s₁.setTop (mkF m 7 #[rv sa, iv 0, iv 2, .unset, .unset] [(.int (lcmpW t0 t2))]))
  by_cases c7_3 : t0 < t2
  · skip
    refine own_st (fun t k => XS.ifNo X0.here hx rfl (hb hby d6_7) rfl ((if0 _ _).trans (tlt ((lw_lt _ _).2 c7_3)).2.1) k) ?_
    show own_Go p e below G (s₁.setTop (mkF m 10 #[rv sa, iv 0, iv 2, .unset, .unset] []))
    refine own_st (fun t k => XS.aloadN X0.here hx rfl (hb hby d6_10) rfl rfl  k) ?_
    show own_Go p e below G (s₁.setTop (mkF m 11 #[rv sa, iv 0, iv 2, .unset, .unset] [(.ref sa)]))
    refine own_st (fun t k => XS.iloadN X0.here hx rfl (hb hby d6_11) rfl  k) ?_
    show own_Go p e below G (s₁.setTop (mkF m 12 #[rv sa, iv 0, iv 2, .unset, .unset] [(.int (0 : Int32)), (.ref sa)]))
    have Vc4 := V_sa
    obtain ⟨cl4, Ar4, -, Sa4, -, Ha4, -⟩ := Vc4
    have hin4 : ¬ ((0 : Int32) < 0 ∨ cl4.slots.size ≤ ((0 : Int32)).toNatClampNeg) := inb_of Sa4 ⟨by decide, by decide⟩
    refine own_st (fun t k => X0.daload hx (j := (0 : Int32)) (v := (.double (FP.l2d t0))) (by rw [e0]; exact Ar4.1) (State.isArrayOf_alike hZ.alike Ar4.2.1) Ar4.2.2 hin4 (Ha4.at hin4 rfl) (g := (mkF m 12 #[rv sa, iv 0, iv 2, .unset, .unset] [(.int (0 : Int32)), (.ref sa)])) rfl rfl (hb hby d6_12) t k) ?_
    show own_Go p e below G (s₁.setTop (mkF m 13 #[rv sa, iv 0, iv 2, .unset, .unset] [(.double (FP.l2d t0))]))
    refine own_st (fun t k => XS.dstoreN X0.here hx rfl (hb hby d6_13) rfl (l' := #[rv sa, iv 0, iv 2, own_dv (FP.l2d t0), .second]) rfl k) ?_
    show own_Go p e below G (s₁.setTop (mkF m 14 #[rv sa, iv 0, iv 2, own_dv (FP.l2d t0), .second] []))
    refine own_st (fun t k => XS.aloadN X0.here hx rfl (hb hby d6_14) rfl rfl  k) ?_
    show own_Go p e below G (s₁.setTop (mkF m 15 #[rv sa, iv 0, iv 2, own_dv (FP.l2d t0), .second] [(.ref sa)]))
    refine own_st (fun t k => XS.iloadN X0.here hx rfl (hb hby d6_15) rfl  k) ?_
    show own_Go p e below G (s₁.setTop (mkF m 16 #[rv sa, iv 0, iv 2, own_dv (FP.l2d t0), .second] [(.int (0 : Int32)), (.ref sa)]))
    refine own_st (fun t k => XS.aloadN X0.here hx rfl (hb hby d6_16) rfl rfl  k) ?_
    show own_Go p e below G (s₁.setTop (mkF m 17 #[rv sa, iv 0, iv 2, own_dv (FP.l2d t0), .second] [(.ref sa), (.int (0 : Int32)), (.ref sa)]))
    refine own_st (fun t k => XS.iloadN X0.here hx rfl (hb hby d6_17) rfl  k) ?_
    show own_Go p e below G (s₁.setTop (mkF m 18 #[rv sa, iv 0, iv 2, own_dv (FP.l2d t0), .second] [(.int (2 : Int32)), (.ref sa), (.int (0 : Int32)), (.ref sa)]))
    have Vc5 := V_sa
    obtain ⟨cl5, Ar5, -, Sa5, -, Ha5, -⟩ := Vc5
    have hin5 : ¬ ((2 : Int32) < 0 ∨ cl5.slots.size ≤ ((2 : Int32)).toNatClampNeg) := inb_of Sa5 ⟨by decide, by decide⟩
    refine own_st (fun t k => X0.daload hx (j := (2 : Int32)) (v := (.double (FP.l2d t2))) (by rw [e0]; exact Ar5.1) (State.isArrayOf_alike hZ.alike Ar5.2.1) Ar5.2.2 hin5 (Ha5.at hin5 rfl) (g := (mkF m 18 #[rv sa, iv 0, iv 2, own_dv (FP.l2d t0), .second] [(.int (2 : Int32)), (.ref sa), (.int (0 : Int32)), (.ref sa)])) rfl rfl (hb hby d6_18) t k) ?_
    show own_Go p e below G (s₁.setTop (mkF m 19 #[rv sa, iv 0, iv 2, own_dv (FP.l2d t0), .second] [(.double (FP.l2d t2)), (.int (0 : Int32)), (.ref sa)]))
    obtain ⟨cl6, Ar6, qa6, Sa6, Na6, Ha6, Ga6⟩ := V_sa
    have hin6 : ¬ ((0 : Int32) < 0 ∨ cl6.slots.size ≤ ((0 : Int32)).toNatClampNeg) := inb_of Sa6 ⟨by decide, by decide⟩
    obtain ⟨T6, h6, X6, e6, W6, st6⟩ := stD X0 hx hZ e0 Ar6 (j := (0 : Int32)) hin6 (g := (mkF m 19 #[rv sa, iv 0, iv 2, own_dv (FP.l2d t0), .second] [(.double (FP.l2d t2)), (.int (0 : Int32)), (.ref sa)])) rfl rfl (hb hby d6_19)
    have V_sa : Arv Z h6 sa ks .double (4 : Int32) [(.double (FP.l2d t2)), (.double (FP.l2d t1)), (.double (FP.l2d t2)), (.double (FP.l2d t3))] (.double (0 : UInt64)) := Arv.set Ar6 qa6 Sa6 Na6 Ha6 Ga6 rfl W6 0 rfl (Nat.le_of_ble_eq_true rfl)
    replace Z0 := Nat.le_trans Z0 (Keep.of_wr W6).1
    replace N0 := Fr.snoc X6 N0 g_sa
    refine own_st st6 ?_
    show own_Go p e below G (T6.setTop (mkF m 20 #[rv sa, iv 0, iv 2, own_dv (FP.l2d t0), .second] []))
    refine own_st (fun t k => XS.aloadN X6.here hx rfl (hb hby d6_20) rfl rfl  k) ?_
    show own_Go p e below G (T6.setTop (mkF m 21 #[rv sa, iv 0, iv 2, own_dv (FP.l2d t0), .second] [(.ref sa)]))
    refine own_st (fun t k => XS.iloadN X6.here hx rfl (hb hby d6_21) rfl  k) ?_
    show own_Go p e below G (T6.setTop (mkF m 22 #[rv sa, iv 0, iv 2, own_dv (FP.l2d t0), .second] [(.int (2 : Int32)), (.ref sa)]))
    refine own_st (fun t k => XS.dloadN X6.here hx rfl (hb hby d6_22) rfl  k) ?_
    show own_Go p e below G (T6.setTop (mkF m 23 #[rv sa, iv 0, iv 2, own_dv (FP.l2d t0), .second] [(.double (FP.l2d t0)), (.int (2 : Int32)), (.ref sa)]))
    obtain ⟨cl7, Ar7, qa7, Sa7, Na7, Ha7, Ga7⟩ := V_sa
    have hin7 : ¬ ((2 : Int32) < 0 ∨ cl7.slots.size ≤ ((2 : Int32)).toNatClampNeg) := inb_of Sa7 ⟨by decide, by decide⟩
    obtain ⟨T7, h7, X7, e7, W7, st7⟩ := stD X6 hx hZ e6 Ar7 (j := (2 : Int32)) hin7 (g := (mkF m 23 #[rv sa, iv 0, iv 2, own_dv (FP.l2d t0), .second] [(.double (FP.l2d t0)), (.int (2 : Int32)), (.ref sa)])) rfl rfl (hb hby d6_23)
    have V_sa : Arv Z h7 sa ks .double (4 : Int32) [(.double (FP.l2d t2)), (.double (FP.l2d t1)), (.double (FP.l2d t0)), (.double (FP.l2d t3))] (.double (0 : UInt64)) := Arv.set Ar7 qa7 Sa7 Na7 Ha7 Ga7 rfl W7 2 rfl (Nat.le_of_ble_eq_true rfl)
    replace Z0 := Nat.le_trans Z0 (Keep.of_wr W7).1
    replace N0 := Fr.snoc X7 N0 g_sa
    refine own_st st7 ?_
    show own_Go p e below G (T7.setTop (mkF m 24 #[rv sa, iv 0, iv 2, own_dv (FP.l2d t0), .second] []))
    have hlt : t0.toInt < t2.toInt := Int64.lt_iff_toInt_lt.mp c7_3
    rw [hG]
    exact own_retV X7 hx hlk hret (hb hby d6_24) (by rw [e7]; exact ⟨rfl, N0, Z0, t2, t0, V_sa, ht2, ht0, by omega, by omega⟩) (by decide) (by decide)
  · skip
    refine own_st (fun t k => XS.ifYes X0.here hx rfl (pc0 := 7) (pc' := 24) rfl (hb hby d6_7) rfl ((if0 _ _).trans (flt (fun q => c7_3 ((lw_lt _ _).1 q))).2.1) (by decide) (by decide) k) ?_
    show own_Go p e below G (s₁.setTop (mkF m 24 #[rv sa, iv 0, iv 2, .unset, .unset] []))
    have hlt : ¬ t0.toInt < t2.toInt := fun q => c7_3 (Int64.lt_iff_toInt_lt.mpr q)
    rw [hG]
    exact own_retV X0 hx hlk hret (hb hby d6_24) (by rw [e0]; exact ⟨rfl, N0, Z0, t0, t2, V_sa, ht0, ht2, by omega, by omega⟩) (by decide) (by decide)
theorem pn_rmX13 : plainFor (⟨"com/example/thinleaf/thinleaf/prune/NearestLeastPinLaw", "cs", "([DII)V"⟩ : MethodName) = true := by decide +kernel
theorem ef_rmX13 (m : MethodId) (x0 : Addr) (x1 : Int32) (x2 : Int32) : entryFrame m #[(.ref x0), (.int x1), (.int x2)] 5 = mkF m 0 #[rv x0, iv x1, iv x2, .unset, .unset] [] := by first | (simp [entryFrame, mkF, argsToLocals, Value.category]; done) | rfl
set_option maxRecDepth 65536 in
set_option maxHeartbeats 40000000 in
theorem rmX13 (l : Launch) (Z : State) (a0 : Array Value) (hw : ∀ d ∈ tables_1, d.before a0 Z = true) (sa : Addr) (ks : ClassId) (t0 t1 t2 t3 : Int64) (h0 : Heap) (n0 : Nat) (Z0 : n0 ≤ h0.size) (g_sa : n0 ≤ sa) (V_sa : Arv Z h0 sa ks .double (4 : Int32) [(.double (FP.l2d t0)), (.double (FP.l2d t1)), (.double (FP.l2d t2)), (.double (FP.l2d t3))] (.double (0 : UInt64))) (ht1 : own_b t1) (ht3 : own_b t3) :
    own_Met l Z (⟨"com/example/thinleaf/thinleaf/prune/NearestLeastPinLaw", "cs", "([DII)V"⟩ : MethodName) method_3_code 5 none [] ({ frames := 0, cells := 0, slots := 0, locals := 0 } : Room) #[(.ref sa), (.int (1 : Int32)), (.int (3 : Int32))] h0 (fun z h L => z = none ∧ Fr n0 L ∧ n0 ≤ h.size ∧ ∃ (ui uj : Int64), Arv Z h sa ks .double (4 : Int32) [(.double (FP.l2d t0)), (.double (FP.l2d ui)), (.double (FP.l2d t2)), (.double (FP.l2d uj))] (.double (0 : UInt64)) ∧ own_b ui ∧ own_b uj ∧ ui.toInt = max t1.toInt t3.toInt ∧ uj.toInt = min t1.toInt t3.toInt) := by
  refine own_body pn_rmX13 ?_
  intro p e s m below meth c s₁ hx hby hml hown hnm hret hlk hZ X0 e0 G hG
  replace hml : c.maxLocals = 5 := hml
  replace hown : s.vm.findClass "com/example/thinleaf/thinleaf/prune/NearestLeastPinLaw" = some m.cls := hown
  rw [ef_rmX13]
  have N0 := Fr.nil n0
  show own_Go p e below G (s₁.setTop (mkF m 0 #[rv sa, iv 1, iv 3, .unset, .unset] []))
  refine own_st (fun t k => XS.aloadN X0.here hx rfl (hb hby d6_0) rfl rfl  k) ?_
  show own_Go p e below G (s₁.setTop (mkF m 1 #[rv sa, iv 1, iv 3, .unset, .unset] [(.ref sa)]))
  refine own_st (fun t k => XS.iloadN X0.here hx rfl (hb hby d6_1) rfl  k) ?_
  show own_Go p e below G (s₁.setTop (mkF m 2 #[rv sa, iv 1, iv 3, .unset, .unset] [(.int (1 : Int32)), (.ref sa)]))
  have Vc1 := V_sa
  obtain ⟨cl1, Ar1, -, Sa1, -, Ha1, -⟩ := Vc1
  have hin1 : ¬ ((1 : Int32) < 0 ∨ cl1.slots.size ≤ ((1 : Int32)).toNatClampNeg) := inb_of Sa1 ⟨by decide, by decide⟩
  refine own_st (fun t k => X0.daload hx (j := (1 : Int32)) (v := (.double (FP.l2d t1))) (by rw [e0]; exact Ar1.1) (State.isArrayOf_alike hZ.alike Ar1.2.1) Ar1.2.2 hin1 (Ha1.at hin1 rfl) (g := (mkF m 2 #[rv sa, iv 1, iv 3, .unset, .unset] [(.int (1 : Int32)), (.ref sa)])) rfl rfl (hb hby d6_2) t k) ?_
  show own_Go p e below G (s₁.setTop (mkF m 3 #[rv sa, iv 1, iv 3, .unset, .unset] [(.double (FP.l2d t1))]))
  refine own_st (fun t k => XS.aloadN X0.here hx rfl (hb hby d6_3) rfl rfl  k) ?_
  show own_Go p e below G (s₁.setTop (mkF m 4 #[rv sa, iv 1, iv 3, .unset, .unset] [(.ref sa), (.double (FP.l2d t1))]))
  refine own_st (fun t k => XS.iloadN X0.here hx rfl (hb hby d6_4) rfl  k) ?_
  show own_Go p e below G (s₁.setTop (mkF m 5 #[rv sa, iv 1, iv 3, .unset, .unset] [(.int (3 : Int32)), (.ref sa), (.double (FP.l2d t1))]))
  have Vc2 := V_sa
  obtain ⟨cl2, Ar2, -, Sa2, -, Ha2, -⟩ := Vc2
  have hin2 : ¬ ((3 : Int32) < 0 ∨ cl2.slots.size ≤ ((3 : Int32)).toNatClampNeg) := inb_of Sa2 ⟨by decide, by decide⟩
  refine own_st (fun t k => X0.daload hx (j := (3 : Int32)) (v := (.double (FP.l2d t3))) (by rw [e0]; exact Ar2.1) (State.isArrayOf_alike hZ.alike Ar2.2.1) Ar2.2.2 hin2 (Ha2.at hin2 rfl) (g := (mkF m 5 #[rv sa, iv 1, iv 3, .unset, .unset] [(.int (3 : Int32)), (.ref sa), (.double (FP.l2d t1))])) rfl rfl (hb hby d6_5) t k) ?_
  show own_Go p e below G (s₁.setTop (mkF m 6 #[rv sa, iv 1, iv 3, .unset, .unset] [(.double (FP.l2d t3)), (.double (FP.l2d t1))]))
  refine own_st (fun t k => XS.dcmpS X0.here hx rfl (hb hby d6_6) rfl (dcmpV_w (own_b53 ht1) (own_b53 ht3) _) k) ?_
  show own_Go p e below G (s₁.setTop (mkF m 7 #[rv sa, iv 1, iv 3, .unset, .unset] [(.int (lcmpW t1 t3))]))
  by_cases c7_3 : t1 < t3
  · skip
    refine own_st (fun t k => XS.ifNo X0.here hx rfl (hb hby d6_7) rfl ((if0 _ _).trans (tlt ((lw_lt _ _).2 c7_3)).2.1) k) ?_
    show own_Go p e below G (s₁.setTop (mkF m 10 #[rv sa, iv 1, iv 3, .unset, .unset] []))
    refine own_st (fun t k => XS.aloadN X0.here hx rfl (hb hby d6_10) rfl rfl  k) ?_
    show own_Go p e below G (s₁.setTop (mkF m 11 #[rv sa, iv 1, iv 3, .unset, .unset] [(.ref sa)]))
    refine own_st (fun t k => XS.iloadN X0.here hx rfl (hb hby d6_11) rfl  k) ?_
    show own_Go p e below G (s₁.setTop (mkF m 12 #[rv sa, iv 1, iv 3, .unset, .unset] [(.int (1 : Int32)), (.ref sa)]))
    have Vc4 := V_sa
    obtain ⟨cl4, Ar4, -, Sa4, -, Ha4, -⟩ := Vc4
    have hin4 : ¬ ((1 : Int32) < 0 ∨ cl4.slots.size ≤ ((1 : Int32)).toNatClampNeg) := inb_of Sa4 ⟨by decide, by decide⟩
    refine own_st (fun t k => X0.daload hx (j := (1 : Int32)) (v := (.double (FP.l2d t1))) (by rw [e0]; exact Ar4.1) (State.isArrayOf_alike hZ.alike Ar4.2.1) Ar4.2.2 hin4 (Ha4.at hin4 rfl) (g := (mkF m 12 #[rv sa, iv 1, iv 3, .unset, .unset] [(.int (1 : Int32)), (.ref sa)])) rfl rfl (hb hby d6_12) t k) ?_
    show own_Go p e below G (s₁.setTop (mkF m 13 #[rv sa, iv 1, iv 3, .unset, .unset] [(.double (FP.l2d t1))]))
    refine own_st (fun t k => XS.dstoreN X0.here hx rfl (hb hby d6_13) rfl (l' := #[rv sa, iv 1, iv 3, own_dv (FP.l2d t1), .second]) rfl k) ?_
    show own_Go p e below G (s₁.setTop (mkF m 14 #[rv sa, iv 1, iv 3, own_dv (FP.l2d t1), .second] []))
    refine own_st (fun t k => XS.aloadN X0.here hx rfl (hb hby d6_14) rfl rfl  k) ?_
    show own_Go p e below G (s₁.setTop (mkF m 15 #[rv sa, iv 1, iv 3, own_dv (FP.l2d t1), .second] [(.ref sa)]))
    refine own_st (fun t k => XS.iloadN X0.here hx rfl (hb hby d6_15) rfl  k) ?_
    show own_Go p e below G (s₁.setTop (mkF m 16 #[rv sa, iv 1, iv 3, own_dv (FP.l2d t1), .second] [(.int (1 : Int32)), (.ref sa)]))
    refine own_st (fun t k => XS.aloadN X0.here hx rfl (hb hby d6_16) rfl rfl  k) ?_
    show own_Go p e below G (s₁.setTop (mkF m 17 #[rv sa, iv 1, iv 3, own_dv (FP.l2d t1), .second] [(.ref sa), (.int (1 : Int32)), (.ref sa)]))
    refine own_st (fun t k => XS.iloadN X0.here hx rfl (hb hby d6_17) rfl  k) ?_
    show own_Go p e below G (s₁.setTop (mkF m 18 #[rv sa, iv 1, iv 3, own_dv (FP.l2d t1), .second] [(.int (3 : Int32)), (.ref sa), (.int (1 : Int32)), (.ref sa)]))
    have Vc5 := V_sa
    obtain ⟨cl5, Ar5, -, Sa5, -, Ha5, -⟩ := Vc5
    have hin5 : ¬ ((3 : Int32) < 0 ∨ cl5.slots.size ≤ ((3 : Int32)).toNatClampNeg) := inb_of Sa5 ⟨by decide, by decide⟩
    refine own_st (fun t k => X0.daload hx (j := (3 : Int32)) (v := (.double (FP.l2d t3))) (by rw [e0]; exact Ar5.1) (State.isArrayOf_alike hZ.alike Ar5.2.1) Ar5.2.2 hin5 (Ha5.at hin5 rfl) (g := (mkF m 18 #[rv sa, iv 1, iv 3, own_dv (FP.l2d t1), .second] [(.int (3 : Int32)), (.ref sa), (.int (1 : Int32)), (.ref sa)])) rfl rfl (hb hby d6_18) t k) ?_
    show own_Go p e below G (s₁.setTop (mkF m 19 #[rv sa, iv 1, iv 3, own_dv (FP.l2d t1), .second] [(.double (FP.l2d t3)), (.int (1 : Int32)), (.ref sa)]))
    obtain ⟨cl6, Ar6, qa6, Sa6, Na6, Ha6, Ga6⟩ := V_sa
    have hin6 : ¬ ((1 : Int32) < 0 ∨ cl6.slots.size ≤ ((1 : Int32)).toNatClampNeg) := inb_of Sa6 ⟨by decide, by decide⟩
    obtain ⟨T6, h6, X6, e6, W6, st6⟩ := stD X0 hx hZ e0 Ar6 (j := (1 : Int32)) hin6 (g := (mkF m 19 #[rv sa, iv 1, iv 3, own_dv (FP.l2d t1), .second] [(.double (FP.l2d t3)), (.int (1 : Int32)), (.ref sa)])) rfl rfl (hb hby d6_19)
    have V_sa : Arv Z h6 sa ks .double (4 : Int32) [(.double (FP.l2d t0)), (.double (FP.l2d t3)), (.double (FP.l2d t2)), (.double (FP.l2d t3))] (.double (0 : UInt64)) := Arv.set Ar6 qa6 Sa6 Na6 Ha6 Ga6 rfl W6 1 rfl (Nat.le_of_ble_eq_true rfl)
    replace Z0 := Nat.le_trans Z0 (Keep.of_wr W6).1
    replace N0 := Fr.snoc X6 N0 g_sa
    refine own_st st6 ?_
    show own_Go p e below G (T6.setTop (mkF m 20 #[rv sa, iv 1, iv 3, own_dv (FP.l2d t1), .second] []))
    refine own_st (fun t k => XS.aloadN X6.here hx rfl (hb hby d6_20) rfl rfl  k) ?_
    show own_Go p e below G (T6.setTop (mkF m 21 #[rv sa, iv 1, iv 3, own_dv (FP.l2d t1), .second] [(.ref sa)]))
    refine own_st (fun t k => XS.iloadN X6.here hx rfl (hb hby d6_21) rfl  k) ?_
    show own_Go p e below G (T6.setTop (mkF m 22 #[rv sa, iv 1, iv 3, own_dv (FP.l2d t1), .second] [(.int (3 : Int32)), (.ref sa)]))
    refine own_st (fun t k => XS.dloadN X6.here hx rfl (hb hby d6_22) rfl  k) ?_
    show own_Go p e below G (T6.setTop (mkF m 23 #[rv sa, iv 1, iv 3, own_dv (FP.l2d t1), .second] [(.double (FP.l2d t1)), (.int (3 : Int32)), (.ref sa)]))
    obtain ⟨cl7, Ar7, qa7, Sa7, Na7, Ha7, Ga7⟩ := V_sa
    have hin7 : ¬ ((3 : Int32) < 0 ∨ cl7.slots.size ≤ ((3 : Int32)).toNatClampNeg) := inb_of Sa7 ⟨by decide, by decide⟩
    obtain ⟨T7, h7, X7, e7, W7, st7⟩ := stD X6 hx hZ e6 Ar7 (j := (3 : Int32)) hin7 (g := (mkF m 23 #[rv sa, iv 1, iv 3, own_dv (FP.l2d t1), .second] [(.double (FP.l2d t1)), (.int (3 : Int32)), (.ref sa)])) rfl rfl (hb hby d6_23)
    have V_sa : Arv Z h7 sa ks .double (4 : Int32) [(.double (FP.l2d t0)), (.double (FP.l2d t3)), (.double (FP.l2d t2)), (.double (FP.l2d t1))] (.double (0 : UInt64)) := Arv.set Ar7 qa7 Sa7 Na7 Ha7 Ga7 rfl W7 3 rfl (Nat.le_of_ble_eq_true rfl)
    replace Z0 := Nat.le_trans Z0 (Keep.of_wr W7).1
    replace N0 := Fr.snoc X7 N0 g_sa
    refine own_st st7 ?_
    show own_Go p e below G (T7.setTop (mkF m 24 #[rv sa, iv 1, iv 3, own_dv (FP.l2d t1), .second] []))
    have hlt : t1.toInt < t3.toInt := Int64.lt_iff_toInt_lt.mp c7_3
    rw [hG]
    exact own_retV X7 hx hlk hret (hb hby d6_24) (by rw [e7]; exact ⟨rfl, N0, Z0, t3, t1, V_sa, ht3, ht1, by omega, by omega⟩) (by decide) (by decide)
  · skip
    refine own_st (fun t k => XS.ifYes X0.here hx rfl (pc0 := 7) (pc' := 24) rfl (hb hby d6_7) rfl ((if0 _ _).trans (flt (fun q => c7_3 ((lw_lt _ _).1 q))).2.1) (by decide) (by decide) k) ?_
    show own_Go p e below G (s₁.setTop (mkF m 24 #[rv sa, iv 1, iv 3, .unset, .unset] []))
    have hlt : ¬ t1.toInt < t3.toInt := fun q => c7_3 (Int64.lt_iff_toInt_lt.mpr q)
    rw [hG]
    exact own_retV X0 hx hlk hret (hb hby d6_24) (by rw [e0]; exact ⟨rfl, N0, Z0, t1, t3, V_sa, ht1, ht3, by omega, by omega⟩) (by decide) (by decide)
theorem pn_rmX12 : plainFor (⟨"com/example/thinleaf/thinleaf/prune/NearestLeastPinLaw", "cs", "([DII)V"⟩ : MethodName) = true := by decide +kernel
theorem ef_rmX12 (m : MethodId) (x0 : Addr) (x1 : Int32) (x2 : Int32) : entryFrame m #[(.ref x0), (.int x1), (.int x2)] 5 = mkF m 0 #[rv x0, iv x1, iv x2, .unset, .unset] [] := by first | (simp [entryFrame, mkF, argsToLocals, Value.category]; done) | rfl
set_option maxRecDepth 65536 in
set_option maxHeartbeats 40000000 in
theorem rmX12 (l : Launch) (Z : State) (a0 : Array Value) (hw : ∀ d ∈ tables_1, d.before a0 Z = true) (sa : Addr) (ks : ClassId) (t0 t1 t2 t3 : Int64) (h0 : Heap) (n0 : Nat) (Z0 : n0 ≤ h0.size) (g_sa : n0 ≤ sa) (V_sa : Arv Z h0 sa ks .double (4 : Int32) [(.double (FP.l2d t0)), (.double (FP.l2d t1)), (.double (FP.l2d t2)), (.double (FP.l2d t3))] (.double (0 : UInt64))) (ht1 : own_b t1) (ht2 : own_b t2) :
    own_Met l Z (⟨"com/example/thinleaf/thinleaf/prune/NearestLeastPinLaw", "cs", "([DII)V"⟩ : MethodName) method_3_code 5 none [] ({ frames := 0, cells := 0, slots := 0, locals := 0 } : Room) #[(.ref sa), (.int (1 : Int32)), (.int (2 : Int32))] h0 (fun z h L => z = none ∧ Fr n0 L ∧ n0 ≤ h.size ∧ ∃ (ui uj : Int64), Arv Z h sa ks .double (4 : Int32) [(.double (FP.l2d t0)), (.double (FP.l2d ui)), (.double (FP.l2d uj)), (.double (FP.l2d t3))] (.double (0 : UInt64)) ∧ own_b ui ∧ own_b uj ∧ ui.toInt = max t1.toInt t2.toInt ∧ uj.toInt = min t1.toInt t2.toInt) := by
  refine own_body pn_rmX12 ?_
  intro p e s m below meth c s₁ hx hby hml hown hnm hret hlk hZ X0 e0 G hG
  replace hml : c.maxLocals = 5 := hml
  replace hown : s.vm.findClass "com/example/thinleaf/thinleaf/prune/NearestLeastPinLaw" = some m.cls := hown
  rw [ef_rmX12]
  have N0 := Fr.nil n0
  show own_Go p e below G (s₁.setTop (mkF m 0 #[rv sa, iv 1, iv 2, .unset, .unset] []))
  refine own_st (fun t k => XS.aloadN X0.here hx rfl (hb hby d6_0) rfl rfl  k) ?_
  show own_Go p e below G (s₁.setTop (mkF m 1 #[rv sa, iv 1, iv 2, .unset, .unset] [(.ref sa)]))
  refine own_st (fun t k => XS.iloadN X0.here hx rfl (hb hby d6_1) rfl  k) ?_
  show own_Go p e below G (s₁.setTop (mkF m 2 #[rv sa, iv 1, iv 2, .unset, .unset] [(.int (1 : Int32)), (.ref sa)]))
  have Vc1 := V_sa
  obtain ⟨cl1, Ar1, -, Sa1, -, Ha1, -⟩ := Vc1
  have hin1 : ¬ ((1 : Int32) < 0 ∨ cl1.slots.size ≤ ((1 : Int32)).toNatClampNeg) := inb_of Sa1 ⟨by decide, by decide⟩
  refine own_st (fun t k => X0.daload hx (j := (1 : Int32)) (v := (.double (FP.l2d t1))) (by rw [e0]; exact Ar1.1) (State.isArrayOf_alike hZ.alike Ar1.2.1) Ar1.2.2 hin1 (Ha1.at hin1 rfl) (g := (mkF m 2 #[rv sa, iv 1, iv 2, .unset, .unset] [(.int (1 : Int32)), (.ref sa)])) rfl rfl (hb hby d6_2) t k) ?_
  show own_Go p e below G (s₁.setTop (mkF m 3 #[rv sa, iv 1, iv 2, .unset, .unset] [(.double (FP.l2d t1))]))
  refine own_st (fun t k => XS.aloadN X0.here hx rfl (hb hby d6_3) rfl rfl  k) ?_
  show own_Go p e below G (s₁.setTop (mkF m 4 #[rv sa, iv 1, iv 2, .unset, .unset] [(.ref sa), (.double (FP.l2d t1))]))
  refine own_st (fun t k => XS.iloadN X0.here hx rfl (hb hby d6_4) rfl  k) ?_
  show own_Go p e below G (s₁.setTop (mkF m 5 #[rv sa, iv 1, iv 2, .unset, .unset] [(.int (2 : Int32)), (.ref sa), (.double (FP.l2d t1))]))
  have Vc2 := V_sa
  obtain ⟨cl2, Ar2, -, Sa2, -, Ha2, -⟩ := Vc2
  have hin2 : ¬ ((2 : Int32) < 0 ∨ cl2.slots.size ≤ ((2 : Int32)).toNatClampNeg) := inb_of Sa2 ⟨by decide, by decide⟩
  refine own_st (fun t k => X0.daload hx (j := (2 : Int32)) (v := (.double (FP.l2d t2))) (by rw [e0]; exact Ar2.1) (State.isArrayOf_alike hZ.alike Ar2.2.1) Ar2.2.2 hin2 (Ha2.at hin2 rfl) (g := (mkF m 5 #[rv sa, iv 1, iv 2, .unset, .unset] [(.int (2 : Int32)), (.ref sa), (.double (FP.l2d t1))])) rfl rfl (hb hby d6_5) t k) ?_
  show own_Go p e below G (s₁.setTop (mkF m 6 #[rv sa, iv 1, iv 2, .unset, .unset] [(.double (FP.l2d t2)), (.double (FP.l2d t1))]))
  refine own_st (fun t k => XS.dcmpS X0.here hx rfl (hb hby d6_6) rfl (dcmpV_w (own_b53 ht1) (own_b53 ht2) _) k) ?_
  show own_Go p e below G (s₁.setTop (mkF m 7 #[rv sa, iv 1, iv 2, .unset, .unset] [(.int (lcmpW t1 t2))]))
  by_cases c7_3 : t1 < t2
  · skip
    refine own_st (fun t k => XS.ifNo X0.here hx rfl (hb hby d6_7) rfl ((if0 _ _).trans (tlt ((lw_lt _ _).2 c7_3)).2.1) k) ?_
    show own_Go p e below G (s₁.setTop (mkF m 10 #[rv sa, iv 1, iv 2, .unset, .unset] []))
    refine own_st (fun t k => XS.aloadN X0.here hx rfl (hb hby d6_10) rfl rfl  k) ?_
    show own_Go p e below G (s₁.setTop (mkF m 11 #[rv sa, iv 1, iv 2, .unset, .unset] [(.ref sa)]))
    refine own_st (fun t k => XS.iloadN X0.here hx rfl (hb hby d6_11) rfl  k) ?_
    show own_Go p e below G (s₁.setTop (mkF m 12 #[rv sa, iv 1, iv 2, .unset, .unset] [(.int (1 : Int32)), (.ref sa)]))
    have Vc4 := V_sa
    obtain ⟨cl4, Ar4, -, Sa4, -, Ha4, -⟩ := Vc4
    have hin4 : ¬ ((1 : Int32) < 0 ∨ cl4.slots.size ≤ ((1 : Int32)).toNatClampNeg) := inb_of Sa4 ⟨by decide, by decide⟩
    refine own_st (fun t k => X0.daload hx (j := (1 : Int32)) (v := (.double (FP.l2d t1))) (by rw [e0]; exact Ar4.1) (State.isArrayOf_alike hZ.alike Ar4.2.1) Ar4.2.2 hin4 (Ha4.at hin4 rfl) (g := (mkF m 12 #[rv sa, iv 1, iv 2, .unset, .unset] [(.int (1 : Int32)), (.ref sa)])) rfl rfl (hb hby d6_12) t k) ?_
    show own_Go p e below G (s₁.setTop (mkF m 13 #[rv sa, iv 1, iv 2, .unset, .unset] [(.double (FP.l2d t1))]))
    refine own_st (fun t k => XS.dstoreN X0.here hx rfl (hb hby d6_13) rfl (l' := #[rv sa, iv 1, iv 2, own_dv (FP.l2d t1), .second]) rfl k) ?_
    show own_Go p e below G (s₁.setTop (mkF m 14 #[rv sa, iv 1, iv 2, own_dv (FP.l2d t1), .second] []))
    refine own_st (fun t k => XS.aloadN X0.here hx rfl (hb hby d6_14) rfl rfl  k) ?_
    show own_Go p e below G (s₁.setTop (mkF m 15 #[rv sa, iv 1, iv 2, own_dv (FP.l2d t1), .second] [(.ref sa)]))
    refine own_st (fun t k => XS.iloadN X0.here hx rfl (hb hby d6_15) rfl  k) ?_
    show own_Go p e below G (s₁.setTop (mkF m 16 #[rv sa, iv 1, iv 2, own_dv (FP.l2d t1), .second] [(.int (1 : Int32)), (.ref sa)]))
    refine own_st (fun t k => XS.aloadN X0.here hx rfl (hb hby d6_16) rfl rfl  k) ?_
    show own_Go p e below G (s₁.setTop (mkF m 17 #[rv sa, iv 1, iv 2, own_dv (FP.l2d t1), .second] [(.ref sa), (.int (1 : Int32)), (.ref sa)]))
    refine own_st (fun t k => XS.iloadN X0.here hx rfl (hb hby d6_17) rfl  k) ?_
    show own_Go p e below G (s₁.setTop (mkF m 18 #[rv sa, iv 1, iv 2, own_dv (FP.l2d t1), .second] [(.int (2 : Int32)), (.ref sa), (.int (1 : Int32)), (.ref sa)]))
    have Vc5 := V_sa
    obtain ⟨cl5, Ar5, -, Sa5, -, Ha5, -⟩ := Vc5
    have hin5 : ¬ ((2 : Int32) < 0 ∨ cl5.slots.size ≤ ((2 : Int32)).toNatClampNeg) := inb_of Sa5 ⟨by decide, by decide⟩
    refine own_st (fun t k => X0.daload hx (j := (2 : Int32)) (v := (.double (FP.l2d t2))) (by rw [e0]; exact Ar5.1) (State.isArrayOf_alike hZ.alike Ar5.2.1) Ar5.2.2 hin5 (Ha5.at hin5 rfl) (g := (mkF m 18 #[rv sa, iv 1, iv 2, own_dv (FP.l2d t1), .second] [(.int (2 : Int32)), (.ref sa), (.int (1 : Int32)), (.ref sa)])) rfl rfl (hb hby d6_18) t k) ?_
    show own_Go p e below G (s₁.setTop (mkF m 19 #[rv sa, iv 1, iv 2, own_dv (FP.l2d t1), .second] [(.double (FP.l2d t2)), (.int (1 : Int32)), (.ref sa)]))
    obtain ⟨cl6, Ar6, qa6, Sa6, Na6, Ha6, Ga6⟩ := V_sa
    have hin6 : ¬ ((1 : Int32) < 0 ∨ cl6.slots.size ≤ ((1 : Int32)).toNatClampNeg) := inb_of Sa6 ⟨by decide, by decide⟩
    obtain ⟨T6, h6, X6, e6, W6, st6⟩ := stD X0 hx hZ e0 Ar6 (j := (1 : Int32)) hin6 (g := (mkF m 19 #[rv sa, iv 1, iv 2, own_dv (FP.l2d t1), .second] [(.double (FP.l2d t2)), (.int (1 : Int32)), (.ref sa)])) rfl rfl (hb hby d6_19)
    have V_sa : Arv Z h6 sa ks .double (4 : Int32) [(.double (FP.l2d t0)), (.double (FP.l2d t2)), (.double (FP.l2d t2)), (.double (FP.l2d t3))] (.double (0 : UInt64)) := Arv.set Ar6 qa6 Sa6 Na6 Ha6 Ga6 rfl W6 1 rfl (Nat.le_of_ble_eq_true rfl)
    replace Z0 := Nat.le_trans Z0 (Keep.of_wr W6).1
    replace N0 := Fr.snoc X6 N0 g_sa
    refine own_st st6 ?_
    show own_Go p e below G (T6.setTop (mkF m 20 #[rv sa, iv 1, iv 2, own_dv (FP.l2d t1), .second] []))
    refine own_st (fun t k => XS.aloadN X6.here hx rfl (hb hby d6_20) rfl rfl  k) ?_
    show own_Go p e below G (T6.setTop (mkF m 21 #[rv sa, iv 1, iv 2, own_dv (FP.l2d t1), .second] [(.ref sa)]))
    refine own_st (fun t k => XS.iloadN X6.here hx rfl (hb hby d6_21) rfl  k) ?_
    show own_Go p e below G (T6.setTop (mkF m 22 #[rv sa, iv 1, iv 2, own_dv (FP.l2d t1), .second] [(.int (2 : Int32)), (.ref sa)]))
    refine own_st (fun t k => XS.dloadN X6.here hx rfl (hb hby d6_22) rfl  k) ?_
    show own_Go p e below G (T6.setTop (mkF m 23 #[rv sa, iv 1, iv 2, own_dv (FP.l2d t1), .second] [(.double (FP.l2d t1)), (.int (2 : Int32)), (.ref sa)]))
    obtain ⟨cl7, Ar7, qa7, Sa7, Na7, Ha7, Ga7⟩ := V_sa
    have hin7 : ¬ ((2 : Int32) < 0 ∨ cl7.slots.size ≤ ((2 : Int32)).toNatClampNeg) := inb_of Sa7 ⟨by decide, by decide⟩
    obtain ⟨T7, h7, X7, e7, W7, st7⟩ := stD X6 hx hZ e6 Ar7 (j := (2 : Int32)) hin7 (g := (mkF m 23 #[rv sa, iv 1, iv 2, own_dv (FP.l2d t1), .second] [(.double (FP.l2d t1)), (.int (2 : Int32)), (.ref sa)])) rfl rfl (hb hby d6_23)
    have V_sa : Arv Z h7 sa ks .double (4 : Int32) [(.double (FP.l2d t0)), (.double (FP.l2d t2)), (.double (FP.l2d t1)), (.double (FP.l2d t3))] (.double (0 : UInt64)) := Arv.set Ar7 qa7 Sa7 Na7 Ha7 Ga7 rfl W7 2 rfl (Nat.le_of_ble_eq_true rfl)
    replace Z0 := Nat.le_trans Z0 (Keep.of_wr W7).1
    replace N0 := Fr.snoc X7 N0 g_sa
    refine own_st st7 ?_
    show own_Go p e below G (T7.setTop (mkF m 24 #[rv sa, iv 1, iv 2, own_dv (FP.l2d t1), .second] []))
    have hlt : t1.toInt < t2.toInt := Int64.lt_iff_toInt_lt.mp c7_3
    rw [hG]
    exact own_retV X7 hx hlk hret (hb hby d6_24) (by rw [e7]; exact ⟨rfl, N0, Z0, t2, t1, V_sa, ht2, ht1, by omega, by omega⟩) (by decide) (by decide)
  · skip
    refine own_st (fun t k => XS.ifYes X0.here hx rfl (pc0 := 7) (pc' := 24) rfl (hb hby d6_7) rfl ((if0 _ _).trans (flt (fun q => c7_3 ((lw_lt _ _).1 q))).2.1) (by decide) (by decide) k) ?_
    show own_Go p e below G (s₁.setTop (mkF m 24 #[rv sa, iv 1, iv 2, .unset, .unset] []))
    have hlt : ¬ t1.toInt < t2.toInt := fun q => c7_3 (Int64.lt_iff_toInt_lt.mpr q)
    rw [hG]
    exact own_retV X0 hx hlk hret (hb hby d6_24) (by rw [e0]; exact ⟨rfl, N0, Z0, t1, t2, V_sa, ht1, ht2, by omega, by omega⟩) (by decide) (by decide)
theorem own_m100 : (13860109328209412096 : UInt64) = FP.l2d (-100) := by decide +kernel
def own_pad (k : Int32) (i : Int) (w : Int64) : Int := if i < k.toInt then w.toInt else -100
def own_nth (a b c d : Int) : Int → Int
  | 1 => max (max a b) (max c d)
  | 2 => max (max (min a b) (min c d)) (min (max a b) (max c d))
  | 3 => min (max (min a b) (min c d)) (min (max a b) (max c d))
  | _ => min (min a b) (min c d)
theorem own_k5 (x : Int32) : 0 ≤ ((((x.toUInt32 >>> ((2 : Int32) &&& 31).toUInt32).toInt32) &&& 7) % 5).toInt ∧ ((((x.toUInt32 >>> ((2 : Int32) &&& 31).toUInt32).toInt32) &&& 7) % 5).toInt ≤ 4 := by
  generalize ((x.toUInt32 >>> ((2 : Int32) &&& 31).toUInt32).toInt32) = z
  have h1 := (c_and z 7 (by decide)).1
  have h2 := (c_irem (z &&& 7) 5 5 rfl).1 h1
  omega
theorem own_c4 (x : Int32) : (x &&& 3) = 0 ∨ (x &&& 3) = 1 ∨ (x &&& 3) = 2 ∨ (x &&& 3) = 3 := by
  have h := c_and x 3 (by decide)
  have z : (3 : Int32).toInt = 3 := rfl
  simp only [← Int32.toInt_inj, show (0 : Int32).toInt = 0 from rfl, show (1 : Int32).toInt = 1 from rfl, show (2 : Int32).toInt = 2 from rfl, z]
  omega
theorem own_d3 (x : Int32) : own_d (x &&& 3) := by
  have h := c_and x 3 (by decide)
  have z : (3 : Int32).toInt = 3 := rfl
  unfold own_d; omega
theorem own_w7 (x : Int32) : -3 ≤ (((x &&& 7) - 3).toInt64).toInt ∧ (((x &&& 7) - 3).toInt64).toInt ≤ 4 := by
  have h := c_and x 7 (by decide)
  have z : (7 : Int32).toInt = 7 := rfl
  have a := c_isub (x &&& 7) 3
  have b := Int32.toInt_lt ((x &&& 7) - 3)
  have c := Int32.le_toInt ((x &&& 7) - 3)
  have z3 : (3 : Int32).toInt = 3 := rfl
  rw [c_i2l]; omega
theorem own_wb {w : Int64} (h : -3 ≤ w.toInt ∧ w.toInt ≤ 4) : own_b w := by unfold own_b; omega
theorem pn_rm0 : plainFor (⟨"com/example/thinleaf/thinleaf/prune/NearestLeastPinLaw", "law", "(IIII)Z"⟩ : MethodName) = true := by decide +kernel
theorem ef_rm0 (m : MethodId) (x0 : Int32) (x1 : Int32) (x2 : Int32) (x3 : Int32) : entryFrame m #[(.int x0), (.int x1), (.int x2), (.int x3)] maxLocals = mkF m 0 #[iv x0, iv x1, iv x2, iv x3, .unset, .unset, .unset, .unset, .unset, .unset, .unset, .unset, .unset, .unset, .unset, .unset, .unset, .unset, .unset, .unset, .unset, .unset, .unset, .unset, .unset, .unset] [] := by first | (simp [entryFrame, mkF, argsToLocals, Value.category, maxLocals]; done) | rfl
set_option maxRecDepth 65536 in
set_option maxHeartbeats 40000000 in
theorem rm0 (l : Launch) (Z : State) (a0 : Array Value) (hw : ∀ d ∈ tables_1, d.before a0 Z = true) (ws : List Jvm.Cond) (x0 x1 x2 x3 : Int32) (h0 : Heap) (n0 : Nat) (Z0 : n0 ≤ h0.size) :
    own_Met l Z x code maxLocals ret ws room_1 #[(.int x0), (.int x1), (.int x2), (.int x3)] h0 (fun v h L => v = some (.int 1) ∧ Fr n0 L) := by
  refine own_body pn_rm0 ?_
  intro p e s m below meth c s₁ hx hby hml hown hnm hret hlk hZ X0 e0 G hG
  replace hml : c.maxLocals = 26 := hml
  replace hown : s.vm.findClass "com/example/thinleaf/thinleaf/prune/NearestLeastPinLaw" = some m.cls := hown
  rw [ef_rm0]
  have N0 := Fr.nil n0
  show own_Go p e below G (s₁.setTop (mkF m 0 #[iv x0, iv x1, iv x2, iv x3, .unset, .unset, .unset, .unset, .unset, .unset, .unset, .unset, .unset, .unset, .unset, .unset, .unset, .unset, .unset, .unset, .unset, .unset, .unset, .unset, .unset, .unset] []))
  refine own_st (fun t k => XS.iloadN X0.here hx rfl (hb hby at_0) rfl  k) ?_
  refine own_st (fun t k => XS.iconst X0.here hx rfl (hb hby at_1) k) ?_
  refine own_st (fun t k => XS.iand X0.here hx rfl (hb hby at_2) rfl k) ?_
  show own_Go p e below G (s₁.setTop (mkF m 3 #[iv x0, iv x1, iv x2, iv x3, .unset, .unset, .unset, .unset, .unset, .unset, .unset, .unset, .unset, .unset, .unset, .unset, .unset, .unset, .unset, .unset, .unset, .unset, .unset, .unset, .unset, .unset] [(.int (x0 &&& (3 : Int32)))]))
  refine own_st (fun t k => XS.istore X0.here hx rfl (hb hby at_3) rfl (l' := #[iv x0, iv x1, iv x2, iv x3, iv (x0 &&& (3 : Int32)), .unset, .unset, .unset, .unset, .unset, .unset, .unset, .unset, .unset, .unset, .unset, .unset, .unset, .unset, .unset, .unset, .unset, .unset, .unset, .unset, .unset]) rfl k) ?_
  refine own_st (fun t k => XS.iloadN X0.here hx rfl (hb hby at_5) rfl  k) ?_
  refine own_st (fun t k => XS.iconst X0.here hx rfl (hb hby at_6) k) ?_
  show own_Go p e below G (s₁.setTop (mkF m 7 #[iv x0, iv x1, iv x2, iv x3, iv (x0 &&& (3 : Int32)), .unset, .unset, .unset, .unset, .unset, .unset, .unset, .unset, .unset, .unset, .unset, .unset, .unset, .unset, .unset, .unset, .unset, .unset, .unset, .unset, .unset] [(.int (2 : Int32)), (.int x0)]))
  refine own_st (fun t k => XS.iushr X0.here hx rfl (hb hby at_7) rfl k) ?_
  refine own_st (fun t k => XS.bipush X0.here hx rfl (hb hby at_8) k) ?_
  refine own_st (fun t k => XS.iand X0.here hx rfl (hb hby at_10) rfl k) ?_
  show own_Go p e below G (s₁.setTop (mkF m 11 #[iv x0, iv x1, iv x2, iv x3, iv (x0 &&& (3 : Int32)), .unset, .unset, .unset, .unset, .unset, .unset, .unset, .unset, .unset, .unset, .unset, .unset, .unset, .unset, .unset, .unset, .unset, .unset, .unset, .unset, .unset] [(.int (((x0.toUInt32 >>> ((2 : Int32) &&& 31).toUInt32).toInt32) &&& (7 : Int32)))]))
  refine own_st (fun t k => XS.iconst X0.here hx rfl (hb hby at_11) k) ?_
  show own_Go p e below G (s₁.setTop (mkF m 12 #[iv x0, iv x1, iv x2, iv x3, iv (x0 &&& (3 : Int32)), .unset, .unset, .unset, .unset, .unset, .unset, .unset, .unset, .unset, .unset, .unset, .unset, .unset, .unset, .unset, .unset, .unset, .unset, .unset, .unset, .unset] [(.int (5 : Int32)), (.int (((x0.toUInt32 >>> ((2 : Int32) &&& 31).toUInt32).toInt32) &&& (7 : Int32)))]))
  refine own_st (fun t k => iremM X0 hx rfl (hb hby at_12) rfl (by decide) k) ?_
  show own_Go p e below G (s₁.setTop (mkF m 13 #[iv x0, iv x1, iv x2, iv x3, iv (x0 &&& (3 : Int32)), .unset, .unset, .unset, .unset, .unset, .unset, .unset, .unset, .unset, .unset, .unset, .unset, .unset, .unset, .unset, .unset, .unset, .unset, .unset, .unset, .unset] [(.int ((((x0.toUInt32 >>> ((2 : Int32) &&& 31).toUInt32).toInt32) &&& (7 : Int32)) % (5 : Int32)))]))
  refine own_st (fun t k => XS.istore X0.here hx rfl (hb hby at_13) rfl (l' := #[iv x0, iv x1, iv x2, iv x3, iv (x0 &&& (3 : Int32)), iv ((((x0.toUInt32 >>> ((2 : Int32) &&& 31).toUInt32).toInt32) &&& (7 : Int32)) % (5 : Int32)), .unset, .unset, .unset, .unset, .unset, .unset, .unset, .unset, .unset, .unset, .unset, .unset, .unset, .unset, .unset, .unset, .unset, .unset, .unset, .unset]) rfl k) ?_
  show own_Go p e below G (s₁.setTop (mkF m 15 #[iv x0, iv x1, iv x2, iv x3, iv (x0 &&& (3 : Int32)), iv ((((x0.toUInt32 >>> ((2 : Int32) &&& 31).toUInt32).toInt32) &&& (7 : Int32)) % (5 : Int32)), .unset, .unset, .unset, .unset, .unset, .unset, .unset, .unset, .unset, .unset, .unset, .unset, .unset, .unset, .unset, .unset, .unset, .unset, .unset, .unset] []))
  have hk0 := own_k5 x0
  generalize ((((x0.toUInt32 >>> ((2 : Int32) &&& 31).toUInt32).toInt32) &&& (7 : Int32)) % (5 : Int32)) = k0 at hk0 ⊢
  refine own_st (fun t k => XS.iloadN X0.here hx rfl (hb hby at_15) rfl  k) ?_
  refine own_st (fun t k => XS.iconst X0.here hx rfl (hb hby at_16) k) ?_
  refine own_st (fun t k => XS.iushr X0.here hx rfl (hb hby at_17) rfl k) ?_
  show own_Go p e below G (s₁.setTop (mkF m 18 #[iv x0, iv x1, iv x2, iv x3, iv (x0 &&& (3 : Int32)), iv k0, .unset, .unset, .unset, .unset, .unset, .unset, .unset, .unset, .unset, .unset, .unset, .unset, .unset, .unset, .unset, .unset, .unset, .unset, .unset, .unset] [(.int ((x0.toUInt32 >>> ((5 : Int32) &&& 31).toUInt32).toInt32))]))
  refine own_st (fun t k => XS.iconst X0.here hx rfl (hb hby at_18) k) ?_
  refine own_st (fun t k => XS.iand X0.here hx rfl (hb hby at_19) rfl k) ?_
  show own_Go p e below G (s₁.setTop (mkF m 20 #[iv x0, iv x1, iv x2, iv x3, iv (x0 &&& (3 : Int32)), iv k0, .unset, .unset, .unset, .unset, .unset, .unset, .unset, .unset, .unset, .unset, .unset, .unset, .unset, .unset, .unset, .unset, .unset, .unset, .unset, .unset] [(.int (((x0.toUInt32 >>> ((5 : Int32) &&& 31).toUInt32).toInt32) &&& (1 : Int32)))]))
  have J28 : ∀ (y28 : Int32), own_Go p e below G (s₁.setTop (mkF m 28 #[iv x0, iv x1, iv x2, iv x3, iv (x0 &&& (3 : Int32)), iv k0, .unset, .unset, .unset, .unset, .unset, .unset, .unset, .unset, .unset, .unset, .unset, .unset, .unset, .unset, .unset, .unset, .unset, .unset, .unset, .unset] [(.int y28)])) := by
    intro y28
    refine own_st (fun t k => XS.istore X0.here hx rfl (hb hby at_28) rfl (l' := #[iv x0, iv x1, iv x2, iv x3, iv (x0 &&& (3 : Int32)), iv k0, iv y28, .unset, .unset, .unset, .unset, .unset, .unset, .unset, .unset, .unset, .unset, .unset, .unset, .unset, .unset, .unset, .unset, .unset, .unset, .unset]) rfl k) ?_
    refine own_st (fun t k => XS.iconst X0.here hx rfl (hb hby at_30) k) ?_
    show own_Go p e below G (s₁.setTop (mkF m 31 #[iv x0, iv x1, iv x2, iv x3, iv (x0 &&& (3 : Int32)), iv k0, iv y28, .unset, .unset, .unset, .unset, .unset, .unset, .unset, .unset, .unset, .unset, .unset, .unset, .unset, .unset, .unset, .unset, .unset, .unset, .unset] [(.int (4 : Int32))]))
    obtain ⟨T1, h1, k1, X1, e1, E1, A1, st1⟩ := newP X0 hx hZ (hw _ (List.mem_of_getElem? (i := 0) rfl)) e0 (g := (mkF m 31 #[iv x0, iv x1, iv x2, iv x3, iv (x0 &&& (3 : Int32)), iv k0, iv y28, .unset, .unset, .unset, .unset, .unset, .unset, .unset, .unset, .unset, .unset, .unset, .unset, .unset, .unset, .unset, .unset, .unset, .unset, .unset] [(.int (4 : Int32))])) rfl (hb hby at_31) rfl (by decide) (cap := 4) (by decide) (by decide) (by decide) (by decide)
    obtain ⟨b1, gb1⟩ : ∃ z, z = h0.size := ⟨_, rfl⟩
    rw [← gb1] at A1 st1
    have g_b1 : n0 ≤ b1 := Nat.le_trans Z0 (Nat.le_of_eq gb1.symm)
    replace Z0 := Nat.le_trans Z0 E1.1
    have V_b1 : Arv Z h1 b1 k1 .int (4 : Int32) [(.int (0 : Int32)), (.int (0 : Int32)), (.int (0 : Int32)), (.int (0 : Int32))] (.int (0 : Int32)) := (Arv.new A1 (by decide)).pad (pad_rep [] (.int (0 : Int32)) 4)
    refine own_st st1 ?_
    show own_Go p e below G (T1.setTop (mkF m 33 #[iv x0, iv x1, iv x2, iv x3, iv (x0 &&& (3 : Int32)), iv k0, iv y28, .unset, .unset, .unset, .unset, .unset, .unset, .unset, .unset, .unset, .unset, .unset, .unset, .unset, .unset, .unset, .unset, .unset, .unset, .unset] [(.ref b1)]))
    refine own_st (fun t k => XS.dup X1.here hx rfl (hb hby at_33) rfl rfl k) ?_
    refine own_st (fun t k => XS.iconst X1.here hx rfl (hb hby at_34) k) ?_
    refine own_st (fun t k => XS.iloadN X1.here hx rfl (hb hby at_35) rfl  k) ?_
    show own_Go p e below G (T1.setTop (mkF m 36 #[iv x0, iv x1, iv x2, iv x3, iv (x0 &&& (3 : Int32)), iv k0, iv y28, .unset, .unset, .unset, .unset, .unset, .unset, .unset, .unset, .unset, .unset, .unset, .unset, .unset, .unset, .unset, .unset, .unset, .unset, .unset] [(.int x3), (.int (0 : Int32)), (.ref b1), (.ref b1)]))
    refine own_st (fun t k => XS.sipush X1.here hx rfl (hb hby at_36) k) ?_
    refine own_st (fun t k => XS.iand X1.here hx rfl (hb hby at_39) rfl k) ?_
    show own_Go p e below G (T1.setTop (mkF m 40 #[iv x0, iv x1, iv x2, iv x3, iv (x0 &&& (3 : Int32)), iv k0, iv y28, .unset, .unset, .unset, .unset, .unset, .unset, .unset, .unset, .unset, .unset, .unset, .unset, .unset, .unset, .unset, .unset, .unset, .unset, .unset] [(.int (x3 &&& (255 : Int32))), (.int (0 : Int32)), (.ref b1), (.ref b1)]))
    obtain ⟨cl2, Ar2, qa2, Sa2, Na2, Ha2, Ga2⟩ := V_b1
    have hin2 : ¬ ((0 : Int32) < 0 ∨ cl2.slots.size ≤ ((0 : Int32)).toNatClampNeg) := inb_of Sa2 ⟨by decide, by decide⟩
    obtain ⟨T2, h2, X2, e2, W2, st2⟩ := stI X1 hx hZ e1 Ar2 (j := (0 : Int32)) hin2 (g := (mkF m 40 #[iv x0, iv x1, iv x2, iv x3, iv (x0 &&& (3 : Int32)), iv k0, iv y28, .unset, .unset, .unset, .unset, .unset, .unset, .unset, .unset, .unset, .unset, .unset, .unset, .unset, .unset, .unset, .unset, .unset, .unset, .unset] [(.int (x3 &&& (255 : Int32))), (.int (0 : Int32)), (.ref b1), (.ref b1)])) rfl rfl (hb hby at_40)
    have V_b1 : Arv Z h2 b1 k1 .int (4 : Int32) [(.int (x3 &&& (255 : Int32))), (.int (0 : Int32)), (.int (0 : Int32)), (.int (0 : Int32))] (.int (0 : Int32)) := Arv.set Ar2 qa2 Sa2 Na2 Ha2 Ga2 rfl W2 0 rfl (Nat.le_of_ble_eq_true rfl)
    replace Z0 := Nat.le_trans Z0 (Keep.of_wr W2).1
    replace N0 := Fr.snoc X2 N0 g_b1
    refine own_st st2 ?_
    show own_Go p e below G (T2.setTop (mkF m 41 #[iv x0, iv x1, iv x2, iv x3, iv (x0 &&& (3 : Int32)), iv k0, iv y28, .unset, .unset, .unset, .unset, .unset, .unset, .unset, .unset, .unset, .unset, .unset, .unset, .unset, .unset, .unset, .unset, .unset, .unset, .unset] [(.ref b1)]))
    refine own_st (fun t k => XS.dup X2.here hx rfl (hb hby at_41) rfl rfl k) ?_
    refine own_st (fun t k => XS.iconst X2.here hx rfl (hb hby at_42) k) ?_
    refine own_st (fun t k => XS.iloadN X2.here hx rfl (hb hby at_43) rfl  k) ?_
    show own_Go p e below G (T2.setTop (mkF m 44 #[iv x0, iv x1, iv x2, iv x3, iv (x0 &&& (3 : Int32)), iv k0, iv y28, .unset, .unset, .unset, .unset, .unset, .unset, .unset, .unset, .unset, .unset, .unset, .unset, .unset, .unset, .unset, .unset, .unset, .unset, .unset] [(.int x3), (.int (1 : Int32)), (.ref b1), (.ref b1)]))
    refine own_st (fun t k => XS.bipush X2.here hx rfl (hb hby at_44) k) ?_
    refine own_st (fun t k => XS.iushr X2.here hx rfl (hb hby at_46) rfl k) ?_
    refine own_st (fun t k => XS.sipush X2.here hx rfl (hb hby at_47) k) ?_
    show own_Go p e below G (T2.setTop (mkF m 50 #[iv x0, iv x1, iv x2, iv x3, iv (x0 &&& (3 : Int32)), iv k0, iv y28, .unset, .unset, .unset, .unset, .unset, .unset, .unset, .unset, .unset, .unset, .unset, .unset, .unset, .unset, .unset, .unset, .unset, .unset, .unset] [(.int (255 : Int32)), (.int ((x3.toUInt32 >>> ((8 : Int32) &&& 31).toUInt32).toInt32)), (.int (1 : Int32)), (.ref b1), (.ref b1)]))
    refine own_st (fun t k => XS.iand X2.here hx rfl (hb hby at_50) rfl k) ?_
    show own_Go p e below G (T2.setTop (mkF m 51 #[iv x0, iv x1, iv x2, iv x3, iv (x0 &&& (3 : Int32)), iv k0, iv y28, .unset, .unset, .unset, .unset, .unset, .unset, .unset, .unset, .unset, .unset, .unset, .unset, .unset, .unset, .unset, .unset, .unset, .unset, .unset] [(.int (((x3.toUInt32 >>> ((8 : Int32) &&& 31).toUInt32).toInt32) &&& (255 : Int32))), (.int (1 : Int32)), (.ref b1), (.ref b1)]))
    obtain ⟨cl3, Ar3, qa3, Sa3, Na3, Ha3, Ga3⟩ := V_b1
    have hin3 : ¬ ((1 : Int32) < 0 ∨ cl3.slots.size ≤ ((1 : Int32)).toNatClampNeg) := inb_of Sa3 ⟨by decide, by decide⟩
    obtain ⟨T3, h3, X3, e3, W3, st3⟩ := stI X2 hx hZ e2 Ar3 (j := (1 : Int32)) hin3 (g := (mkF m 51 #[iv x0, iv x1, iv x2, iv x3, iv (x0 &&& (3 : Int32)), iv k0, iv y28, .unset, .unset, .unset, .unset, .unset, .unset, .unset, .unset, .unset, .unset, .unset, .unset, .unset, .unset, .unset, .unset, .unset, .unset, .unset] [(.int (((x3.toUInt32 >>> ((8 : Int32) &&& 31).toUInt32).toInt32) &&& (255 : Int32))), (.int (1 : Int32)), (.ref b1), (.ref b1)])) rfl rfl (hb hby at_51)
    have V_b1 : Arv Z h3 b1 k1 .int (4 : Int32) [(.int (x3 &&& (255 : Int32))), (.int (((x3.toUInt32 >>> ((8 : Int32) &&& 31).toUInt32).toInt32) &&& (255 : Int32))), (.int (0 : Int32)), (.int (0 : Int32))] (.int (0 : Int32)) := Arv.set Ar3 qa3 Sa3 Na3 Ha3 Ga3 rfl W3 1 rfl (Nat.le_of_ble_eq_true rfl)
    replace Z0 := Nat.le_trans Z0 (Keep.of_wr W3).1
    replace N0 := Fr.snoc X3 N0 g_b1
    refine own_st st3 ?_
    show own_Go p e below G (T3.setTop (mkF m 52 #[iv x0, iv x1, iv x2, iv x3, iv (x0 &&& (3 : Int32)), iv k0, iv y28, .unset, .unset, .unset, .unset, .unset, .unset, .unset, .unset, .unset, .unset, .unset, .unset, .unset, .unset, .unset, .unset, .unset, .unset, .unset] [(.ref b1)]))
    refine own_st (fun t k => XS.dup X3.here hx rfl (hb hby at_52) rfl rfl k) ?_
    refine own_st (fun t k => XS.iconst X3.here hx rfl (hb hby at_53) k) ?_
    refine own_st (fun t k => XS.iloadN X3.here hx rfl (hb hby at_54) rfl  k) ?_
    show own_Go p e below G (T3.setTop (mkF m 55 #[iv x0, iv x1, iv x2, iv x3, iv (x0 &&& (3 : Int32)), iv k0, iv y28, .unset, .unset, .unset, .unset, .unset, .unset, .unset, .unset, .unset, .unset, .unset, .unset, .unset, .unset, .unset, .unset, .unset, .unset, .unset] [(.int x3), (.int (2 : Int32)), (.ref b1), (.ref b1)]))
    refine own_st (fun t k => XS.bipush X3.here hx rfl (hb hby at_55) k) ?_
    refine own_st (fun t k => XS.iushr X3.here hx rfl (hb hby at_57) rfl k) ?_
    refine own_st (fun t k => XS.sipush X3.here hx rfl (hb hby at_58) k) ?_
    show own_Go p e below G (T3.setTop (mkF m 61 #[iv x0, iv x1, iv x2, iv x3, iv (x0 &&& (3 : Int32)), iv k0, iv y28, .unset, .unset, .unset, .unset, .unset, .unset, .unset, .unset, .unset, .unset, .unset, .unset, .unset, .unset, .unset, .unset, .unset, .unset, .unset] [(.int (255 : Int32)), (.int ((x3.toUInt32 >>> ((16 : Int32) &&& 31).toUInt32).toInt32)), (.int (2 : Int32)), (.ref b1), (.ref b1)]))
    refine own_st (fun t k => XS.iand X3.here hx rfl (hb hby at_61) rfl k) ?_
    show own_Go p e below G (T3.setTop (mkF m 62 #[iv x0, iv x1, iv x2, iv x3, iv (x0 &&& (3 : Int32)), iv k0, iv y28, .unset, .unset, .unset, .unset, .unset, .unset, .unset, .unset, .unset, .unset, .unset, .unset, .unset, .unset, .unset, .unset, .unset, .unset, .unset] [(.int (((x3.toUInt32 >>> ((16 : Int32) &&& 31).toUInt32).toInt32) &&& (255 : Int32))), (.int (2 : Int32)), (.ref b1), (.ref b1)]))
    obtain ⟨cl4, Ar4, qa4, Sa4, Na4, Ha4, Ga4⟩ := V_b1
    have hin4 : ¬ ((2 : Int32) < 0 ∨ cl4.slots.size ≤ ((2 : Int32)).toNatClampNeg) := inb_of Sa4 ⟨by decide, by decide⟩
    obtain ⟨T4, h4, X4, e4, W4, st4⟩ := stI X3 hx hZ e3 Ar4 (j := (2 : Int32)) hin4 (g := (mkF m 62 #[iv x0, iv x1, iv x2, iv x3, iv (x0 &&& (3 : Int32)), iv k0, iv y28, .unset, .unset, .unset, .unset, .unset, .unset, .unset, .unset, .unset, .unset, .unset, .unset, .unset, .unset, .unset, .unset, .unset, .unset, .unset] [(.int (((x3.toUInt32 >>> ((16 : Int32) &&& 31).toUInt32).toInt32) &&& (255 : Int32))), (.int (2 : Int32)), (.ref b1), (.ref b1)])) rfl rfl (hb hby at_62)
    have V_b1 : Arv Z h4 b1 k1 .int (4 : Int32) [(.int (x3 &&& (255 : Int32))), (.int (((x3.toUInt32 >>> ((8 : Int32) &&& 31).toUInt32).toInt32) &&& (255 : Int32))), (.int (((x3.toUInt32 >>> ((16 : Int32) &&& 31).toUInt32).toInt32) &&& (255 : Int32))), (.int (0 : Int32))] (.int (0 : Int32)) := Arv.set Ar4 qa4 Sa4 Na4 Ha4 Ga4 rfl W4 2 rfl (Nat.le_of_ble_eq_true rfl)
    replace Z0 := Nat.le_trans Z0 (Keep.of_wr W4).1
    replace N0 := Fr.snoc X4 N0 g_b1
    refine own_st st4 ?_
    show own_Go p e below G (T4.setTop (mkF m 63 #[iv x0, iv x1, iv x2, iv x3, iv (x0 &&& (3 : Int32)), iv k0, iv y28, .unset, .unset, .unset, .unset, .unset, .unset, .unset, .unset, .unset, .unset, .unset, .unset, .unset, .unset, .unset, .unset, .unset, .unset, .unset] [(.ref b1)]))
    refine own_st (fun t k => XS.dup X4.here hx rfl (hb hby at_63) rfl rfl k) ?_
    refine own_st (fun t k => XS.iconst X4.here hx rfl (hb hby at_64) k) ?_
    refine own_st (fun t k => XS.iloadN X4.here hx rfl (hb hby at_65) rfl  k) ?_
    show own_Go p e below G (T4.setTop (mkF m 66 #[iv x0, iv x1, iv x2, iv x3, iv (x0 &&& (3 : Int32)), iv k0, iv y28, .unset, .unset, .unset, .unset, .unset, .unset, .unset, .unset, .unset, .unset, .unset, .unset, .unset, .unset, .unset, .unset, .unset, .unset, .unset] [(.int x3), (.int (3 : Int32)), (.ref b1), (.ref b1)]))
    refine own_st (fun t k => XS.bipush X4.here hx rfl (hb hby at_66) k) ?_
    refine own_st (fun t k => XS.iushr X4.here hx rfl (hb hby at_68) rfl k) ?_
    refine own_st (fun t k => XS.sipush X4.here hx rfl (hb hby at_69) k) ?_
    show own_Go p e below G (T4.setTop (mkF m 72 #[iv x0, iv x1, iv x2, iv x3, iv (x0 &&& (3 : Int32)), iv k0, iv y28, .unset, .unset, .unset, .unset, .unset, .unset, .unset, .unset, .unset, .unset, .unset, .unset, .unset, .unset, .unset, .unset, .unset, .unset, .unset] [(.int (255 : Int32)), (.int ((x3.toUInt32 >>> ((24 : Int32) &&& 31).toUInt32).toInt32)), (.int (3 : Int32)), (.ref b1), (.ref b1)]))
    refine own_st (fun t k => XS.iand X4.here hx rfl (hb hby at_72) rfl k) ?_
    show own_Go p e below G (T4.setTop (mkF m 73 #[iv x0, iv x1, iv x2, iv x3, iv (x0 &&& (3 : Int32)), iv k0, iv y28, .unset, .unset, .unset, .unset, .unset, .unset, .unset, .unset, .unset, .unset, .unset, .unset, .unset, .unset, .unset, .unset, .unset, .unset, .unset] [(.int (((x3.toUInt32 >>> ((24 : Int32) &&& 31).toUInt32).toInt32) &&& (255 : Int32))), (.int (3 : Int32)), (.ref b1), (.ref b1)]))
    obtain ⟨cl5, Ar5, qa5, Sa5, Na5, Ha5, Ga5⟩ := V_b1
    have hin5 : ¬ ((3 : Int32) < 0 ∨ cl5.slots.size ≤ ((3 : Int32)).toNatClampNeg) := inb_of Sa5 ⟨by decide, by decide⟩
    obtain ⟨T5, h5, X5, e5, W5, st5⟩ := stI X4 hx hZ e4 Ar5 (j := (3 : Int32)) hin5 (g := (mkF m 73 #[iv x0, iv x1, iv x2, iv x3, iv (x0 &&& (3 : Int32)), iv k0, iv y28, .unset, .unset, .unset, .unset, .unset, .unset, .unset, .unset, .unset, .unset, .unset, .unset, .unset, .unset, .unset, .unset, .unset, .unset, .unset] [(.int (((x3.toUInt32 >>> ((24 : Int32) &&& 31).toUInt32).toInt32) &&& (255 : Int32))), (.int (3 : Int32)), (.ref b1), (.ref b1)])) rfl rfl (hb hby at_73)
    have V_b1 : Arv Z h5 b1 k1 .int (4 : Int32) [(.int (x3 &&& (255 : Int32))), (.int (((x3.toUInt32 >>> ((8 : Int32) &&& 31).toUInt32).toInt32) &&& (255 : Int32))), (.int (((x3.toUInt32 >>> ((16 : Int32) &&& 31).toUInt32).toInt32) &&& (255 : Int32))), (.int (((x3.toUInt32 >>> ((24 : Int32) &&& 31).toUInt32).toInt32) &&& (255 : Int32)))] (.int (0 : Int32)) := Arv.set Ar5 qa5 Sa5 Na5 Ha5 Ga5 rfl W5 3 rfl (Nat.le_of_ble_eq_true rfl)
    replace Z0 := Nat.le_trans Z0 (Keep.of_wr W5).1
    replace N0 := Fr.snoc X5 N0 g_b1
    refine own_st st5 ?_
    show own_Go p e below G (T5.setTop (mkF m 74 #[iv x0, iv x1, iv x2, iv x3, iv (x0 &&& (3 : Int32)), iv k0, iv y28, .unset, .unset, .unset, .unset, .unset, .unset, .unset, .unset, .unset, .unset, .unset, .unset, .unset, .unset, .unset, .unset, .unset, .unset, .unset] [(.ref b1)]))
    refine own_st (fun t k => XS.astore X5.here hx rfl (hb hby at_74) rfl rfl (l' := #[iv x0, iv x1, iv x2, iv x3, iv (x0 &&& (3 : Int32)), iv k0, iv y28, rv b1, .unset, .unset, .unset, .unset, .unset, .unset, .unset, .unset, .unset, .unset, .unset, .unset, .unset, .unset, .unset, .unset, .unset, .unset]) rfl k) ?_
    refine own_st (fun t k => XS.iloadN X5.here hx rfl (hb hby at_76) rfl  k) ?_
    refine own_st (fun t k => XS.bipush X5.here hx rfl (hb hby at_77) k) ?_
    show own_Go p e below G (T5.setTop (mkF m 79 #[iv x0, iv x1, iv x2, iv x3, iv (x0 &&& (3 : Int32)), iv k0, iv y28, rv b1, .unset, .unset, .unset, .unset, .unset, .unset, .unset, .unset, .unset, .unset, .unset, .unset, .unset, .unset, .unset, .unset, .unset, .unset] [(.int (7 : Int32)), (.int x1)]))
    refine own_st (fun t k => XS.iand X5.here hx rfl (hb hby at_79) rfl k) ?_
    refine own_st (fun t k => XS.iconst X5.here hx rfl (hb hby at_80) k) ?_
    refine own_st (fun t k => XS.isub X5.here hx rfl (hb hby at_81) rfl k) ?_
    show own_Go p e below G (T5.setTop (mkF m 82 #[iv x0, iv x1, iv x2, iv x3, iv (x0 &&& (3 : Int32)), iv k0, iv y28, rv b1, .unset, .unset, .unset, .unset, .unset, .unset, .unset, .unset, .unset, .unset, .unset, .unset, .unset, .unset, .unset, .unset, .unset, .unset] [(.int ((x1 &&& (7 : Int32)) - (3 : Int32)))]))
    refine own_st (fun t k => XS.i2dS X5.here hx rfl (hb hby at_82) rfl (i2d_w _) k) ?_
    refine own_st (fun t k => XS.dstore X5.here hx rfl (hb hby at_83) rfl (l' := #[iv x0, iv x1, iv x2, iv x3, iv (x0 &&& (3 : Int32)), iv k0, iv y28, rv b1, own_dv (FP.l2d (((x1 &&& (7 : Int32)) - (3 : Int32)).toInt64)), .second, .unset, .unset, .unset, .unset, .unset, .unset, .unset, .unset, .unset, .unset, .unset, .unset, .unset, .unset, .unset, .unset]) rfl k) ?_
    show own_Go p e below G (T5.setTop (mkF m 85 #[iv x0, iv x1, iv x2, iv x3, iv (x0 &&& (3 : Int32)), iv k0, iv y28, rv b1, own_dv (FP.l2d (((x1 &&& (7 : Int32)) - (3 : Int32)).toInt64)), .second, .unset, .unset, .unset, .unset, .unset, .unset, .unset, .unset, .unset, .unset, .unset, .unset, .unset, .unset, .unset, .unset] []))
    have hw0 := own_w7 x1
    generalize (((x1 &&& (7 : Int32)) - (3 : Int32)).toInt64) = w0 at hw0 ⊢
    refine own_st (fun t k => XS.iloadN X5.here hx rfl (hb hby at_85) rfl  k) ?_
    refine own_st (fun t k => XS.iconst X5.here hx rfl (hb hby at_86) k) ?_
    refine own_st (fun t k => XS.iushr X5.here hx rfl (hb hby at_87) rfl k) ?_
    show own_Go p e below G (T5.setTop (mkF m 88 #[iv x0, iv x1, iv x2, iv x3, iv (x0 &&& (3 : Int32)), iv k0, iv y28, rv b1, own_dv (FP.l2d w0), .second, .unset, .unset, .unset, .unset, .unset, .unset, .unset, .unset, .unset, .unset, .unset, .unset, .unset, .unset, .unset, .unset] [(.int ((x1.toUInt32 >>> ((3 : Int32) &&& 31).toUInt32).toInt32))]))
    refine own_st (fun t k => XS.bipush X5.here hx rfl (hb hby at_88) k) ?_
    refine own_st (fun t k => XS.iand X5.here hx rfl (hb hby at_90) rfl k) ?_
    refine own_st (fun t k => XS.iconst X5.here hx rfl (hb hby at_91) k) ?_
    show own_Go p e below G (T5.setTop (mkF m 92 #[iv x0, iv x1, iv x2, iv x3, iv (x0 &&& (3 : Int32)), iv k0, iv y28, rv b1, own_dv (FP.l2d w0), .second, .unset, .unset, .unset, .unset, .unset, .unset, .unset, .unset, .unset, .unset, .unset, .unset, .unset, .unset, .unset, .unset] [(.int (3 : Int32)), (.int (((x1.toUInt32 >>> ((3 : Int32) &&& 31).toUInt32).toInt32) &&& (7 : Int32)))]))
    refine own_st (fun t k => XS.isub X5.here hx rfl (hb hby at_92) rfl k) ?_
    refine own_st (fun t k => XS.i2dS X5.here hx rfl (hb hby at_93) rfl (i2d_w _) k) ?_
    refine own_st (fun t k => XS.dstore X5.here hx rfl (hb hby at_94) rfl (l' := #[iv x0, iv x1, iv x2, iv x3, iv (x0 &&& (3 : Int32)), iv k0, iv y28, rv b1, own_dv (FP.l2d w0), .second, own_dv (FP.l2d (((((x1.toUInt32 >>> ((3 : Int32) &&& 31).toUInt32).toInt32) &&& (7 : Int32)) - (3 : Int32)).toInt64)), .second, .unset, .unset, .unset, .unset, .unset, .unset, .unset, .unset, .unset, .unset, .unset, .unset, .unset, .unset]) rfl k) ?_
    show own_Go p e below G (T5.setTop (mkF m 96 #[iv x0, iv x1, iv x2, iv x3, iv (x0 &&& (3 : Int32)), iv k0, iv y28, rv b1, own_dv (FP.l2d w0), .second, own_dv (FP.l2d (((((x1.toUInt32 >>> ((3 : Int32) &&& 31).toUInt32).toInt32) &&& (7 : Int32)) - (3 : Int32)).toInt64)), .second, .unset, .unset, .unset, .unset, .unset, .unset, .unset, .unset, .unset, .unset, .unset, .unset, .unset, .unset] []))
    have hw1 := own_w7 ((x1.toUInt32 >>> ((3 : Int32) &&& 31).toUInt32).toInt32)
    generalize (((((x1.toUInt32 >>> ((3 : Int32) &&& 31).toUInt32).toInt32) &&& (7 : Int32)) - (3 : Int32)).toInt64) = w1 at hw1 ⊢
    refine own_st (fun t k => XS.iloadN X5.here hx rfl (hb hby at_96) rfl  k) ?_
    refine own_st (fun t k => XS.bipush X5.here hx rfl (hb hby at_97) k) ?_
    refine own_st (fun t k => XS.iushr X5.here hx rfl (hb hby at_99) rfl k) ?_
    show own_Go p e below G (T5.setTop (mkF m 100 #[iv x0, iv x1, iv x2, iv x3, iv (x0 &&& (3 : Int32)), iv k0, iv y28, rv b1, own_dv (FP.l2d w0), .second, own_dv (FP.l2d w1), .second, .unset, .unset, .unset, .unset, .unset, .unset, .unset, .unset, .unset, .unset, .unset, .unset, .unset, .unset] [(.int ((x1.toUInt32 >>> ((6 : Int32) &&& 31).toUInt32).toInt32))]))
    refine own_st (fun t k => XS.bipush X5.here hx rfl (hb hby at_100) k) ?_
    refine own_st (fun t k => XS.iand X5.here hx rfl (hb hby at_102) rfl k) ?_
    refine own_st (fun t k => XS.iconst X5.here hx rfl (hb hby at_103) k) ?_
    show own_Go p e below G (T5.setTop (mkF m 104 #[iv x0, iv x1, iv x2, iv x3, iv (x0 &&& (3 : Int32)), iv k0, iv y28, rv b1, own_dv (FP.l2d w0), .second, own_dv (FP.l2d w1), .second, .unset, .unset, .unset, .unset, .unset, .unset, .unset, .unset, .unset, .unset, .unset, .unset, .unset, .unset] [(.int (3 : Int32)), (.int (((x1.toUInt32 >>> ((6 : Int32) &&& 31).toUInt32).toInt32) &&& (7 : Int32)))]))
    refine own_st (fun t k => XS.isub X5.here hx rfl (hb hby at_104) rfl k) ?_
    refine own_st (fun t k => XS.i2dS X5.here hx rfl (hb hby at_105) rfl (i2d_w _) k) ?_
    refine own_st (fun t k => XS.dstore X5.here hx rfl (hb hby at_106) rfl (l' := #[iv x0, iv x1, iv x2, iv x3, iv (x0 &&& (3 : Int32)), iv k0, iv y28, rv b1, own_dv (FP.l2d w0), .second, own_dv (FP.l2d w1), .second, own_dv (FP.l2d (((((x1.toUInt32 >>> ((6 : Int32) &&& 31).toUInt32).toInt32) &&& (7 : Int32)) - (3 : Int32)).toInt64)), .second, .unset, .unset, .unset, .unset, .unset, .unset, .unset, .unset, .unset, .unset, .unset, .unset]) rfl k) ?_
    show own_Go p e below G (T5.setTop (mkF m 108 #[iv x0, iv x1, iv x2, iv x3, iv (x0 &&& (3 : Int32)), iv k0, iv y28, rv b1, own_dv (FP.l2d w0), .second, own_dv (FP.l2d w1), .second, own_dv (FP.l2d (((((x1.toUInt32 >>> ((6 : Int32) &&& 31).toUInt32).toInt32) &&& (7 : Int32)) - (3 : Int32)).toInt64)), .second, .unset, .unset, .unset, .unset, .unset, .unset, .unset, .unset, .unset, .unset, .unset, .unset] []))
    have hw2 := own_w7 ((x1.toUInt32 >>> ((6 : Int32) &&& 31).toUInt32).toInt32)
    generalize (((((x1.toUInt32 >>> ((6 : Int32) &&& 31).toUInt32).toInt32) &&& (7 : Int32)) - (3 : Int32)).toInt64) = w2 at hw2 ⊢
    refine own_st (fun t k => XS.iloadN X5.here hx rfl (hb hby at_108) rfl  k) ?_
    refine own_st (fun t k => XS.bipush X5.here hx rfl (hb hby at_109) k) ?_
    refine own_st (fun t k => XS.iushr X5.here hx rfl (hb hby at_111) rfl k) ?_
    show own_Go p e below G (T5.setTop (mkF m 112 #[iv x0, iv x1, iv x2, iv x3, iv (x0 &&& (3 : Int32)), iv k0, iv y28, rv b1, own_dv (FP.l2d w0), .second, own_dv (FP.l2d w1), .second, own_dv (FP.l2d w2), .second, .unset, .unset, .unset, .unset, .unset, .unset, .unset, .unset, .unset, .unset, .unset, .unset] [(.int ((x1.toUInt32 >>> ((9 : Int32) &&& 31).toUInt32).toInt32))]))
    refine own_st (fun t k => XS.bipush X5.here hx rfl (hb hby at_112) k) ?_
    refine own_st (fun t k => XS.iand X5.here hx rfl (hb hby at_114) rfl k) ?_
    refine own_st (fun t k => XS.iconst X5.here hx rfl (hb hby at_115) k) ?_
    show own_Go p e below G (T5.setTop (mkF m 116 #[iv x0, iv x1, iv x2, iv x3, iv (x0 &&& (3 : Int32)), iv k0, iv y28, rv b1, own_dv (FP.l2d w0), .second, own_dv (FP.l2d w1), .second, own_dv (FP.l2d w2), .second, .unset, .unset, .unset, .unset, .unset, .unset, .unset, .unset, .unset, .unset, .unset, .unset] [(.int (3 : Int32)), (.int (((x1.toUInt32 >>> ((9 : Int32) &&& 31).toUInt32).toInt32) &&& (7 : Int32)))]))
    refine own_st (fun t k => XS.isub X5.here hx rfl (hb hby at_116) rfl k) ?_
    refine own_st (fun t k => XS.i2dS X5.here hx rfl (hb hby at_117) rfl (i2d_w _) k) ?_
    refine own_st (fun t k => XS.dstore X5.here hx rfl (hb hby at_118) rfl (l' := #[iv x0, iv x1, iv x2, iv x3, iv (x0 &&& (3 : Int32)), iv k0, iv y28, rv b1, own_dv (FP.l2d w0), .second, own_dv (FP.l2d w1), .second, own_dv (FP.l2d w2), .second, own_dv (FP.l2d (((((x1.toUInt32 >>> ((9 : Int32) &&& 31).toUInt32).toInt32) &&& (7 : Int32)) - (3 : Int32)).toInt64)), .second, .unset, .unset, .unset, .unset, .unset, .unset, .unset, .unset, .unset, .unset]) rfl k) ?_
    show own_Go p e below G (T5.setTop (mkF m 120 #[iv x0, iv x1, iv x2, iv x3, iv (x0 &&& (3 : Int32)), iv k0, iv y28, rv b1, own_dv (FP.l2d w0), .second, own_dv (FP.l2d w1), .second, own_dv (FP.l2d w2), .second, own_dv (FP.l2d (((((x1.toUInt32 >>> ((9 : Int32) &&& 31).toUInt32).toInt32) &&& (7 : Int32)) - (3 : Int32)).toInt64)), .second, .unset, .unset, .unset, .unset, .unset, .unset, .unset, .unset, .unset, .unset] []))
    have hw3 := own_w7 ((x1.toUInt32 >>> ((9 : Int32) &&& 31).toUInt32).toInt32)
    generalize (((((x1.toUInt32 >>> ((9 : Int32) &&& 31).toUInt32).toInt32) &&& (7 : Int32)) - (3 : Int32)).toInt64) = w3 at hw3 ⊢
    refine own_st (fun t k => XS.iloadN X5.here hx rfl (hb hby at_120) rfl  k) ?_
    refine own_st (fun t k => XS.iconst X5.here hx rfl (hb hby at_121) k) ?_
    refine own_st (fun t k => XS.iand X5.here hx rfl (hb hby at_122) rfl k) ?_
    show own_Go p e below G (T5.setTop (mkF m 123 #[iv x0, iv x1, iv x2, iv x3, iv (x0 &&& (3 : Int32)), iv k0, iv y28, rv b1, own_dv (FP.l2d w0), .second, own_dv (FP.l2d w1), .second, own_dv (FP.l2d w2), .second, own_dv (FP.l2d w3), .second, .unset, .unset, .unset, .unset, .unset, .unset, .unset, .unset, .unset, .unset] [(.int (x2 &&& (3 : Int32)))]))
    refine own_st (fun t k => XS.istore X5.here hx rfl (hb hby at_123) rfl (l' := #[iv x0, iv x1, iv x2, iv x3, iv (x0 &&& (3 : Int32)), iv k0, iv y28, rv b1, own_dv (FP.l2d w0), .second, own_dv (FP.l2d w1), .second, own_dv (FP.l2d w2), .second, own_dv (FP.l2d w3), .second, iv (x2 &&& (3 : Int32)), .unset, .unset, .unset, .unset, .unset, .unset, .unset, .unset, .unset]) rfl k) ?_
    show own_Go p e below G (T5.setTop (mkF m 125 #[iv x0, iv x1, iv x2, iv x3, iv (x0 &&& (3 : Int32)), iv k0, iv y28, rv b1, own_dv (FP.l2d w0), .second, own_dv (FP.l2d w1), .second, own_dv (FP.l2d w2), .second, own_dv (FP.l2d w3), .second, iv (x2 &&& (3 : Int32)), .unset, .unset, .unset, .unset, .unset, .unset, .unset, .unset, .unset] []))
    have hd0 := own_d3 x2
    generalize (x2 &&& (3 : Int32)) = e0' at hd0 ⊢
    refine own_st (fun t k => XS.iloadN X5.here hx rfl (hb hby at_125) rfl  k) ?_
    refine own_st (fun t k => XS.iconst X5.here hx rfl (hb hby at_126) k) ?_
    refine own_st (fun t k => XS.iushr X5.here hx rfl (hb hby at_127) rfl k) ?_
    show own_Go p e below G (T5.setTop (mkF m 128 #[iv x0, iv x1, iv x2, iv x3, iv (x0 &&& (3 : Int32)), iv k0, iv y28, rv b1, own_dv (FP.l2d w0), .second, own_dv (FP.l2d w1), .second, own_dv (FP.l2d w2), .second, own_dv (FP.l2d w3), .second, iv e0', .unset, .unset, .unset, .unset, .unset, .unset, .unset, .unset, .unset] [(.int ((x2.toUInt32 >>> ((2 : Int32) &&& 31).toUInt32).toInt32))]))
    refine own_st (fun t k => XS.iconst X5.here hx rfl (hb hby at_128) k) ?_
    refine own_st (fun t k => XS.iand X5.here hx rfl (hb hby at_129) rfl k) ?_
    refine own_st (fun t k => XS.istore X5.here hx rfl (hb hby at_130) rfl (l' := #[iv x0, iv x1, iv x2, iv x3, iv (x0 &&& (3 : Int32)), iv k0, iv y28, rv b1, own_dv (FP.l2d w0), .second, own_dv (FP.l2d w1), .second, own_dv (FP.l2d w2), .second, own_dv (FP.l2d w3), .second, iv e0', iv (((x2.toUInt32 >>> ((2 : Int32) &&& 31).toUInt32).toInt32) &&& (3 : Int32)), .unset, .unset, .unset, .unset, .unset, .unset, .unset, .unset]) rfl k) ?_
    show own_Go p e below G (T5.setTop (mkF m 132 #[iv x0, iv x1, iv x2, iv x3, iv (x0 &&& (3 : Int32)), iv k0, iv y28, rv b1, own_dv (FP.l2d w0), .second, own_dv (FP.l2d w1), .second, own_dv (FP.l2d w2), .second, own_dv (FP.l2d w3), .second, iv e0', iv (((x2.toUInt32 >>> ((2 : Int32) &&& 31).toUInt32).toInt32) &&& (3 : Int32)), .unset, .unset, .unset, .unset, .unset, .unset, .unset, .unset] []))
    have hd1 := own_d3 ((x2.toUInt32 >>> ((2 : Int32) &&& 31).toUInt32).toInt32)
    generalize (((x2.toUInt32 >>> ((2 : Int32) &&& 31).toUInt32).toInt32) &&& (3 : Int32)) = e1' at hd1 ⊢
    refine own_st (fun t k => XS.iloadN X5.here hx rfl (hb hby at_132) rfl  k) ?_
    refine own_st (fun t k => XS.iconst X5.here hx rfl (hb hby at_133) k) ?_
    refine own_st (fun t k => XS.iushr X5.here hx rfl (hb hby at_134) rfl k) ?_
    show own_Go p e below G (T5.setTop (mkF m 135 #[iv x0, iv x1, iv x2, iv x3, iv (x0 &&& (3 : Int32)), iv k0, iv y28, rv b1, own_dv (FP.l2d w0), .second, own_dv (FP.l2d w1), .second, own_dv (FP.l2d w2), .second, own_dv (FP.l2d w3), .second, iv e0', iv e1', .unset, .unset, .unset, .unset, .unset, .unset, .unset, .unset] [(.int ((x2.toUInt32 >>> ((4 : Int32) &&& 31).toUInt32).toInt32))]))
    refine own_st (fun t k => XS.iconst X5.here hx rfl (hb hby at_135) k) ?_
    refine own_st (fun t k => XS.iand X5.here hx rfl (hb hby at_136) rfl k) ?_
    refine own_st (fun t k => XS.istore X5.here hx rfl (hb hby at_137) rfl (l' := #[iv x0, iv x1, iv x2, iv x3, iv (x0 &&& (3 : Int32)), iv k0, iv y28, rv b1, own_dv (FP.l2d w0), .second, own_dv (FP.l2d w1), .second, own_dv (FP.l2d w2), .second, own_dv (FP.l2d w3), .second, iv e0', iv e1', iv (((x2.toUInt32 >>> ((4 : Int32) &&& 31).toUInt32).toInt32) &&& (3 : Int32)), .unset, .unset, .unset, .unset, .unset, .unset, .unset]) rfl k) ?_
    show own_Go p e below G (T5.setTop (mkF m 139 #[iv x0, iv x1, iv x2, iv x3, iv (x0 &&& (3 : Int32)), iv k0, iv y28, rv b1, own_dv (FP.l2d w0), .second, own_dv (FP.l2d w1), .second, own_dv (FP.l2d w2), .second, own_dv (FP.l2d w3), .second, iv e0', iv e1', iv (((x2.toUInt32 >>> ((4 : Int32) &&& 31).toUInt32).toInt32) &&& (3 : Int32)), .unset, .unset, .unset, .unset, .unset, .unset, .unset] []))
    have hd2 := own_d3 ((x2.toUInt32 >>> ((4 : Int32) &&& 31).toUInt32).toInt32)
    generalize (((x2.toUInt32 >>> ((4 : Int32) &&& 31).toUInt32).toInt32) &&& (3 : Int32)) = e2' at hd2 ⊢
    refine own_st (fun t k => XS.iloadN X5.here hx rfl (hb hby at_139) rfl  k) ?_
    refine own_st (fun t k => XS.bipush X5.here hx rfl (hb hby at_140) k) ?_
    refine own_st (fun t k => XS.iushr X5.here hx rfl (hb hby at_142) rfl k) ?_
    show own_Go p e below G (T5.setTop (mkF m 143 #[iv x0, iv x1, iv x2, iv x3, iv (x0 &&& (3 : Int32)), iv k0, iv y28, rv b1, own_dv (FP.l2d w0), .second, own_dv (FP.l2d w1), .second, own_dv (FP.l2d w2), .second, own_dv (FP.l2d w3), .second, iv e0', iv e1', iv e2', .unset, .unset, .unset, .unset, .unset, .unset, .unset] [(.int ((x2.toUInt32 >>> ((6 : Int32) &&& 31).toUInt32).toInt32))]))
    refine own_st (fun t k => XS.iconst X5.here hx rfl (hb hby at_143) k) ?_
    refine own_st (fun t k => XS.iand X5.here hx rfl (hb hby at_144) rfl k) ?_
    refine own_st (fun t k => XS.istore X5.here hx rfl (hb hby at_145) rfl (l' := #[iv x0, iv x1, iv x2, iv x3, iv (x0 &&& (3 : Int32)), iv k0, iv y28, rv b1, own_dv (FP.l2d w0), .second, own_dv (FP.l2d w1), .second, own_dv (FP.l2d w2), .second, own_dv (FP.l2d w3), .second, iv e0', iv e1', iv e2', iv (((x2.toUInt32 >>> ((6 : Int32) &&& 31).toUInt32).toInt32) &&& (3 : Int32)), .unset, .unset, .unset, .unset, .unset, .unset]) rfl k) ?_
    show own_Go p e below G (T5.setTop (mkF m 147 #[iv x0, iv x1, iv x2, iv x3, iv (x0 &&& (3 : Int32)), iv k0, iv y28, rv b1, own_dv (FP.l2d w0), .second, own_dv (FP.l2d w1), .second, own_dv (FP.l2d w2), .second, own_dv (FP.l2d w3), .second, iv e0', iv e1', iv e2', iv (((x2.toUInt32 >>> ((6 : Int32) &&& 31).toUInt32).toInt32) &&& (3 : Int32)), .unset, .unset, .unset, .unset, .unset, .unset] []))
    have hd3 := own_d3 ((x2.toUInt32 >>> ((6 : Int32) &&& 31).toUInt32).toInt32)
    generalize (((x2.toUInt32 >>> ((6 : Int32) &&& 31).toUInt32).toInt32) &&& (3 : Int32)) = e3' at hd3 ⊢
    have hc4 := own_c4 x0
    generalize (x0 &&& (3 : Int32)) = cp at hc4 ⊢
    rcases hc4 with rfl | rfl | rfl | rfl
    · skip
      show own_Go p e below G (T5.setTop (mkF m 147 #[iv x0, iv x1, iv x2, iv x3, iv 0, iv k0, iv y28, rv b1, own_dv (FP.l2d w0), .second, own_dv (FP.l2d w1), .second, own_dv (FP.l2d w2), .second, own_dv (FP.l2d w3), .second, iv e0', iv e1', iv e2', iv e3', .unset, .unset, .unset, .unset, .unset, .unset] []))
      obtain ⟨T6, h6, X6, e6, E6, A6, D6, -, st6⟩ := newO X5 hx hZ hown (hw _ (List.mem_of_getElem? (i := 1) rfl)) (hw _ (List.mem_of_getElem? (i := 2) rfl)) (hw _ (List.mem_of_getElem? (i := 3) rfl)) e5 (g := (mkF m 147 #[iv x0, iv x1, iv x2, iv x3, iv 0, iv k0, iv y28, rv b1, own_dv (FP.l2d w0), .second, own_dv (FP.l2d w1), .second, own_dv (FP.l2d w2), .second, own_dv (FP.l2d w3), .second, iv e0', iv e1', iv e2', iv e3', .unset, .unset, .unset, .unset, .unset, .unset] [])) rfl (hb hby at_147) (by decide) (by decide)
      obtain ⟨b6, gb6⟩ : ∃ z, z = h5.size := ⟨_, rfl⟩
      rw [← gb6] at A6 D6 st6
      have g_b6 : n0 ≤ b6 := Nat.le_trans Z0 (Nat.le_of_eq gb6.symm)
      have ne_b1_b6 : b1 ≠ b6 := Nat.ne_of_lt (Nat.lt_of_lt_of_le V_b1.lt (Nat.le_of_eq gb6.symm))
      replace Z0 := Nat.le_trans Z0 E6.1
      replace V_b1 := V_b1.ext E6
      have E_b6 := A6
      have F_numbers_b6 : Fld Z h6 b6 "com/example/thinleaf/thinleaf/prune/Nearest" "numbers" "[I" .null := D6 (Or.inr (hw _ (List.mem_of_getElem? (i := 11) rfl))) (ty := (.array .int)) (by decide)
      have F_cosines_b6 : Fld Z h6 b6 "com/example/thinleaf/thinleaf/prune/Nearest" "cosines" "[D" .null := D6 (Or.inr (hw _ (List.mem_of_getElem? (i := 14) rfl))) (ty := (.array .double)) (by decide)
      have F_places_b6 : Fld Z h6 b6 "com/example/thinleaf/thinleaf/prune/Nearest" "places" "[I" .null := D6 (Or.inr (hw _ (List.mem_of_getElem? (i := 16) rfl))) (ty := (.array .int)) (by decide)
      have F_size_b6 : Fld Z h6 b6 "com/example/thinleaf/thinleaf/prune/Nearest" "size" "I" (.int (0 : Int32)) := D6 (Or.inl (hw _ (List.mem_of_getElem? (i := 23) rfl))) (ty := .int) (by decide)
      refine own_st st6 ?_
      show own_Go p e below G (T6.setTop (mkF m 150 #[iv x0, iv x1, iv x2, iv x3, iv 0, iv k0, iv y28, rv b1, own_dv (FP.l2d w0), .second, own_dv (FP.l2d w1), .second, own_dv (FP.l2d w2), .second, own_dv (FP.l2d w3), .second, iv e0', iv e1', iv e2', iv e3', .unset, .unset, .unset, .unset, .unset, .unset] [(.ref b6)]))
      refine own_st (fun t k => XS.dup X6.here hx rfl (hb hby at_150) rfl rfl k) ?_
      refine own_st (fun t k => XS.iload X6.here hx rfl (hb hby at_151) rfl  k) ?_
      refine own_st (fun t k => XS.iload X6.here hx rfl (hb hby at_153) rfl  k) ?_
      show own_Go p e below G (T6.setTop (mkF m 155 #[iv x0, iv x1, iv x2, iv x3, iv 0, iv k0, iv y28, rv b1, own_dv (FP.l2d w0), .second, own_dv (FP.l2d w1), .second, own_dv (FP.l2d w2), .second, own_dv (FP.l2d w3), .second, iv e0', iv e1', iv e2', iv e3', .unset, .unset, .unset, .unset, .unset, .unset] [(.int y28), (.int (0 : Int32)), (.ref b6), (.ref b6)]))
      have J164 : ∀ (pv : Value) (Pl : own_Pl Z h6 pv [b6]), own_Go p e below G (T6.setTop (mkF m 164 #[iv x0, iv x1, iv x2, iv x3, iv 0, iv k0, iv y28, rv b1, own_dv (FP.l2d w0), .second, own_dv (FP.l2d w1), .second, own_dv (FP.l2d w2), .second, own_dv (FP.l2d w3), .second, iv e0', iv e1', iv e2', iv e3', .unset, .unset, .unset, .unset, .unset, .unset] [pv, (.int (0 : Int32)), (.ref b6), (.ref b6)])) := by
        intro pv Pl
        obtain ⟨v7, T7, L7, X7, Q7, st7⟩ := own_callC X6 hx hZ (y := (⟨"com/example/thinleaf/thinleaf/prune/Nearest", "<init>", "(I[I)V"⟩ : MethodName)) rfl hown (hw _ (List.mem_of_getElem? (i := 4) rfl)) (hw _ (List.mem_of_getElem? (i := 5) rfl)) (hw _ (List.mem_of_getElem? (i := 3) rfl)) (hw _ (List.mem_of_getElem? (i := 6) rfl)) (by decide) (W := 1) (rmC0 l Z a0 hw b6 pv h6 n0 Z0 g_b6 Pl E_b6 F_numbers_b6 F_cosines_b6 F_places_b6 F_size_b6) (by decide) (by decide) e6 (g := (mkF m 164 #[iv x0, iv x1, iv x2, iv x3, iv 0, iv k0, iv y28, rv b1, own_dv (FP.l2d w0), .second, own_dv (FP.l2d w1), .second, own_dv (FP.l2d w2), .second, own_dv (FP.l2d w3), .second, iv e0', iv e1', iv e2', iv e3', .unset, .unset, .unset, .unset, .unset, .unset] [pv, (.int (0 : Int32)), (.ref b6), (.ref b6)])) rfl (by rw [hml]; rfl) (a := b6) (argsL := [(.int (0 : Int32)), pv]) (rest := [(.ref b6)]) own_pd2 rfl rfl (by show 2 * 0 + _ ≤ _; exact Nat.le_of_eq rfl) (hb hby at_164) rfl (by decide) (by decide)
        obtain ⟨rfl, Nq, bn, bc, kn, kc, NB0⟩ := Q7
        replace N0 := Fr.app N0 Nq
        refine own_st st7 ?_
        show own_Go p e below G (T7.setTop (mkF m 167 #[iv x0, iv x1, iv x2, iv x3, iv 0, iv k0, iv y28, rv b1, own_dv (FP.l2d w0), .second, own_dv (FP.l2d w1), .second, own_dv (FP.l2d w2), .second, own_dv (FP.l2d w3), .second, iv e0', iv e1', iv e2', iv e3', .unset, .unset, .unset, .unset, .unset, .unset] [(.ref b6)]))
        refine own_st (fun t k => XS.astore X7.here hx rfl (hb hby at_167) rfl rfl (l' := #[iv x0, iv x1, iv x2, iv x3, iv 0, iv k0, iv y28, rv b1, own_dv (FP.l2d w0), .second, own_dv (FP.l2d w1), .second, own_dv (FP.l2d w2), .second, own_dv (FP.l2d w3), .second, iv e0', iv e1', iv e2', iv e3', rv b6, .unset, .unset, .unset, .unset, .unset]) rfl k) ?_
        refine own_st (fun t k => XS.iload X7.here hx rfl (hb hby at_169) rfl  k) ?_
        show own_Go p e below G (T7.setTop (mkF m 171 #[iv x0, iv x1, iv x2, iv x3, iv 0, iv k0, iv y28, rv b1, own_dv (FP.l2d w0), .second, own_dv (FP.l2d w1), .second, own_dv (FP.l2d w2), .second, own_dv (FP.l2d w3), .second, iv e0', iv e1', iv e2', iv e3', rv b6, .unset, .unset, .unset, .unset, .unset] [(.int k0)]))
        by_cases c171_8 : (0 : Int32) < k0
        · skip
          refine own_st (fun t k => XS.ifNo X7.here hx rfl (hb hby at_171) rfl ((if0 _ _).trans (tlt c171_8).2.2.2) k) ?_
          show own_Go p e below G (T7.setTop (mkF m 174 #[iv x0, iv x1, iv x2, iv x3, iv 0, iv k0, iv y28, rv b1, own_dv (FP.l2d w0), .second, own_dv (FP.l2d w1), .second, own_dv (FP.l2d w2), .second, own_dv (FP.l2d w3), .second, iv e0', iv e1', iv e2', iv e3', rv b6, .unset, .unset, .unset, .unset, .unset] []))
          refine own_st (fun t k => XS.aload X7.here hx rfl (hb hby at_174) rfl rfl  k) ?_
          refine own_st (fun t k => XS.iload X7.here hx rfl (hb hby at_176) rfl  k) ?_
          refine own_st (fun t k => XS.dload X7.here hx rfl (hb hby at_178) rfl  k) ?_
          show own_Go p e below G (T7.setTop (mkF m 180 #[iv x0, iv x1, iv x2, iv x3, iv 0, iv k0, iv y28, rv b1, own_dv (FP.l2d w0), .second, own_dv (FP.l2d w1), .second, own_dv (FP.l2d w2), .second, own_dv (FP.l2d w3), .second, iv e0', iv e1', iv e2', iv e3', rv b6, .unset, .unset, .unset, .unset, .unset] [(.double (FP.l2d w0)), (.int e0'), (.ref b6)]))
          obtain ⟨v9, T9, L9, X9, Q9, st9⟩ := own_callV X7 hx hZ (y := (⟨"com/example/thinleaf/thinleaf/prune/Nearest", "offer", "(ID)Z"⟩ : MethodName)) (z := (⟨"com/example/thinleaf/thinleaf/prune/Nearest", "offer", "(ID)Z"⟩ : MethodName)) hown (hw _ (List.mem_of_getElem? (i := 26) rfl)) (hw _ (List.mem_of_getElem? (i := 27) rfl)) (notFace_of_selects (args := #[]) (mvT hZ (hw _ (List.mem_of_getElem? (i := 29) rfl)))) (hw _ (List.mem_of_getElem? (i := 29) rfl)) (hw _ (List.mem_of_getElem? (i := 28) rfl)) (hw _ (List.mem_of_getElem? (i := 3) rfl)) (hw _ (List.mem_of_getElem? (i := 30) rfl)) (by decide) (W := 0) (rmO00 l Z a0 hw b6 bn bc kn kc pv e0' w0   T7.heap n0 NB0  hd0 (own_wb hw0)) (by decide) (by decide) rfl (NB0).1 (g := (mkF m 180 #[iv x0, iv x1, iv x2, iv x3, iv 0, iv k0, iv y28, rv b1, own_dv (FP.l2d w0), .second, own_dv (FP.l2d w1), .second, own_dv (FP.l2d w2), .second, own_dv (FP.l2d w3), .second, iv e0', iv e1', iv e2', iv e3', rv b6, .unset, .unset, .unset, .unset, .unset] [(.double (FP.l2d w0)), (.int e0'), (.ref b6)])) rfl (by rw [hml]; rfl) (argsL := [(.int e0'), (.double (FP.l2d w0))]) (rest := []) own_pd3 rfl rfl (by show 2 * 0 + _ ≤ _; exact Nat.le_of_eq rfl) (hb hby at_180) rfl (by decide) (by decide)
          obtain ⟨⟨z9, rfl⟩, Nq9, NB1⟩ := Q9
          replace N0 := Fr.app N0 Nq9
          refine own_st st9 ?_
          show own_Go p e below G (T9.setTop (mkF m 183 #[iv x0, iv x1, iv x2, iv x3, iv 0, iv k0, iv y28, rv b1, own_dv (FP.l2d w0), .second, own_dv (FP.l2d w1), .second, own_dv (FP.l2d w2), .second, own_dv (FP.l2d w3), .second, iv e0', iv e1', iv e2', iv e3', rv b6, .unset, .unset, .unset, .unset, .unset] [(.int z9)]))
          refine own_st (fun t k => XS.pop X9.here hx rfl (hb hby at_183) rfl rfl k) ?_
          refine own_st (fun t k => XS.iload X9.here hx rfl (hb hby at_184) rfl  k) ?_
          refine own_st (fun t k => XS.iconst X9.here hx rfl (hb hby at_186) k) ?_
          show own_Go p e below G (T9.setTop (mkF m 187 #[iv x0, iv x1, iv x2, iv x3, iv 0, iv k0, iv y28, rv b1, own_dv (FP.l2d w0), .second, own_dv (FP.l2d w1), .second, own_dv (FP.l2d w2), .second, own_dv (FP.l2d w3), .second, iv e0', iv e1', iv e2', iv e3', rv b6, .unset, .unset, .unset, .unset, .unset] [(.int (1 : Int32)), (.int k0)]))
          by_cases c187_10 : (1 : Int32) < k0
          · skip
            refine own_st (fun t k => XS.icmpNo X9.here hx rfl (hb hby at_187) rfl (tlt c187_10).2.2.2 k) ?_
            show own_Go p e below G (T9.setTop (mkF m 190 #[iv x0, iv x1, iv x2, iv x3, iv 0, iv k0, iv y28, rv b1, own_dv (FP.l2d w0), .second, own_dv (FP.l2d w1), .second, own_dv (FP.l2d w2), .second, own_dv (FP.l2d w3), .second, iv e0', iv e1', iv e2', iv e3', rv b6, .unset, .unset, .unset, .unset, .unset] []))
            refine own_st (fun t k => XS.aload X9.here hx rfl (hb hby at_190) rfl rfl  k) ?_
            refine own_st (fun t k => XS.iload X9.here hx rfl (hb hby at_192) rfl  k) ?_
            refine own_st (fun t k => XS.dload X9.here hx rfl (hb hby at_194) rfl  k) ?_
            show own_Go p e below G (T9.setTop (mkF m 196 #[iv x0, iv x1, iv x2, iv x3, iv 0, iv k0, iv y28, rv b1, own_dv (FP.l2d w0), .second, own_dv (FP.l2d w1), .second, own_dv (FP.l2d w2), .second, own_dv (FP.l2d w3), .second, iv e0', iv e1', iv e2', iv e3', rv b6, .unset, .unset, .unset, .unset, .unset] [(.double (FP.l2d w1)), (.int e1'), (.ref b6)]))
            obtain ⟨v11, T11, L11, X11, Q11, st11⟩ := own_callV X9 hx hZ (y := (⟨"com/example/thinleaf/thinleaf/prune/Nearest", "offer", "(ID)Z"⟩ : MethodName)) (z := (⟨"com/example/thinleaf/thinleaf/prune/Nearest", "offer", "(ID)Z"⟩ : MethodName)) hown (hw _ (List.mem_of_getElem? (i := 26) rfl)) (hw _ (List.mem_of_getElem? (i := 27) rfl)) (notFace_of_selects (args := #[]) (mvT hZ (hw _ (List.mem_of_getElem? (i := 29) rfl)))) (hw _ (List.mem_of_getElem? (i := 29) rfl)) (hw _ (List.mem_of_getElem? (i := 28) rfl)) (hw _ (List.mem_of_getElem? (i := 3) rfl)) (hw _ (List.mem_of_getElem? (i := 30) rfl)) (by decide) (W := 0) (rmO00 l Z a0 hw b6 bn bc kn kc pv e1' w1   T9.heap n0 NB1  hd1 (own_wb hw1)) (by decide) (by decide) rfl (NB1).1 (g := (mkF m 196 #[iv x0, iv x1, iv x2, iv x3, iv 0, iv k0, iv y28, rv b1, own_dv (FP.l2d w0), .second, own_dv (FP.l2d w1), .second, own_dv (FP.l2d w2), .second, own_dv (FP.l2d w3), .second, iv e0', iv e1', iv e2', iv e3', rv b6, .unset, .unset, .unset, .unset, .unset] [(.double (FP.l2d w1)), (.int e1'), (.ref b6)])) rfl (by rw [hml]; rfl) (argsL := [(.int e1'), (.double (FP.l2d w1))]) (rest := []) own_pd3 rfl rfl (by show 2 * 0 + _ ≤ _; exact Nat.le_of_eq rfl) (hb hby at_196) rfl (by decide) (by decide)
            obtain ⟨⟨z11, rfl⟩, Nq11, NB2⟩ := Q11
            replace N0 := Fr.app N0 Nq11
            refine own_st st11 ?_
            show own_Go p e below G (T11.setTop (mkF m 199 #[iv x0, iv x1, iv x2, iv x3, iv 0, iv k0, iv y28, rv b1, own_dv (FP.l2d w0), .second, own_dv (FP.l2d w1), .second, own_dv (FP.l2d w2), .second, own_dv (FP.l2d w3), .second, iv e0', iv e1', iv e2', iv e3', rv b6, .unset, .unset, .unset, .unset, .unset] [(.int z11)]))
            refine own_st (fun t k => XS.pop X11.here hx rfl (hb hby at_199) rfl rfl k) ?_
            refine own_st (fun t k => XS.iload X11.here hx rfl (hb hby at_200) rfl  k) ?_
            refine own_st (fun t k => XS.iconst X11.here hx rfl (hb hby at_202) k) ?_
            show own_Go p e below G (T11.setTop (mkF m 203 #[iv x0, iv x1, iv x2, iv x3, iv 0, iv k0, iv y28, rv b1, own_dv (FP.l2d w0), .second, own_dv (FP.l2d w1), .second, own_dv (FP.l2d w2), .second, own_dv (FP.l2d w3), .second, iv e0', iv e1', iv e2', iv e3', rv b6, .unset, .unset, .unset, .unset, .unset] [(.int (2 : Int32)), (.int k0)]))
            by_cases c203_12 : (2 : Int32) < k0
            · skip
              refine own_st (fun t k => XS.icmpNo X11.here hx rfl (hb hby at_203) rfl (tlt c203_12).2.2.2 k) ?_
              show own_Go p e below G (T11.setTop (mkF m 206 #[iv x0, iv x1, iv x2, iv x3, iv 0, iv k0, iv y28, rv b1, own_dv (FP.l2d w0), .second, own_dv (FP.l2d w1), .second, own_dv (FP.l2d w2), .second, own_dv (FP.l2d w3), .second, iv e0', iv e1', iv e2', iv e3', rv b6, .unset, .unset, .unset, .unset, .unset] []))
              refine own_st (fun t k => XS.aload X11.here hx rfl (hb hby at_206) rfl rfl  k) ?_
              refine own_st (fun t k => XS.iload X11.here hx rfl (hb hby at_208) rfl  k) ?_
              refine own_st (fun t k => XS.dload X11.here hx rfl (hb hby at_210) rfl  k) ?_
              show own_Go p e below G (T11.setTop (mkF m 212 #[iv x0, iv x1, iv x2, iv x3, iv 0, iv k0, iv y28, rv b1, own_dv (FP.l2d w0), .second, own_dv (FP.l2d w1), .second, own_dv (FP.l2d w2), .second, own_dv (FP.l2d w3), .second, iv e0', iv e1', iv e2', iv e3', rv b6, .unset, .unset, .unset, .unset, .unset] [(.double (FP.l2d w2)), (.int e2'), (.ref b6)]))
              obtain ⟨v13, T13, L13, X13, Q13, st13⟩ := own_callV X11 hx hZ (y := (⟨"com/example/thinleaf/thinleaf/prune/Nearest", "offer", "(ID)Z"⟩ : MethodName)) (z := (⟨"com/example/thinleaf/thinleaf/prune/Nearest", "offer", "(ID)Z"⟩ : MethodName)) hown (hw _ (List.mem_of_getElem? (i := 26) rfl)) (hw _ (List.mem_of_getElem? (i := 27) rfl)) (notFace_of_selects (args := #[]) (mvT hZ (hw _ (List.mem_of_getElem? (i := 29) rfl)))) (hw _ (List.mem_of_getElem? (i := 29) rfl)) (hw _ (List.mem_of_getElem? (i := 28) rfl)) (hw _ (List.mem_of_getElem? (i := 3) rfl)) (hw _ (List.mem_of_getElem? (i := 30) rfl)) (by decide) (W := 0) (rmO00 l Z a0 hw b6 bn bc kn kc pv e2' w2   T11.heap n0 NB2  hd2 (own_wb hw2)) (by decide) (by decide) rfl (NB2).1 (g := (mkF m 212 #[iv x0, iv x1, iv x2, iv x3, iv 0, iv k0, iv y28, rv b1, own_dv (FP.l2d w0), .second, own_dv (FP.l2d w1), .second, own_dv (FP.l2d w2), .second, own_dv (FP.l2d w3), .second, iv e0', iv e1', iv e2', iv e3', rv b6, .unset, .unset, .unset, .unset, .unset] [(.double (FP.l2d w2)), (.int e2'), (.ref b6)])) rfl (by rw [hml]; rfl) (argsL := [(.int e2'), (.double (FP.l2d w2))]) (rest := []) own_pd3 rfl rfl (by show 2 * 0 + _ ≤ _; exact Nat.le_of_eq rfl) (hb hby at_212) rfl (by decide) (by decide)
              obtain ⟨⟨z13, rfl⟩, Nq13, NB3⟩ := Q13
              replace N0 := Fr.app N0 Nq13
              refine own_st st13 ?_
              show own_Go p e below G (T13.setTop (mkF m 215 #[iv x0, iv x1, iv x2, iv x3, iv 0, iv k0, iv y28, rv b1, own_dv (FP.l2d w0), .second, own_dv (FP.l2d w1), .second, own_dv (FP.l2d w2), .second, own_dv (FP.l2d w3), .second, iv e0', iv e1', iv e2', iv e3', rv b6, .unset, .unset, .unset, .unset, .unset] [(.int z13)]))
              refine own_st (fun t k => XS.pop X13.here hx rfl (hb hby at_215) rfl rfl k) ?_
              refine own_st (fun t k => XS.iload X13.here hx rfl (hb hby at_216) rfl  k) ?_
              refine own_st (fun t k => XS.iconst X13.here hx rfl (hb hby at_218) k) ?_
              show own_Go p e below G (T13.setTop (mkF m 219 #[iv x0, iv x1, iv x2, iv x3, iv 0, iv k0, iv y28, rv b1, own_dv (FP.l2d w0), .second, own_dv (FP.l2d w1), .second, own_dv (FP.l2d w2), .second, own_dv (FP.l2d w3), .second, iv e0', iv e1', iv e2', iv e3', rv b6, .unset, .unset, .unset, .unset, .unset] [(.int (3 : Int32)), (.int k0)]))
              by_cases c219_14 : (3 : Int32) < k0
              · skip
                refine own_st (fun t k => XS.icmpNo X13.here hx rfl (hb hby at_219) rfl (tlt c219_14).2.2.2 k) ?_
                show own_Go p e below G (T13.setTop (mkF m 222 #[iv x0, iv x1, iv x2, iv x3, iv 0, iv k0, iv y28, rv b1, own_dv (FP.l2d w0), .second, own_dv (FP.l2d w1), .second, own_dv (FP.l2d w2), .second, own_dv (FP.l2d w3), .second, iv e0', iv e1', iv e2', iv e3', rv b6, .unset, .unset, .unset, .unset, .unset] []))
                refine own_st (fun t k => XS.aload X13.here hx rfl (hb hby at_222) rfl rfl  k) ?_
                refine own_st (fun t k => XS.iload X13.here hx rfl (hb hby at_224) rfl  k) ?_
                refine own_st (fun t k => XS.dload X13.here hx rfl (hb hby at_226) rfl  k) ?_
                show own_Go p e below G (T13.setTop (mkF m 228 #[iv x0, iv x1, iv x2, iv x3, iv 0, iv k0, iv y28, rv b1, own_dv (FP.l2d w0), .second, own_dv (FP.l2d w1), .second, own_dv (FP.l2d w2), .second, own_dv (FP.l2d w3), .second, iv e0', iv e1', iv e2', iv e3', rv b6, .unset, .unset, .unset, .unset, .unset] [(.double (FP.l2d w3)), (.int e3'), (.ref b6)]))
                obtain ⟨v15, T15, L15, X15, Q15, st15⟩ := own_callV X13 hx hZ (y := (⟨"com/example/thinleaf/thinleaf/prune/Nearest", "offer", "(ID)Z"⟩ : MethodName)) (z := (⟨"com/example/thinleaf/thinleaf/prune/Nearest", "offer", "(ID)Z"⟩ : MethodName)) hown (hw _ (List.mem_of_getElem? (i := 26) rfl)) (hw _ (List.mem_of_getElem? (i := 27) rfl)) (notFace_of_selects (args := #[]) (mvT hZ (hw _ (List.mem_of_getElem? (i := 29) rfl)))) (hw _ (List.mem_of_getElem? (i := 29) rfl)) (hw _ (List.mem_of_getElem? (i := 28) rfl)) (hw _ (List.mem_of_getElem? (i := 3) rfl)) (hw _ (List.mem_of_getElem? (i := 30) rfl)) (by decide) (W := 0) (rmO00 l Z a0 hw b6 bn bc kn kc pv e3' w3   T13.heap n0 NB3  hd3 (own_wb hw3)) (by decide) (by decide) rfl (NB3).1 (g := (mkF m 228 #[iv x0, iv x1, iv x2, iv x3, iv 0, iv k0, iv y28, rv b1, own_dv (FP.l2d w0), .second, own_dv (FP.l2d w1), .second, own_dv (FP.l2d w2), .second, own_dv (FP.l2d w3), .second, iv e0', iv e1', iv e2', iv e3', rv b6, .unset, .unset, .unset, .unset, .unset] [(.double (FP.l2d w3)), (.int e3'), (.ref b6)])) rfl (by rw [hml]; rfl) (argsL := [(.int e3'), (.double (FP.l2d w3))]) (rest := []) own_pd3 rfl rfl (by show 2 * 0 + _ ≤ _; exact Nat.le_of_eq rfl) (hb hby at_228) rfl (by decide) (by decide)
                obtain ⟨⟨z15, rfl⟩, Nq15, NB4⟩ := Q15
                replace N0 := Fr.app N0 Nq15
                refine own_st st15 ?_
                show own_Go p e below G (T15.setTop (mkF m 231 #[iv x0, iv x1, iv x2, iv x3, iv 0, iv k0, iv y28, rv b1, own_dv (FP.l2d w0), .second, own_dv (FP.l2d w1), .second, own_dv (FP.l2d w2), .second, own_dv (FP.l2d w3), .second, iv e0', iv e1', iv e2', iv e3', rv b6, .unset, .unset, .unset, .unset, .unset] [(.int z15)]))
                refine own_st (fun t k => XS.pop X15.here hx rfl (hb hby at_231) rfl rfl k) ?_
                refine own_st (fun t k => XS.aload X15.here hx rfl (hb hby at_232) rfl rfl  k) ?_
                show own_Go p e below G (T15.setTop (mkF m 234 #[iv x0, iv x1, iv x2, iv x3, iv 0, iv k0, iv y28, rv b1, own_dv (FP.l2d w0), .second, own_dv (FP.l2d w1), .second, own_dv (FP.l2d w2), .second, own_dv (FP.l2d w3), .second, iv e0', iv e1', iv e2', iv e3', rv b6, .unset, .unset, .unset, .unset, .unset] [(.ref b6)]))
                obtain ⟨v16, T16, L16, X16, Q16, st16⟩ := own_callV X15 hx hZ (y := (⟨"com/example/thinleaf/thinleaf/prune/Nearest", "least", "()D"⟩ : MethodName)) (z := (⟨"com/example/thinleaf/thinleaf/prune/Nearest", "least", "()D"⟩ : MethodName)) hown (hw _ (List.mem_of_getElem? (i := 17) rfl)) (hw _ (List.mem_of_getElem? (i := 18) rfl)) (notFace_of_selects (args := #[]) (mvT hZ (hw _ (List.mem_of_getElem? (i := 20) rfl)))) (hw _ (List.mem_of_getElem? (i := 20) rfl)) (hw _ (List.mem_of_getElem? (i := 19) rfl)) (hw _ (List.mem_of_getElem? (i := 3) rfl)) (hw _ (List.mem_of_getElem? (i := 21) rfl)) (by decide) (W := 0) (rmL00 l Z a0 hw b6 bn bc kn kc pv   T15.heap n0 NB4) (by decide) (by decide) rfl (NB4).1 (g := (mkF m 234 #[iv x0, iv x1, iv x2, iv x3, iv 0, iv k0, iv y28, rv b1, own_dv (FP.l2d w0), .second, own_dv (FP.l2d w1), .second, own_dv (FP.l2d w2), .second, own_dv (FP.l2d w3), .second, iv e0', iv e1', iv e2', iv e3', rv b6, .unset, .unset, .unset, .unset, .unset] [(.ref b6)])) rfl (by rw [hml]; rfl) (argsL := []) (rest := []) own_pd4 rfl rfl (by show 2 * 0 + _ ≤ _; exact Nat.le_of_eq rfl) (hb hby at_234) rfl (by decide) (by decide)
                obtain ⟨rfl, rfl, e16⟩ := Q16
                simp only [List.append_nil, Nat.add_zero] at X16
                refine own_st st16 ?_
                show own_Go p e below G (T16.setTop (mkF m 237 #[iv x0, iv x1, iv x2, iv x3, iv 0, iv k0, iv y28, rv b1, own_dv (FP.l2d w0), .second, own_dv (FP.l2d w1), .second, own_dv (FP.l2d w2), .second, own_dv (FP.l2d w3), .second, iv e0', iv e1', iv e2', iv e3', rv b6, .unset, .unset, .unset, .unset, .unset] [(.double (9218868437227405312 : UInt64))]))
                refine own_st (fun t k => XS.dstore X16.here hx rfl (hb hby at_237) rfl (l' := #[iv x0, iv x1, iv x2, iv x3, iv 0, iv k0, iv y28, rv b1, own_dv (FP.l2d w0), .second, own_dv (FP.l2d w1), .second, own_dv (FP.l2d w2), .second, own_dv (FP.l2d w3), .second, iv e0', iv e1', iv e2', iv e3', rv b6, own_dv (9218868437227405312 : UInt64), .second, .unset, .unset, .unset]) rfl k) ?_
                show own_Go p e below G (T16.setTop (mkF m 239 #[iv x0, iv x1, iv x2, iv x3, iv 0, iv k0, iv y28, rv b1, own_dv (FP.l2d w0), .second, own_dv (FP.l2d w1), .second, own_dv (FP.l2d w2), .second, own_dv (FP.l2d w3), .second, iv e0', iv e1', iv e2', iv e3', rv b6, own_dv (9218868437227405312 : UInt64), .second, .unset, .unset, .unset] []))
                refine own_st (fun t k => XS.iload X16.here hx rfl (hb hby at_239) rfl  k) ?_
                show own_Go p e below G (T16.setTop (mkF m 241 #[iv x0, iv x1, iv x2, iv x3, iv 0, iv k0, iv y28, rv b1, own_dv (FP.l2d w0), .second, own_dv (FP.l2d w1), .second, own_dv (FP.l2d w2), .second, own_dv (FP.l2d w3), .second, iv e0', iv e1', iv e2', iv e3', rv b6, own_dv (9218868437227405312 : UInt64), .second, .unset, .unset, .unset] [(.int (0 : Int32))]))
                refine own_st (fun t k => XS.ifNo X16.here hx rfl (hb hby at_241) rfl ((if0 _ _).trans (teq (by decide)).2) k) ?_
                show own_Go p e below G (T16.setTop (mkF m 244 #[iv x0, iv x1, iv x2, iv x3, iv 0, iv k0, iv y28, rv b1, own_dv (FP.l2d w0), .second, own_dv (FP.l2d w1), .second, own_dv (FP.l2d w2), .second, own_dv (FP.l2d w3), .second, iv e0', iv e1', iv e2', iv e3', rv b6, own_dv (9218868437227405312 : UInt64), .second, .unset, .unset, .unset] []))
                refine own_st (fun t k => X16.ldc2DoubleC hx hown (mvT hZ (hw _ (List.mem_of_getElem? (i := 25) rfl))) (g := (mkF m 244 #[iv x0, iv x1, iv x2, iv x3, iv 0, iv k0, iv y28, rv b1, own_dv (FP.l2d w0), .second, own_dv (FP.l2d w1), .second, own_dv (FP.l2d w2), .second, own_dv (FP.l2d w3), .second, iv e0', iv e1', iv e2', iv e3', rv b6, own_dv (9218868437227405312 : UInt64), .second, .unset, .unset, .unset] [])) rfl (hb hby at_244) t k) ?_
                show own_Go p e below G (T16.setTop (mkF m 247 #[iv x0, iv x1, iv x2, iv x3, iv 0, iv k0, iv y28, rv b1, own_dv (FP.l2d w0), .second, own_dv (FP.l2d w1), .second, own_dv (FP.l2d w2), .second, own_dv (FP.l2d w3), .second, iv e0', iv e1', iv e2', iv e3', rv b6, own_dv (9218868437227405312 : UInt64), .second, .unset, .unset, .unset] [(.double (9218868437227405312 : UInt64))]))
                refine own_st (fun t k => XS.dstore X16.here hx rfl (hb hby at_247) rfl (l' := #[iv x0, iv x1, iv x2, iv x3, iv 0, iv k0, iv y28, rv b1, own_dv (FP.l2d w0), .second, own_dv (FP.l2d w1), .second, own_dv (FP.l2d w2), .second, own_dv (FP.l2d w3), .second, iv e0', iv e1', iv e2', iv e3', rv b6, own_dv (9218868437227405312 : UInt64), .second, own_dv (9218868437227405312 : UInt64), .second, .unset]) rfl k) ?_
                refine own_st (fun t k => XS.goto X16.here hx rfl (pc0 := 249) (pc' := 387) rfl (hb hby at_249) (by decide) (by decide) k) ?_
                refine own_st (fun t k => XS.dload X16.here hx rfl (hb hby at_387) rfl  k) ?_
                show own_Go p e below G (T16.setTop (mkF m 389 #[iv x0, iv x1, iv x2, iv x3, iv 0, iv k0, iv y28, rv b1, own_dv (FP.l2d w0), .second, own_dv (FP.l2d w1), .second, own_dv (FP.l2d w2), .second, own_dv (FP.l2d w3), .second, iv e0', iv e1', iv e2', iv e3', rv b6, own_dv (9218868437227405312 : UInt64), .second, own_dv (9218868437227405312 : UInt64), .second, .unset] [(.double (9218868437227405312 : UInt64))]))
                refine own_st (fun t k => XS.dload X16.here hx rfl (hb hby at_389) rfl  k) ?_
                show own_Go p e below G (T16.setTop (mkF m 391 #[iv x0, iv x1, iv x2, iv x3, iv 0, iv k0, iv y28, rv b1, own_dv (FP.l2d w0), .second, own_dv (FP.l2d w1), .second, own_dv (FP.l2d w2), .second, own_dv (FP.l2d w3), .second, iv e0', iv e1', iv e2', iv e3', rv b6, own_dv (9218868437227405312 : UInt64), .second, own_dv (9218868437227405312 : UInt64), .second, .unset] [(.double (9218868437227405312 : UInt64)), (.double (9218868437227405312 : UInt64))]))
                refine own_st (fun t k => XS.dcmpS X16.here hx rfl (hb hby at_391) rfl (dcmpV_self (by decide +kernel) _) k) ?_
                show own_Go p e below G (T16.setTop (mkF m 392 #[iv x0, iv x1, iv x2, iv x3, iv 0, iv k0, iv y28, rv b1, own_dv (FP.l2d w0), .second, own_dv (FP.l2d w1), .second, own_dv (FP.l2d w2), .second, own_dv (FP.l2d w3), .second, iv e0', iv e1', iv e2', iv e3', rv b6, own_dv (9218868437227405312 : UInt64), .second, own_dv (9218868437227405312 : UInt64), .second, .unset] [(.int (0 : Int32))]))
                refine own_st (fun t k => XS.ifNo X16.here hx rfl (hb hby at_392) rfl ((if0 _ _).trans (teq (by decide)).2) k) ?_
                show own_Go p e below G (T16.setTop (mkF m 395 #[iv x0, iv x1, iv x2, iv x3, iv 0, iv k0, iv y28, rv b1, own_dv (FP.l2d w0), .second, own_dv (FP.l2d w1), .second, own_dv (FP.l2d w2), .second, own_dv (FP.l2d w3), .second, iv e0', iv e1', iv e2', iv e3', rv b6, own_dv (9218868437227405312 : UInt64), .second, own_dv (9218868437227405312 : UInt64), .second, .unset] []))
                refine own_st (fun t k => XS.iconst X16.here hx rfl (hb hby at_395) k) ?_
                refine own_st (fun t k => XS.goto X16.here hx rfl (pc0 := 396) (pc' := 400) rfl (hb hby at_396) (by decide) (by decide) k) ?_
                show own_Go p e below G (T16.setTop (mkF m 400 #[iv x0, iv x1, iv x2, iv x3, iv 0, iv k0, iv y28, rv b1, own_dv (FP.l2d w0), .second, own_dv (FP.l2d w1), .second, own_dv (FP.l2d w2), .second, own_dv (FP.l2d w3), .second, iv e0', iv e1', iv e2', iv e3', rv b6, own_dv (9218868437227405312 : UInt64), .second, own_dv (9218868437227405312 : UInt64), .second, .unset] [(.int (1 : Int32))]))
                rw [hG]
                exact own_retZ X16 hx hlk (t := .boolean) hret (by simp) (hb hby at_400) ⟨rfl, N0⟩ (by decide) (by decide)
              · skip
                refine own_st (fun t k => XS.icmpYes X13.here hx rfl (pc0 := 219) (pc' := 232) rfl (hb hby at_219) rfl (flt c219_14).2.2.2 (by decide) (by decide) k) ?_
                show own_Go p e below G (T13.setTop (mkF m 232 #[iv x0, iv x1, iv x2, iv x3, iv 0, iv k0, iv y28, rv b1, own_dv (FP.l2d w0), .second, own_dv (FP.l2d w1), .second, own_dv (FP.l2d w2), .second, own_dv (FP.l2d w3), .second, iv e0', iv e1', iv e2', iv e3', rv b6, .unset, .unset, .unset, .unset, .unset] []))
                refine own_st (fun t k => XS.aload X13.here hx rfl (hb hby at_232) rfl rfl  k) ?_
                show own_Go p e below G (T13.setTop (mkF m 234 #[iv x0, iv x1, iv x2, iv x3, iv 0, iv k0, iv y28, rv b1, own_dv (FP.l2d w0), .second, own_dv (FP.l2d w1), .second, own_dv (FP.l2d w2), .second, own_dv (FP.l2d w3), .second, iv e0', iv e1', iv e2', iv e3', rv b6, .unset, .unset, .unset, .unset, .unset] [(.ref b6)]))
                obtain ⟨v17, T17, L17, X17, Q17, st17⟩ := own_callV X13 hx hZ (y := (⟨"com/example/thinleaf/thinleaf/prune/Nearest", "least", "()D"⟩ : MethodName)) (z := (⟨"com/example/thinleaf/thinleaf/prune/Nearest", "least", "()D"⟩ : MethodName)) hown (hw _ (List.mem_of_getElem? (i := 17) rfl)) (hw _ (List.mem_of_getElem? (i := 18) rfl)) (notFace_of_selects (args := #[]) (mvT hZ (hw _ (List.mem_of_getElem? (i := 20) rfl)))) (hw _ (List.mem_of_getElem? (i := 20) rfl)) (hw _ (List.mem_of_getElem? (i := 19) rfl)) (hw _ (List.mem_of_getElem? (i := 3) rfl)) (hw _ (List.mem_of_getElem? (i := 21) rfl)) (by decide) (W := 0) (rmL00 l Z a0 hw b6 bn bc kn kc pv   T13.heap n0 NB3) (by decide) (by decide) rfl (NB3).1 (g := (mkF m 234 #[iv x0, iv x1, iv x2, iv x3, iv 0, iv k0, iv y28, rv b1, own_dv (FP.l2d w0), .second, own_dv (FP.l2d w1), .second, own_dv (FP.l2d w2), .second, own_dv (FP.l2d w3), .second, iv e0', iv e1', iv e2', iv e3', rv b6, .unset, .unset, .unset, .unset, .unset] [(.ref b6)])) rfl (by rw [hml]; rfl) (argsL := []) (rest := []) own_pd4 rfl rfl (by show 2 * 0 + _ ≤ _; exact Nat.le_of_eq rfl) (hb hby at_234) rfl (by decide) (by decide)
                obtain ⟨rfl, rfl, e17⟩ := Q17
                simp only [List.append_nil, Nat.add_zero] at X17
                refine own_st st17 ?_
                show own_Go p e below G (T17.setTop (mkF m 237 #[iv x0, iv x1, iv x2, iv x3, iv 0, iv k0, iv y28, rv b1, own_dv (FP.l2d w0), .second, own_dv (FP.l2d w1), .second, own_dv (FP.l2d w2), .second, own_dv (FP.l2d w3), .second, iv e0', iv e1', iv e2', iv e3', rv b6, .unset, .unset, .unset, .unset, .unset] [(.double (9218868437227405312 : UInt64))]))
                refine own_st (fun t k => XS.dstore X17.here hx rfl (hb hby at_237) rfl (l' := #[iv x0, iv x1, iv x2, iv x3, iv 0, iv k0, iv y28, rv b1, own_dv (FP.l2d w0), .second, own_dv (FP.l2d w1), .second, own_dv (FP.l2d w2), .second, own_dv (FP.l2d w3), .second, iv e0', iv e1', iv e2', iv e3', rv b6, own_dv (9218868437227405312 : UInt64), .second, .unset, .unset, .unset]) rfl k) ?_
                show own_Go p e below G (T17.setTop (mkF m 239 #[iv x0, iv x1, iv x2, iv x3, iv 0, iv k0, iv y28, rv b1, own_dv (FP.l2d w0), .second, own_dv (FP.l2d w1), .second, own_dv (FP.l2d w2), .second, own_dv (FP.l2d w3), .second, iv e0', iv e1', iv e2', iv e3', rv b6, own_dv (9218868437227405312 : UInt64), .second, .unset, .unset, .unset] []))
                refine own_st (fun t k => XS.iload X17.here hx rfl (hb hby at_239) rfl  k) ?_
                show own_Go p e below G (T17.setTop (mkF m 241 #[iv x0, iv x1, iv x2, iv x3, iv 0, iv k0, iv y28, rv b1, own_dv (FP.l2d w0), .second, own_dv (FP.l2d w1), .second, own_dv (FP.l2d w2), .second, own_dv (FP.l2d w3), .second, iv e0', iv e1', iv e2', iv e3', rv b6, own_dv (9218868437227405312 : UInt64), .second, .unset, .unset, .unset] [(.int (0 : Int32))]))
                refine own_st (fun t k => XS.ifNo X17.here hx rfl (hb hby at_241) rfl ((if0 _ _).trans (teq (by decide)).2) k) ?_
                show own_Go p e below G (T17.setTop (mkF m 244 #[iv x0, iv x1, iv x2, iv x3, iv 0, iv k0, iv y28, rv b1, own_dv (FP.l2d w0), .second, own_dv (FP.l2d w1), .second, own_dv (FP.l2d w2), .second, own_dv (FP.l2d w3), .second, iv e0', iv e1', iv e2', iv e3', rv b6, own_dv (9218868437227405312 : UInt64), .second, .unset, .unset, .unset] []))
                refine own_st (fun t k => X17.ldc2DoubleC hx hown (mvT hZ (hw _ (List.mem_of_getElem? (i := 25) rfl))) (g := (mkF m 244 #[iv x0, iv x1, iv x2, iv x3, iv 0, iv k0, iv y28, rv b1, own_dv (FP.l2d w0), .second, own_dv (FP.l2d w1), .second, own_dv (FP.l2d w2), .second, own_dv (FP.l2d w3), .second, iv e0', iv e1', iv e2', iv e3', rv b6, own_dv (9218868437227405312 : UInt64), .second, .unset, .unset, .unset] [])) rfl (hb hby at_244) t k) ?_
                show own_Go p e below G (T17.setTop (mkF m 247 #[iv x0, iv x1, iv x2, iv x3, iv 0, iv k0, iv y28, rv b1, own_dv (FP.l2d w0), .second, own_dv (FP.l2d w1), .second, own_dv (FP.l2d w2), .second, own_dv (FP.l2d w3), .second, iv e0', iv e1', iv e2', iv e3', rv b6, own_dv (9218868437227405312 : UInt64), .second, .unset, .unset, .unset] [(.double (9218868437227405312 : UInt64))]))
                refine own_st (fun t k => XS.dstore X17.here hx rfl (hb hby at_247) rfl (l' := #[iv x0, iv x1, iv x2, iv x3, iv 0, iv k0, iv y28, rv b1, own_dv (FP.l2d w0), .second, own_dv (FP.l2d w1), .second, own_dv (FP.l2d w2), .second, own_dv (FP.l2d w3), .second, iv e0', iv e1', iv e2', iv e3', rv b6, own_dv (9218868437227405312 : UInt64), .second, own_dv (9218868437227405312 : UInt64), .second, .unset]) rfl k) ?_
                refine own_st (fun t k => XS.goto X17.here hx rfl (pc0 := 249) (pc' := 387) rfl (hb hby at_249) (by decide) (by decide) k) ?_
                refine own_st (fun t k => XS.dload X17.here hx rfl (hb hby at_387) rfl  k) ?_
                show own_Go p e below G (T17.setTop (mkF m 389 #[iv x0, iv x1, iv x2, iv x3, iv 0, iv k0, iv y28, rv b1, own_dv (FP.l2d w0), .second, own_dv (FP.l2d w1), .second, own_dv (FP.l2d w2), .second, own_dv (FP.l2d w3), .second, iv e0', iv e1', iv e2', iv e3', rv b6, own_dv (9218868437227405312 : UInt64), .second, own_dv (9218868437227405312 : UInt64), .second, .unset] [(.double (9218868437227405312 : UInt64))]))
                refine own_st (fun t k => XS.dload X17.here hx rfl (hb hby at_389) rfl  k) ?_
                show own_Go p e below G (T17.setTop (mkF m 391 #[iv x0, iv x1, iv x2, iv x3, iv 0, iv k0, iv y28, rv b1, own_dv (FP.l2d w0), .second, own_dv (FP.l2d w1), .second, own_dv (FP.l2d w2), .second, own_dv (FP.l2d w3), .second, iv e0', iv e1', iv e2', iv e3', rv b6, own_dv (9218868437227405312 : UInt64), .second, own_dv (9218868437227405312 : UInt64), .second, .unset] [(.double (9218868437227405312 : UInt64)), (.double (9218868437227405312 : UInt64))]))
                refine own_st (fun t k => XS.dcmpS X17.here hx rfl (hb hby at_391) rfl (dcmpV_self (by decide +kernel) _) k) ?_
                show own_Go p e below G (T17.setTop (mkF m 392 #[iv x0, iv x1, iv x2, iv x3, iv 0, iv k0, iv y28, rv b1, own_dv (FP.l2d w0), .second, own_dv (FP.l2d w1), .second, own_dv (FP.l2d w2), .second, own_dv (FP.l2d w3), .second, iv e0', iv e1', iv e2', iv e3', rv b6, own_dv (9218868437227405312 : UInt64), .second, own_dv (9218868437227405312 : UInt64), .second, .unset] [(.int (0 : Int32))]))
                refine own_st (fun t k => XS.ifNo X17.here hx rfl (hb hby at_392) rfl ((if0 _ _).trans (teq (by decide)).2) k) ?_
                show own_Go p e below G (T17.setTop (mkF m 395 #[iv x0, iv x1, iv x2, iv x3, iv 0, iv k0, iv y28, rv b1, own_dv (FP.l2d w0), .second, own_dv (FP.l2d w1), .second, own_dv (FP.l2d w2), .second, own_dv (FP.l2d w3), .second, iv e0', iv e1', iv e2', iv e3', rv b6, own_dv (9218868437227405312 : UInt64), .second, own_dv (9218868437227405312 : UInt64), .second, .unset] []))
                refine own_st (fun t k => XS.iconst X17.here hx rfl (hb hby at_395) k) ?_
                refine own_st (fun t k => XS.goto X17.here hx rfl (pc0 := 396) (pc' := 400) rfl (hb hby at_396) (by decide) (by decide) k) ?_
                show own_Go p e below G (T17.setTop (mkF m 400 #[iv x0, iv x1, iv x2, iv x3, iv 0, iv k0, iv y28, rv b1, own_dv (FP.l2d w0), .second, own_dv (FP.l2d w1), .second, own_dv (FP.l2d w2), .second, own_dv (FP.l2d w3), .second, iv e0', iv e1', iv e2', iv e3', rv b6, own_dv (9218868437227405312 : UInt64), .second, own_dv (9218868437227405312 : UInt64), .second, .unset] [(.int (1 : Int32))]))
                rw [hG]
                exact own_retZ X17 hx hlk (t := .boolean) hret (by simp) (hb hby at_400) ⟨rfl, N0⟩ (by decide) (by decide)
            · skip
              refine own_st (fun t k => XS.icmpYes X11.here hx rfl (pc0 := 203) (pc' := 216) rfl (hb hby at_203) rfl (flt c203_12).2.2.2 (by decide) (by decide) k) ?_
              show own_Go p e below G (T11.setTop (mkF m 216 #[iv x0, iv x1, iv x2, iv x3, iv 0, iv k0, iv y28, rv b1, own_dv (FP.l2d w0), .second, own_dv (FP.l2d w1), .second, own_dv (FP.l2d w2), .second, own_dv (FP.l2d w3), .second, iv e0', iv e1', iv e2', iv e3', rv b6, .unset, .unset, .unset, .unset, .unset] []))
              refine own_st (fun t k => XS.iload X11.here hx rfl (hb hby at_216) rfl  k) ?_
              refine own_st (fun t k => XS.iconst X11.here hx rfl (hb hby at_218) k) ?_
              show own_Go p e below G (T11.setTop (mkF m 219 #[iv x0, iv x1, iv x2, iv x3, iv 0, iv k0, iv y28, rv b1, own_dv (FP.l2d w0), .second, own_dv (FP.l2d w1), .second, own_dv (FP.l2d w2), .second, own_dv (FP.l2d w3), .second, iv e0', iv e1', iv e2', iv e3', rv b6, .unset, .unset, .unset, .unset, .unset] [(.int (3 : Int32)), (.int k0)]))
              refine own_st (fun t k => XS.icmpYes X11.here hx rfl (pc0 := 219) (pc' := 232) rfl (hb hby at_219) rfl (flt (fun q => c203_12 (Int32.lt_trans (by decide) q))).2.2.2 (by decide) (by decide) k) ?_
              show own_Go p e below G (T11.setTop (mkF m 232 #[iv x0, iv x1, iv x2, iv x3, iv 0, iv k0, iv y28, rv b1, own_dv (FP.l2d w0), .second, own_dv (FP.l2d w1), .second, own_dv (FP.l2d w2), .second, own_dv (FP.l2d w3), .second, iv e0', iv e1', iv e2', iv e3', rv b6, .unset, .unset, .unset, .unset, .unset] []))
              refine own_st (fun t k => XS.aload X11.here hx rfl (hb hby at_232) rfl rfl  k) ?_
              show own_Go p e below G (T11.setTop (mkF m 234 #[iv x0, iv x1, iv x2, iv x3, iv 0, iv k0, iv y28, rv b1, own_dv (FP.l2d w0), .second, own_dv (FP.l2d w1), .second, own_dv (FP.l2d w2), .second, own_dv (FP.l2d w3), .second, iv e0', iv e1', iv e2', iv e3', rv b6, .unset, .unset, .unset, .unset, .unset] [(.ref b6)]))
              obtain ⟨v18, T18, L18, X18, Q18, st18⟩ := own_callV X11 hx hZ (y := (⟨"com/example/thinleaf/thinleaf/prune/Nearest", "least", "()D"⟩ : MethodName)) (z := (⟨"com/example/thinleaf/thinleaf/prune/Nearest", "least", "()D"⟩ : MethodName)) hown (hw _ (List.mem_of_getElem? (i := 17) rfl)) (hw _ (List.mem_of_getElem? (i := 18) rfl)) (notFace_of_selects (args := #[]) (mvT hZ (hw _ (List.mem_of_getElem? (i := 20) rfl)))) (hw _ (List.mem_of_getElem? (i := 20) rfl)) (hw _ (List.mem_of_getElem? (i := 19) rfl)) (hw _ (List.mem_of_getElem? (i := 3) rfl)) (hw _ (List.mem_of_getElem? (i := 21) rfl)) (by decide) (W := 0) (rmL00 l Z a0 hw b6 bn bc kn kc pv   T11.heap n0 NB2) (by decide) (by decide) rfl (NB2).1 (g := (mkF m 234 #[iv x0, iv x1, iv x2, iv x3, iv 0, iv k0, iv y28, rv b1, own_dv (FP.l2d w0), .second, own_dv (FP.l2d w1), .second, own_dv (FP.l2d w2), .second, own_dv (FP.l2d w3), .second, iv e0', iv e1', iv e2', iv e3', rv b6, .unset, .unset, .unset, .unset, .unset] [(.ref b6)])) rfl (by rw [hml]; rfl) (argsL := []) (rest := []) own_pd4 rfl rfl (by show 2 * 0 + _ ≤ _; exact Nat.le_of_eq rfl) (hb hby at_234) rfl (by decide) (by decide)
              obtain ⟨rfl, rfl, e18⟩ := Q18
              simp only [List.append_nil, Nat.add_zero] at X18
              refine own_st st18 ?_
              show own_Go p e below G (T18.setTop (mkF m 237 #[iv x0, iv x1, iv x2, iv x3, iv 0, iv k0, iv y28, rv b1, own_dv (FP.l2d w0), .second, own_dv (FP.l2d w1), .second, own_dv (FP.l2d w2), .second, own_dv (FP.l2d w3), .second, iv e0', iv e1', iv e2', iv e3', rv b6, .unset, .unset, .unset, .unset, .unset] [(.double (9218868437227405312 : UInt64))]))
              refine own_st (fun t k => XS.dstore X18.here hx rfl (hb hby at_237) rfl (l' := #[iv x0, iv x1, iv x2, iv x3, iv 0, iv k0, iv y28, rv b1, own_dv (FP.l2d w0), .second, own_dv (FP.l2d w1), .second, own_dv (FP.l2d w2), .second, own_dv (FP.l2d w3), .second, iv e0', iv e1', iv e2', iv e3', rv b6, own_dv (9218868437227405312 : UInt64), .second, .unset, .unset, .unset]) rfl k) ?_
              show own_Go p e below G (T18.setTop (mkF m 239 #[iv x0, iv x1, iv x2, iv x3, iv 0, iv k0, iv y28, rv b1, own_dv (FP.l2d w0), .second, own_dv (FP.l2d w1), .second, own_dv (FP.l2d w2), .second, own_dv (FP.l2d w3), .second, iv e0', iv e1', iv e2', iv e3', rv b6, own_dv (9218868437227405312 : UInt64), .second, .unset, .unset, .unset] []))
              refine own_st (fun t k => XS.iload X18.here hx rfl (hb hby at_239) rfl  k) ?_
              show own_Go p e below G (T18.setTop (mkF m 241 #[iv x0, iv x1, iv x2, iv x3, iv 0, iv k0, iv y28, rv b1, own_dv (FP.l2d w0), .second, own_dv (FP.l2d w1), .second, own_dv (FP.l2d w2), .second, own_dv (FP.l2d w3), .second, iv e0', iv e1', iv e2', iv e3', rv b6, own_dv (9218868437227405312 : UInt64), .second, .unset, .unset, .unset] [(.int (0 : Int32))]))
              refine own_st (fun t k => XS.ifNo X18.here hx rfl (hb hby at_241) rfl ((if0 _ _).trans (teq (by decide)).2) k) ?_
              show own_Go p e below G (T18.setTop (mkF m 244 #[iv x0, iv x1, iv x2, iv x3, iv 0, iv k0, iv y28, rv b1, own_dv (FP.l2d w0), .second, own_dv (FP.l2d w1), .second, own_dv (FP.l2d w2), .second, own_dv (FP.l2d w3), .second, iv e0', iv e1', iv e2', iv e3', rv b6, own_dv (9218868437227405312 : UInt64), .second, .unset, .unset, .unset] []))
              refine own_st (fun t k => X18.ldc2DoubleC hx hown (mvT hZ (hw _ (List.mem_of_getElem? (i := 25) rfl))) (g := (mkF m 244 #[iv x0, iv x1, iv x2, iv x3, iv 0, iv k0, iv y28, rv b1, own_dv (FP.l2d w0), .second, own_dv (FP.l2d w1), .second, own_dv (FP.l2d w2), .second, own_dv (FP.l2d w3), .second, iv e0', iv e1', iv e2', iv e3', rv b6, own_dv (9218868437227405312 : UInt64), .second, .unset, .unset, .unset] [])) rfl (hb hby at_244) t k) ?_
              show own_Go p e below G (T18.setTop (mkF m 247 #[iv x0, iv x1, iv x2, iv x3, iv 0, iv k0, iv y28, rv b1, own_dv (FP.l2d w0), .second, own_dv (FP.l2d w1), .second, own_dv (FP.l2d w2), .second, own_dv (FP.l2d w3), .second, iv e0', iv e1', iv e2', iv e3', rv b6, own_dv (9218868437227405312 : UInt64), .second, .unset, .unset, .unset] [(.double (9218868437227405312 : UInt64))]))
              refine own_st (fun t k => XS.dstore X18.here hx rfl (hb hby at_247) rfl (l' := #[iv x0, iv x1, iv x2, iv x3, iv 0, iv k0, iv y28, rv b1, own_dv (FP.l2d w0), .second, own_dv (FP.l2d w1), .second, own_dv (FP.l2d w2), .second, own_dv (FP.l2d w3), .second, iv e0', iv e1', iv e2', iv e3', rv b6, own_dv (9218868437227405312 : UInt64), .second, own_dv (9218868437227405312 : UInt64), .second, .unset]) rfl k) ?_
              refine own_st (fun t k => XS.goto X18.here hx rfl (pc0 := 249) (pc' := 387) rfl (hb hby at_249) (by decide) (by decide) k) ?_
              refine own_st (fun t k => XS.dload X18.here hx rfl (hb hby at_387) rfl  k) ?_
              show own_Go p e below G (T18.setTop (mkF m 389 #[iv x0, iv x1, iv x2, iv x3, iv 0, iv k0, iv y28, rv b1, own_dv (FP.l2d w0), .second, own_dv (FP.l2d w1), .second, own_dv (FP.l2d w2), .second, own_dv (FP.l2d w3), .second, iv e0', iv e1', iv e2', iv e3', rv b6, own_dv (9218868437227405312 : UInt64), .second, own_dv (9218868437227405312 : UInt64), .second, .unset] [(.double (9218868437227405312 : UInt64))]))
              refine own_st (fun t k => XS.dload X18.here hx rfl (hb hby at_389) rfl  k) ?_
              show own_Go p e below G (T18.setTop (mkF m 391 #[iv x0, iv x1, iv x2, iv x3, iv 0, iv k0, iv y28, rv b1, own_dv (FP.l2d w0), .second, own_dv (FP.l2d w1), .second, own_dv (FP.l2d w2), .second, own_dv (FP.l2d w3), .second, iv e0', iv e1', iv e2', iv e3', rv b6, own_dv (9218868437227405312 : UInt64), .second, own_dv (9218868437227405312 : UInt64), .second, .unset] [(.double (9218868437227405312 : UInt64)), (.double (9218868437227405312 : UInt64))]))
              refine own_st (fun t k => XS.dcmpS X18.here hx rfl (hb hby at_391) rfl (dcmpV_self (by decide +kernel) _) k) ?_
              show own_Go p e below G (T18.setTop (mkF m 392 #[iv x0, iv x1, iv x2, iv x3, iv 0, iv k0, iv y28, rv b1, own_dv (FP.l2d w0), .second, own_dv (FP.l2d w1), .second, own_dv (FP.l2d w2), .second, own_dv (FP.l2d w3), .second, iv e0', iv e1', iv e2', iv e3', rv b6, own_dv (9218868437227405312 : UInt64), .second, own_dv (9218868437227405312 : UInt64), .second, .unset] [(.int (0 : Int32))]))
              refine own_st (fun t k => XS.ifNo X18.here hx rfl (hb hby at_392) rfl ((if0 _ _).trans (teq (by decide)).2) k) ?_
              show own_Go p e below G (T18.setTop (mkF m 395 #[iv x0, iv x1, iv x2, iv x3, iv 0, iv k0, iv y28, rv b1, own_dv (FP.l2d w0), .second, own_dv (FP.l2d w1), .second, own_dv (FP.l2d w2), .second, own_dv (FP.l2d w3), .second, iv e0', iv e1', iv e2', iv e3', rv b6, own_dv (9218868437227405312 : UInt64), .second, own_dv (9218868437227405312 : UInt64), .second, .unset] []))
              refine own_st (fun t k => XS.iconst X18.here hx rfl (hb hby at_395) k) ?_
              refine own_st (fun t k => XS.goto X18.here hx rfl (pc0 := 396) (pc' := 400) rfl (hb hby at_396) (by decide) (by decide) k) ?_
              show own_Go p e below G (T18.setTop (mkF m 400 #[iv x0, iv x1, iv x2, iv x3, iv 0, iv k0, iv y28, rv b1, own_dv (FP.l2d w0), .second, own_dv (FP.l2d w1), .second, own_dv (FP.l2d w2), .second, own_dv (FP.l2d w3), .second, iv e0', iv e1', iv e2', iv e3', rv b6, own_dv (9218868437227405312 : UInt64), .second, own_dv (9218868437227405312 : UInt64), .second, .unset] [(.int (1 : Int32))]))
              rw [hG]
              exact own_retZ X18 hx hlk (t := .boolean) hret (by simp) (hb hby at_400) ⟨rfl, N0⟩ (by decide) (by decide)
          · skip
            refine own_st (fun t k => XS.icmpYes X9.here hx rfl (pc0 := 187) (pc' := 200) rfl (hb hby at_187) rfl (flt c187_10).2.2.2 (by decide) (by decide) k) ?_
            show own_Go p e below G (T9.setTop (mkF m 200 #[iv x0, iv x1, iv x2, iv x3, iv 0, iv k0, iv y28, rv b1, own_dv (FP.l2d w0), .second, own_dv (FP.l2d w1), .second, own_dv (FP.l2d w2), .second, own_dv (FP.l2d w3), .second, iv e0', iv e1', iv e2', iv e3', rv b6, .unset, .unset, .unset, .unset, .unset] []))
            refine own_st (fun t k => XS.iload X9.here hx rfl (hb hby at_200) rfl  k) ?_
            refine own_st (fun t k => XS.iconst X9.here hx rfl (hb hby at_202) k) ?_
            show own_Go p e below G (T9.setTop (mkF m 203 #[iv x0, iv x1, iv x2, iv x3, iv 0, iv k0, iv y28, rv b1, own_dv (FP.l2d w0), .second, own_dv (FP.l2d w1), .second, own_dv (FP.l2d w2), .second, own_dv (FP.l2d w3), .second, iv e0', iv e1', iv e2', iv e3', rv b6, .unset, .unset, .unset, .unset, .unset] [(.int (2 : Int32)), (.int k0)]))
            refine own_st (fun t k => XS.icmpYes X9.here hx rfl (pc0 := 203) (pc' := 216) rfl (hb hby at_203) rfl (flt (fun q => c187_10 (Int32.lt_trans (by decide) q))).2.2.2 (by decide) (by decide) k) ?_
            show own_Go p e below G (T9.setTop (mkF m 216 #[iv x0, iv x1, iv x2, iv x3, iv 0, iv k0, iv y28, rv b1, own_dv (FP.l2d w0), .second, own_dv (FP.l2d w1), .second, own_dv (FP.l2d w2), .second, own_dv (FP.l2d w3), .second, iv e0', iv e1', iv e2', iv e3', rv b6, .unset, .unset, .unset, .unset, .unset] []))
            refine own_st (fun t k => XS.iload X9.here hx rfl (hb hby at_216) rfl  k) ?_
            refine own_st (fun t k => XS.iconst X9.here hx rfl (hb hby at_218) k) ?_
            show own_Go p e below G (T9.setTop (mkF m 219 #[iv x0, iv x1, iv x2, iv x3, iv 0, iv k0, iv y28, rv b1, own_dv (FP.l2d w0), .second, own_dv (FP.l2d w1), .second, own_dv (FP.l2d w2), .second, own_dv (FP.l2d w3), .second, iv e0', iv e1', iv e2', iv e3', rv b6, .unset, .unset, .unset, .unset, .unset] [(.int (3 : Int32)), (.int k0)]))
            refine own_st (fun t k => XS.icmpYes X9.here hx rfl (pc0 := 219) (pc' := 232) rfl (hb hby at_219) rfl (flt (fun q => c187_10 (Int32.lt_trans (by decide) q))).2.2.2 (by decide) (by decide) k) ?_
            show own_Go p e below G (T9.setTop (mkF m 232 #[iv x0, iv x1, iv x2, iv x3, iv 0, iv k0, iv y28, rv b1, own_dv (FP.l2d w0), .second, own_dv (FP.l2d w1), .second, own_dv (FP.l2d w2), .second, own_dv (FP.l2d w3), .second, iv e0', iv e1', iv e2', iv e3', rv b6, .unset, .unset, .unset, .unset, .unset] []))
            refine own_st (fun t k => XS.aload X9.here hx rfl (hb hby at_232) rfl rfl  k) ?_
            show own_Go p e below G (T9.setTop (mkF m 234 #[iv x0, iv x1, iv x2, iv x3, iv 0, iv k0, iv y28, rv b1, own_dv (FP.l2d w0), .second, own_dv (FP.l2d w1), .second, own_dv (FP.l2d w2), .second, own_dv (FP.l2d w3), .second, iv e0', iv e1', iv e2', iv e3', rv b6, .unset, .unset, .unset, .unset, .unset] [(.ref b6)]))
            obtain ⟨v19, T19, L19, X19, Q19, st19⟩ := own_callV X9 hx hZ (y := (⟨"com/example/thinleaf/thinleaf/prune/Nearest", "least", "()D"⟩ : MethodName)) (z := (⟨"com/example/thinleaf/thinleaf/prune/Nearest", "least", "()D"⟩ : MethodName)) hown (hw _ (List.mem_of_getElem? (i := 17) rfl)) (hw _ (List.mem_of_getElem? (i := 18) rfl)) (notFace_of_selects (args := #[]) (mvT hZ (hw _ (List.mem_of_getElem? (i := 20) rfl)))) (hw _ (List.mem_of_getElem? (i := 20) rfl)) (hw _ (List.mem_of_getElem? (i := 19) rfl)) (hw _ (List.mem_of_getElem? (i := 3) rfl)) (hw _ (List.mem_of_getElem? (i := 21) rfl)) (by decide) (W := 0) (rmL00 l Z a0 hw b6 bn bc kn kc pv   T9.heap n0 NB1) (by decide) (by decide) rfl (NB1).1 (g := (mkF m 234 #[iv x0, iv x1, iv x2, iv x3, iv 0, iv k0, iv y28, rv b1, own_dv (FP.l2d w0), .second, own_dv (FP.l2d w1), .second, own_dv (FP.l2d w2), .second, own_dv (FP.l2d w3), .second, iv e0', iv e1', iv e2', iv e3', rv b6, .unset, .unset, .unset, .unset, .unset] [(.ref b6)])) rfl (by rw [hml]; rfl) (argsL := []) (rest := []) own_pd4 rfl rfl (by show 2 * 0 + _ ≤ _; exact Nat.le_of_eq rfl) (hb hby at_234) rfl (by decide) (by decide)
            obtain ⟨rfl, rfl, e19⟩ := Q19
            simp only [List.append_nil, Nat.add_zero] at X19
            refine own_st st19 ?_
            show own_Go p e below G (T19.setTop (mkF m 237 #[iv x0, iv x1, iv x2, iv x3, iv 0, iv k0, iv y28, rv b1, own_dv (FP.l2d w0), .second, own_dv (FP.l2d w1), .second, own_dv (FP.l2d w2), .second, own_dv (FP.l2d w3), .second, iv e0', iv e1', iv e2', iv e3', rv b6, .unset, .unset, .unset, .unset, .unset] [(.double (9218868437227405312 : UInt64))]))
            refine own_st (fun t k => XS.dstore X19.here hx rfl (hb hby at_237) rfl (l' := #[iv x0, iv x1, iv x2, iv x3, iv 0, iv k0, iv y28, rv b1, own_dv (FP.l2d w0), .second, own_dv (FP.l2d w1), .second, own_dv (FP.l2d w2), .second, own_dv (FP.l2d w3), .second, iv e0', iv e1', iv e2', iv e3', rv b6, own_dv (9218868437227405312 : UInt64), .second, .unset, .unset, .unset]) rfl k) ?_
            show own_Go p e below G (T19.setTop (mkF m 239 #[iv x0, iv x1, iv x2, iv x3, iv 0, iv k0, iv y28, rv b1, own_dv (FP.l2d w0), .second, own_dv (FP.l2d w1), .second, own_dv (FP.l2d w2), .second, own_dv (FP.l2d w3), .second, iv e0', iv e1', iv e2', iv e3', rv b6, own_dv (9218868437227405312 : UInt64), .second, .unset, .unset, .unset] []))
            refine own_st (fun t k => XS.iload X19.here hx rfl (hb hby at_239) rfl  k) ?_
            show own_Go p e below G (T19.setTop (mkF m 241 #[iv x0, iv x1, iv x2, iv x3, iv 0, iv k0, iv y28, rv b1, own_dv (FP.l2d w0), .second, own_dv (FP.l2d w1), .second, own_dv (FP.l2d w2), .second, own_dv (FP.l2d w3), .second, iv e0', iv e1', iv e2', iv e3', rv b6, own_dv (9218868437227405312 : UInt64), .second, .unset, .unset, .unset] [(.int (0 : Int32))]))
            refine own_st (fun t k => XS.ifNo X19.here hx rfl (hb hby at_241) rfl ((if0 _ _).trans (teq (by decide)).2) k) ?_
            show own_Go p e below G (T19.setTop (mkF m 244 #[iv x0, iv x1, iv x2, iv x3, iv 0, iv k0, iv y28, rv b1, own_dv (FP.l2d w0), .second, own_dv (FP.l2d w1), .second, own_dv (FP.l2d w2), .second, own_dv (FP.l2d w3), .second, iv e0', iv e1', iv e2', iv e3', rv b6, own_dv (9218868437227405312 : UInt64), .second, .unset, .unset, .unset] []))
            refine own_st (fun t k => X19.ldc2DoubleC hx hown (mvT hZ (hw _ (List.mem_of_getElem? (i := 25) rfl))) (g := (mkF m 244 #[iv x0, iv x1, iv x2, iv x3, iv 0, iv k0, iv y28, rv b1, own_dv (FP.l2d w0), .second, own_dv (FP.l2d w1), .second, own_dv (FP.l2d w2), .second, own_dv (FP.l2d w3), .second, iv e0', iv e1', iv e2', iv e3', rv b6, own_dv (9218868437227405312 : UInt64), .second, .unset, .unset, .unset] [])) rfl (hb hby at_244) t k) ?_
            show own_Go p e below G (T19.setTop (mkF m 247 #[iv x0, iv x1, iv x2, iv x3, iv 0, iv k0, iv y28, rv b1, own_dv (FP.l2d w0), .second, own_dv (FP.l2d w1), .second, own_dv (FP.l2d w2), .second, own_dv (FP.l2d w3), .second, iv e0', iv e1', iv e2', iv e3', rv b6, own_dv (9218868437227405312 : UInt64), .second, .unset, .unset, .unset] [(.double (9218868437227405312 : UInt64))]))
            refine own_st (fun t k => XS.dstore X19.here hx rfl (hb hby at_247) rfl (l' := #[iv x0, iv x1, iv x2, iv x3, iv 0, iv k0, iv y28, rv b1, own_dv (FP.l2d w0), .second, own_dv (FP.l2d w1), .second, own_dv (FP.l2d w2), .second, own_dv (FP.l2d w3), .second, iv e0', iv e1', iv e2', iv e3', rv b6, own_dv (9218868437227405312 : UInt64), .second, own_dv (9218868437227405312 : UInt64), .second, .unset]) rfl k) ?_
            refine own_st (fun t k => XS.goto X19.here hx rfl (pc0 := 249) (pc' := 387) rfl (hb hby at_249) (by decide) (by decide) k) ?_
            refine own_st (fun t k => XS.dload X19.here hx rfl (hb hby at_387) rfl  k) ?_
            show own_Go p e below G (T19.setTop (mkF m 389 #[iv x0, iv x1, iv x2, iv x3, iv 0, iv k0, iv y28, rv b1, own_dv (FP.l2d w0), .second, own_dv (FP.l2d w1), .second, own_dv (FP.l2d w2), .second, own_dv (FP.l2d w3), .second, iv e0', iv e1', iv e2', iv e3', rv b6, own_dv (9218868437227405312 : UInt64), .second, own_dv (9218868437227405312 : UInt64), .second, .unset] [(.double (9218868437227405312 : UInt64))]))
            refine own_st (fun t k => XS.dload X19.here hx rfl (hb hby at_389) rfl  k) ?_
            show own_Go p e below G (T19.setTop (mkF m 391 #[iv x0, iv x1, iv x2, iv x3, iv 0, iv k0, iv y28, rv b1, own_dv (FP.l2d w0), .second, own_dv (FP.l2d w1), .second, own_dv (FP.l2d w2), .second, own_dv (FP.l2d w3), .second, iv e0', iv e1', iv e2', iv e3', rv b6, own_dv (9218868437227405312 : UInt64), .second, own_dv (9218868437227405312 : UInt64), .second, .unset] [(.double (9218868437227405312 : UInt64)), (.double (9218868437227405312 : UInt64))]))
            refine own_st (fun t k => XS.dcmpS X19.here hx rfl (hb hby at_391) rfl (dcmpV_self (by decide +kernel) _) k) ?_
            show own_Go p e below G (T19.setTop (mkF m 392 #[iv x0, iv x1, iv x2, iv x3, iv 0, iv k0, iv y28, rv b1, own_dv (FP.l2d w0), .second, own_dv (FP.l2d w1), .second, own_dv (FP.l2d w2), .second, own_dv (FP.l2d w3), .second, iv e0', iv e1', iv e2', iv e3', rv b6, own_dv (9218868437227405312 : UInt64), .second, own_dv (9218868437227405312 : UInt64), .second, .unset] [(.int (0 : Int32))]))
            refine own_st (fun t k => XS.ifNo X19.here hx rfl (hb hby at_392) rfl ((if0 _ _).trans (teq (by decide)).2) k) ?_
            show own_Go p e below G (T19.setTop (mkF m 395 #[iv x0, iv x1, iv x2, iv x3, iv 0, iv k0, iv y28, rv b1, own_dv (FP.l2d w0), .second, own_dv (FP.l2d w1), .second, own_dv (FP.l2d w2), .second, own_dv (FP.l2d w3), .second, iv e0', iv e1', iv e2', iv e3', rv b6, own_dv (9218868437227405312 : UInt64), .second, own_dv (9218868437227405312 : UInt64), .second, .unset] []))
            refine own_st (fun t k => XS.iconst X19.here hx rfl (hb hby at_395) k) ?_
            refine own_st (fun t k => XS.goto X19.here hx rfl (pc0 := 396) (pc' := 400) rfl (hb hby at_396) (by decide) (by decide) k) ?_
            show own_Go p e below G (T19.setTop (mkF m 400 #[iv x0, iv x1, iv x2, iv x3, iv 0, iv k0, iv y28, rv b1, own_dv (FP.l2d w0), .second, own_dv (FP.l2d w1), .second, own_dv (FP.l2d w2), .second, own_dv (FP.l2d w3), .second, iv e0', iv e1', iv e2', iv e3', rv b6, own_dv (9218868437227405312 : UInt64), .second, own_dv (9218868437227405312 : UInt64), .second, .unset] [(.int (1 : Int32))]))
            rw [hG]
            exact own_retZ X19 hx hlk (t := .boolean) hret (by simp) (hb hby at_400) ⟨rfl, N0⟩ (by decide) (by decide)
        · skip
          refine own_st (fun t k => XS.ifYes X7.here hx rfl (pc0 := 171) (pc' := 184) rfl (hb hby at_171) rfl ((if0 _ _).trans (flt c171_8).2.2.2) (by decide) (by decide) k) ?_
          show own_Go p e below G (T7.setTop (mkF m 184 #[iv x0, iv x1, iv x2, iv x3, iv 0, iv k0, iv y28, rv b1, own_dv (FP.l2d w0), .second, own_dv (FP.l2d w1), .second, own_dv (FP.l2d w2), .second, own_dv (FP.l2d w3), .second, iv e0', iv e1', iv e2', iv e3', rv b6, .unset, .unset, .unset, .unset, .unset] []))
          refine own_st (fun t k => XS.iload X7.here hx rfl (hb hby at_184) rfl  k) ?_
          refine own_st (fun t k => XS.iconst X7.here hx rfl (hb hby at_186) k) ?_
          show own_Go p e below G (T7.setTop (mkF m 187 #[iv x0, iv x1, iv x2, iv x3, iv 0, iv k0, iv y28, rv b1, own_dv (FP.l2d w0), .second, own_dv (FP.l2d w1), .second, own_dv (FP.l2d w2), .second, own_dv (FP.l2d w3), .second, iv e0', iv e1', iv e2', iv e3', rv b6, .unset, .unset, .unset, .unset, .unset] [(.int (1 : Int32)), (.int k0)]))
          refine own_st (fun t k => XS.icmpYes X7.here hx rfl (pc0 := 187) (pc' := 200) rfl (hb hby at_187) rfl (flt (fun q => c171_8 (Int32.lt_trans (by decide) q))).2.2.2 (by decide) (by decide) k) ?_
          show own_Go p e below G (T7.setTop (mkF m 200 #[iv x0, iv x1, iv x2, iv x3, iv 0, iv k0, iv y28, rv b1, own_dv (FP.l2d w0), .second, own_dv (FP.l2d w1), .second, own_dv (FP.l2d w2), .second, own_dv (FP.l2d w3), .second, iv e0', iv e1', iv e2', iv e3', rv b6, .unset, .unset, .unset, .unset, .unset] []))
          refine own_st (fun t k => XS.iload X7.here hx rfl (hb hby at_200) rfl  k) ?_
          refine own_st (fun t k => XS.iconst X7.here hx rfl (hb hby at_202) k) ?_
          show own_Go p e below G (T7.setTop (mkF m 203 #[iv x0, iv x1, iv x2, iv x3, iv 0, iv k0, iv y28, rv b1, own_dv (FP.l2d w0), .second, own_dv (FP.l2d w1), .second, own_dv (FP.l2d w2), .second, own_dv (FP.l2d w3), .second, iv e0', iv e1', iv e2', iv e3', rv b6, .unset, .unset, .unset, .unset, .unset] [(.int (2 : Int32)), (.int k0)]))
          refine own_st (fun t k => XS.icmpYes X7.here hx rfl (pc0 := 203) (pc' := 216) rfl (hb hby at_203) rfl (flt (fun q => c171_8 (Int32.lt_trans (by decide) q))).2.2.2 (by decide) (by decide) k) ?_
          show own_Go p e below G (T7.setTop (mkF m 216 #[iv x0, iv x1, iv x2, iv x3, iv 0, iv k0, iv y28, rv b1, own_dv (FP.l2d w0), .second, own_dv (FP.l2d w1), .second, own_dv (FP.l2d w2), .second, own_dv (FP.l2d w3), .second, iv e0', iv e1', iv e2', iv e3', rv b6, .unset, .unset, .unset, .unset, .unset] []))
          refine own_st (fun t k => XS.iload X7.here hx rfl (hb hby at_216) rfl  k) ?_
          refine own_st (fun t k => XS.iconst X7.here hx rfl (hb hby at_218) k) ?_
          show own_Go p e below G (T7.setTop (mkF m 219 #[iv x0, iv x1, iv x2, iv x3, iv 0, iv k0, iv y28, rv b1, own_dv (FP.l2d w0), .second, own_dv (FP.l2d w1), .second, own_dv (FP.l2d w2), .second, own_dv (FP.l2d w3), .second, iv e0', iv e1', iv e2', iv e3', rv b6, .unset, .unset, .unset, .unset, .unset] [(.int (3 : Int32)), (.int k0)]))
          refine own_st (fun t k => XS.icmpYes X7.here hx rfl (pc0 := 219) (pc' := 232) rfl (hb hby at_219) rfl (flt (fun q => c171_8 (Int32.lt_trans (by decide) q))).2.2.2 (by decide) (by decide) k) ?_
          show own_Go p e below G (T7.setTop (mkF m 232 #[iv x0, iv x1, iv x2, iv x3, iv 0, iv k0, iv y28, rv b1, own_dv (FP.l2d w0), .second, own_dv (FP.l2d w1), .second, own_dv (FP.l2d w2), .second, own_dv (FP.l2d w3), .second, iv e0', iv e1', iv e2', iv e3', rv b6, .unset, .unset, .unset, .unset, .unset] []))
          refine own_st (fun t k => XS.aload X7.here hx rfl (hb hby at_232) rfl rfl  k) ?_
          show own_Go p e below G (T7.setTop (mkF m 234 #[iv x0, iv x1, iv x2, iv x3, iv 0, iv k0, iv y28, rv b1, own_dv (FP.l2d w0), .second, own_dv (FP.l2d w1), .second, own_dv (FP.l2d w2), .second, own_dv (FP.l2d w3), .second, iv e0', iv e1', iv e2', iv e3', rv b6, .unset, .unset, .unset, .unset, .unset] [(.ref b6)]))
          obtain ⟨v20, T20, L20, X20, Q20, st20⟩ := own_callV X7 hx hZ (y := (⟨"com/example/thinleaf/thinleaf/prune/Nearest", "least", "()D"⟩ : MethodName)) (z := (⟨"com/example/thinleaf/thinleaf/prune/Nearest", "least", "()D"⟩ : MethodName)) hown (hw _ (List.mem_of_getElem? (i := 17) rfl)) (hw _ (List.mem_of_getElem? (i := 18) rfl)) (notFace_of_selects (args := #[]) (mvT hZ (hw _ (List.mem_of_getElem? (i := 20) rfl)))) (hw _ (List.mem_of_getElem? (i := 20) rfl)) (hw _ (List.mem_of_getElem? (i := 19) rfl)) (hw _ (List.mem_of_getElem? (i := 3) rfl)) (hw _ (List.mem_of_getElem? (i := 21) rfl)) (by decide) (W := 0) (rmL00 l Z a0 hw b6 bn bc kn kc pv   T7.heap n0 NB0) (by decide) (by decide) rfl (NB0).1 (g := (mkF m 234 #[iv x0, iv x1, iv x2, iv x3, iv 0, iv k0, iv y28, rv b1, own_dv (FP.l2d w0), .second, own_dv (FP.l2d w1), .second, own_dv (FP.l2d w2), .second, own_dv (FP.l2d w3), .second, iv e0', iv e1', iv e2', iv e3', rv b6, .unset, .unset, .unset, .unset, .unset] [(.ref b6)])) rfl (by rw [hml]; rfl) (argsL := []) (rest := []) own_pd4 rfl rfl (by show 2 * 0 + _ ≤ _; exact Nat.le_of_eq rfl) (hb hby at_234) rfl (by decide) (by decide)
          obtain ⟨rfl, rfl, e20⟩ := Q20
          simp only [List.append_nil, Nat.add_zero] at X20
          refine own_st st20 ?_
          show own_Go p e below G (T20.setTop (mkF m 237 #[iv x0, iv x1, iv x2, iv x3, iv 0, iv k0, iv y28, rv b1, own_dv (FP.l2d w0), .second, own_dv (FP.l2d w1), .second, own_dv (FP.l2d w2), .second, own_dv (FP.l2d w3), .second, iv e0', iv e1', iv e2', iv e3', rv b6, .unset, .unset, .unset, .unset, .unset] [(.double (9218868437227405312 : UInt64))]))
          refine own_st (fun t k => XS.dstore X20.here hx rfl (hb hby at_237) rfl (l' := #[iv x0, iv x1, iv x2, iv x3, iv 0, iv k0, iv y28, rv b1, own_dv (FP.l2d w0), .second, own_dv (FP.l2d w1), .second, own_dv (FP.l2d w2), .second, own_dv (FP.l2d w3), .second, iv e0', iv e1', iv e2', iv e3', rv b6, own_dv (9218868437227405312 : UInt64), .second, .unset, .unset, .unset]) rfl k) ?_
          show own_Go p e below G (T20.setTop (mkF m 239 #[iv x0, iv x1, iv x2, iv x3, iv 0, iv k0, iv y28, rv b1, own_dv (FP.l2d w0), .second, own_dv (FP.l2d w1), .second, own_dv (FP.l2d w2), .second, own_dv (FP.l2d w3), .second, iv e0', iv e1', iv e2', iv e3', rv b6, own_dv (9218868437227405312 : UInt64), .second, .unset, .unset, .unset] []))
          refine own_st (fun t k => XS.iload X20.here hx rfl (hb hby at_239) rfl  k) ?_
          show own_Go p e below G (T20.setTop (mkF m 241 #[iv x0, iv x1, iv x2, iv x3, iv 0, iv k0, iv y28, rv b1, own_dv (FP.l2d w0), .second, own_dv (FP.l2d w1), .second, own_dv (FP.l2d w2), .second, own_dv (FP.l2d w3), .second, iv e0', iv e1', iv e2', iv e3', rv b6, own_dv (9218868437227405312 : UInt64), .second, .unset, .unset, .unset] [(.int (0 : Int32))]))
          refine own_st (fun t k => XS.ifNo X20.here hx rfl (hb hby at_241) rfl ((if0 _ _).trans (teq (by decide)).2) k) ?_
          show own_Go p e below G (T20.setTop (mkF m 244 #[iv x0, iv x1, iv x2, iv x3, iv 0, iv k0, iv y28, rv b1, own_dv (FP.l2d w0), .second, own_dv (FP.l2d w1), .second, own_dv (FP.l2d w2), .second, own_dv (FP.l2d w3), .second, iv e0', iv e1', iv e2', iv e3', rv b6, own_dv (9218868437227405312 : UInt64), .second, .unset, .unset, .unset] []))
          refine own_st (fun t k => X20.ldc2DoubleC hx hown (mvT hZ (hw _ (List.mem_of_getElem? (i := 25) rfl))) (g := (mkF m 244 #[iv x0, iv x1, iv x2, iv x3, iv 0, iv k0, iv y28, rv b1, own_dv (FP.l2d w0), .second, own_dv (FP.l2d w1), .second, own_dv (FP.l2d w2), .second, own_dv (FP.l2d w3), .second, iv e0', iv e1', iv e2', iv e3', rv b6, own_dv (9218868437227405312 : UInt64), .second, .unset, .unset, .unset] [])) rfl (hb hby at_244) t k) ?_
          show own_Go p e below G (T20.setTop (mkF m 247 #[iv x0, iv x1, iv x2, iv x3, iv 0, iv k0, iv y28, rv b1, own_dv (FP.l2d w0), .second, own_dv (FP.l2d w1), .second, own_dv (FP.l2d w2), .second, own_dv (FP.l2d w3), .second, iv e0', iv e1', iv e2', iv e3', rv b6, own_dv (9218868437227405312 : UInt64), .second, .unset, .unset, .unset] [(.double (9218868437227405312 : UInt64))]))
          refine own_st (fun t k => XS.dstore X20.here hx rfl (hb hby at_247) rfl (l' := #[iv x0, iv x1, iv x2, iv x3, iv 0, iv k0, iv y28, rv b1, own_dv (FP.l2d w0), .second, own_dv (FP.l2d w1), .second, own_dv (FP.l2d w2), .second, own_dv (FP.l2d w3), .second, iv e0', iv e1', iv e2', iv e3', rv b6, own_dv (9218868437227405312 : UInt64), .second, own_dv (9218868437227405312 : UInt64), .second, .unset]) rfl k) ?_
          refine own_st (fun t k => XS.goto X20.here hx rfl (pc0 := 249) (pc' := 387) rfl (hb hby at_249) (by decide) (by decide) k) ?_
          refine own_st (fun t k => XS.dload X20.here hx rfl (hb hby at_387) rfl  k) ?_
          show own_Go p e below G (T20.setTop (mkF m 389 #[iv x0, iv x1, iv x2, iv x3, iv 0, iv k0, iv y28, rv b1, own_dv (FP.l2d w0), .second, own_dv (FP.l2d w1), .second, own_dv (FP.l2d w2), .second, own_dv (FP.l2d w3), .second, iv e0', iv e1', iv e2', iv e3', rv b6, own_dv (9218868437227405312 : UInt64), .second, own_dv (9218868437227405312 : UInt64), .second, .unset] [(.double (9218868437227405312 : UInt64))]))
          refine own_st (fun t k => XS.dload X20.here hx rfl (hb hby at_389) rfl  k) ?_
          show own_Go p e below G (T20.setTop (mkF m 391 #[iv x0, iv x1, iv x2, iv x3, iv 0, iv k0, iv y28, rv b1, own_dv (FP.l2d w0), .second, own_dv (FP.l2d w1), .second, own_dv (FP.l2d w2), .second, own_dv (FP.l2d w3), .second, iv e0', iv e1', iv e2', iv e3', rv b6, own_dv (9218868437227405312 : UInt64), .second, own_dv (9218868437227405312 : UInt64), .second, .unset] [(.double (9218868437227405312 : UInt64)), (.double (9218868437227405312 : UInt64))]))
          refine own_st (fun t k => XS.dcmpS X20.here hx rfl (hb hby at_391) rfl (dcmpV_self (by decide +kernel) _) k) ?_
          show own_Go p e below G (T20.setTop (mkF m 392 #[iv x0, iv x1, iv x2, iv x3, iv 0, iv k0, iv y28, rv b1, own_dv (FP.l2d w0), .second, own_dv (FP.l2d w1), .second, own_dv (FP.l2d w2), .second, own_dv (FP.l2d w3), .second, iv e0', iv e1', iv e2', iv e3', rv b6, own_dv (9218868437227405312 : UInt64), .second, own_dv (9218868437227405312 : UInt64), .second, .unset] [(.int (0 : Int32))]))
          refine own_st (fun t k => XS.ifNo X20.here hx rfl (hb hby at_392) rfl ((if0 _ _).trans (teq (by decide)).2) k) ?_
          show own_Go p e below G (T20.setTop (mkF m 395 #[iv x0, iv x1, iv x2, iv x3, iv 0, iv k0, iv y28, rv b1, own_dv (FP.l2d w0), .second, own_dv (FP.l2d w1), .second, own_dv (FP.l2d w2), .second, own_dv (FP.l2d w3), .second, iv e0', iv e1', iv e2', iv e3', rv b6, own_dv (9218868437227405312 : UInt64), .second, own_dv (9218868437227405312 : UInt64), .second, .unset] []))
          refine own_st (fun t k => XS.iconst X20.here hx rfl (hb hby at_395) k) ?_
          refine own_st (fun t k => XS.goto X20.here hx rfl (pc0 := 396) (pc' := 400) rfl (hb hby at_396) (by decide) (by decide) k) ?_
          show own_Go p e below G (T20.setTop (mkF m 400 #[iv x0, iv x1, iv x2, iv x3, iv 0, iv k0, iv y28, rv b1, own_dv (FP.l2d w0), .second, own_dv (FP.l2d w1), .second, own_dv (FP.l2d w2), .second, own_dv (FP.l2d w3), .second, iv e0', iv e1', iv e2', iv e3', rv b6, own_dv (9218868437227405312 : UInt64), .second, own_dv (9218868437227405312 : UInt64), .second, .unset] [(.int (1 : Int32))]))
          rw [hG]
          exact own_retZ X20 hx hlk (t := .boolean) hret (by simp) (hb hby at_400) ⟨rfl, N0⟩ (by decide) (by decide)
      by_cases c155_21 : y28 = (0 : Int32)
      · skip
        refine own_st (fun t k => XS.ifYes X6.here hx rfl (pc0 := 155) (pc' := 162) rfl (hb hby at_155) rfl ((if0 _ _).trans (teq c155_21).1) (by decide) (by decide) k) ?_
        show own_Go p e below G (T6.setTop (mkF m 162 #[iv x0, iv x1, iv x2, iv x3, iv 0, iv k0, iv y28, rv b1, own_dv (FP.l2d w0), .second, own_dv (FP.l2d w1), .second, own_dv (FP.l2d w2), .second, own_dv (FP.l2d w3), .second, iv e0', iv e1', iv e2', iv e3', .unset, .unset, .unset, .unset, .unset, .unset] [(.int (0 : Int32)), (.ref b6), (.ref b6)]))
        refine own_st (fun t k => XS.aload X6.here hx rfl (hb hby at_162) rfl rfl  k) ?_
        show own_Go p e below G (T6.setTop (mkF m 164 #[iv x0, iv x1, iv x2, iv x3, iv 0, iv k0, iv y28, rv b1, own_dv (FP.l2d w0), .second, own_dv (FP.l2d w1), .second, own_dv (FP.l2d w2), .second, own_dv (FP.l2d w3), .second, iv e0', iv e1', iv e2', iv e3', .unset, .unset, .unset, .unset, .unset, .unset] [(.ref b1), (.int (0 : Int32)), (.ref b6), (.ref b6)]))
        exact J164 _ (Or.inr ⟨b1, _, _, _, _, _, rfl, V_b1, ninS ne_b1_b6 nin0⟩)
      · skip
        refine own_st (fun t k => XS.ifNo X6.here hx rfl (hb hby at_155) rfl ((if0 _ _).trans (feq c155_21).1) k) ?_
        show own_Go p e below G (T6.setTop (mkF m 158 #[iv x0, iv x1, iv x2, iv x3, iv 0, iv k0, iv y28, rv b1, own_dv (FP.l2d w0), .second, own_dv (FP.l2d w1), .second, own_dv (FP.l2d w2), .second, own_dv (FP.l2d w3), .second, iv e0', iv e1', iv e2', iv e3', .unset, .unset, .unset, .unset, .unset, .unset] [(.int (0 : Int32)), (.ref b6), (.ref b6)]))
        refine own_st (fun t k => XS.aconstNull X6.here hx rfl (hb hby at_158) k) ?_
        refine own_st (fun t k => XS.goto X6.here hx rfl (pc0 := 159) (pc' := 164) rfl (hb hby at_159) (by decide) (by decide) k) ?_
        show own_Go p e below G (T6.setTop (mkF m 164 #[iv x0, iv x1, iv x2, iv x3, iv 0, iv k0, iv y28, rv b1, own_dv (FP.l2d w0), .second, own_dv (FP.l2d w1), .second, own_dv (FP.l2d w2), .second, own_dv (FP.l2d w3), .second, iv e0', iv e1', iv e2', iv e3', .unset, .unset, .unset, .unset, .unset, .unset] [.null, (.int (0 : Int32)), (.ref b6), (.ref b6)]))
        exact J164 _ (Or.inl rfl)
    · skip
      show own_Go p e below G (T5.setTop (mkF m 147 #[iv x0, iv x1, iv x2, iv x3, iv 1, iv k0, iv y28, rv b1, own_dv (FP.l2d w0), .second, own_dv (FP.l2d w1), .second, own_dv (FP.l2d w2), .second, own_dv (FP.l2d w3), .second, iv e0', iv e1', iv e2', iv e3', .unset, .unset, .unset, .unset, .unset, .unset] []))
      have J239 : ∀ (T : State) (locs : List Loc) (X : Stand p l e room_1 s m #[(.int x0), (.int x1), (.int x2), (.int x3)] below meth c T locs 4 10) (N0 : Fr n0 locs) (Z0 : n0 ≤ T.heap.size) (s20 : Slot) (g : Int64) (hgb : own_b g) (hkc : ¬ k0 < (1 : Int32)) (hg : g.toInt = own_nth (own_pad k0 0 w0) (own_pad k0 1 w1) (own_pad k0 2 w2) (own_pad k0 3 w3) 1), own_Go p e below G (T.setTop (mkF m 239 #[iv x0, iv x1, iv x2, iv x3, iv 1, iv k0, iv y28, rv b1, own_dv (FP.l2d w0), .second, own_dv (FP.l2d w1), .second, own_dv (FP.l2d w2), .second, own_dv (FP.l2d w3), .second, iv e0', iv e1', iv e2', iv e3', s20, .val (.double (FP.l2d g)), .second, .unset, .unset, .unset] [])) := by
        intro T locs X N0 Z0 s20 g hgb hkc hg
        refine own_st (fun t k => XS.iload X.here hx rfl (hb hby at_239) rfl  k) ?_
        show own_Go p e below G (T.setTop (mkF m 241 #[iv x0, iv x1, iv x2, iv x3, iv 1, iv k0, iv y28, rv b1, own_dv (FP.l2d w0), .second, own_dv (FP.l2d w1), .second, own_dv (FP.l2d w2), .second, own_dv (FP.l2d w3), .second, iv e0', iv e1', iv e2', iv e3', s20, own_dv (FP.l2d g), .second, .unset, .unset, .unset] [(.int (1 : Int32))]))
        refine own_st (fun t k => XS.ifYes X.here hx rfl (pc0 := 241) (pc' := 252) rfl (hb hby at_241) rfl ((if0 _ _).trans (feq (by decide)).2) (by decide) (by decide) k) ?_
        show own_Go p e below G (T.setTop (mkF m 252 #[iv x0, iv x1, iv x2, iv x3, iv 1, iv k0, iv y28, rv b1, own_dv (FP.l2d w0), .second, own_dv (FP.l2d w1), .second, own_dv (FP.l2d w2), .second, own_dv (FP.l2d w3), .second, iv e0', iv e1', iv e2', iv e3', s20, own_dv (FP.l2d g), .second, .unset, .unset, .unset] []))
        refine own_st (fun t k => XS.iload X.here hx rfl (hb hby at_252) rfl  k) ?_
        refine own_st (fun t k => XS.iload X.here hx rfl (hb hby at_254) rfl  k) ?_
        show own_Go p e below G (T.setTop (mkF m 256 #[iv x0, iv x1, iv x2, iv x3, iv 1, iv k0, iv y28, rv b1, own_dv (FP.l2d w0), .second, own_dv (FP.l2d w1), .second, own_dv (FP.l2d w2), .second, own_dv (FP.l2d w3), .second, iv e0', iv e1', iv e2', iv e3', s20, own_dv (FP.l2d g), .second, .unset, .unset, .unset] [(.int (1 : Int32)), (.int k0)]))
        refine own_st (fun t k => XS.icmpYes X.here hx rfl (pc0 := 256) (pc' := 267) rfl (hb hby at_256) rfl (flt hkc).2.1 (by decide) (by decide) k) ?_
        show own_Go p e below G (T.setTop (mkF m 267 #[iv x0, iv x1, iv x2, iv x3, iv 1, iv k0, iv y28, rv b1, own_dv (FP.l2d w0), .second, own_dv (FP.l2d w1), .second, own_dv (FP.l2d w2), .second, own_dv (FP.l2d w3), .second, iv e0', iv e1', iv e2', iv e3', s20, own_dv (FP.l2d g), .second, .unset, .unset, .unset] []))
        refine own_st (fun t k => XS.iconst X.here hx rfl (hb hby at_267) k) ?_
        show own_Go p e below G (T.setTop (mkF m 268 #[iv x0, iv x1, iv x2, iv x3, iv 1, iv k0, iv y28, rv b1, own_dv (FP.l2d w0), .second, own_dv (FP.l2d w1), .second, own_dv (FP.l2d w2), .second, own_dv (FP.l2d w3), .second, iv e0', iv e1', iv e2', iv e3', s20, own_dv (FP.l2d g), .second, .unset, .unset, .unset] [(.int (4 : Int32))]))
        obtain ⟨T22, h22, k22, X22, e22, E22, A22, st22⟩ := newP X hx hZ (hw _ (List.mem_of_getElem? (i := 12) rfl)) rfl (g := (mkF m 268 #[iv x0, iv x1, iv x2, iv x3, iv 1, iv k0, iv y28, rv b1, own_dv (FP.l2d w0), .second, own_dv (FP.l2d w1), .second, own_dv (FP.l2d w2), .second, own_dv (FP.l2d w3), .second, iv e0', iv e1', iv e2', iv e3', s20, own_dv (FP.l2d g), .second, .unset, .unset, .unset] [(.int (4 : Int32))])) rfl (hb hby at_268) rfl (by decide) (cap := 4) (by decide) (by decide) (by decide) (by decide)
        obtain ⟨b22, gb22⟩ : ∃ z, z = T.heap.size := ⟨_, rfl⟩
        rw [← gb22] at A22 st22
        have g_b22 : n0 ≤ b22 := Nat.le_trans Z0 (Nat.le_of_eq gb22.symm)
        replace Z0 := Nat.le_trans Z0 E22.1
        have V_b22 : Arv Z h22 b22 k22 .double (4 : Int32) [(.double (0 : UInt64)), (.double (0 : UInt64)), (.double (0 : UInt64)), (.double (0 : UInt64))] (.double (0 : UInt64)) := (Arv.new A22 (by decide)).pad (pad_rep [] (.double (0 : UInt64)) 4)
        refine own_st st22 ?_
        show own_Go p e below G (T22.setTop (mkF m 270 #[iv x0, iv x1, iv x2, iv x3, iv 1, iv k0, iv y28, rv b1, own_dv (FP.l2d w0), .second, own_dv (FP.l2d w1), .second, own_dv (FP.l2d w2), .second, own_dv (FP.l2d w3), .second, iv e0', iv e1', iv e2', iv e3', s20, own_dv (FP.l2d g), .second, .unset, .unset, .unset] [(.ref b22)]))
        refine own_st (fun t k => XS.astore X22.here hx rfl (hb hby at_270) rfl rfl (l' := #[iv x0, iv x1, iv x2, iv x3, iv 1, iv k0, iv y28, rv b1, own_dv (FP.l2d w0), .second, own_dv (FP.l2d w1), .second, own_dv (FP.l2d w2), .second, own_dv (FP.l2d w3), .second, iv e0', iv e1', iv e2', iv e3', s20, own_dv (FP.l2d g), .second, .unset, .unset, rv b22]) rfl k) ?_
        refine own_st (fun t k => XS.aload X22.here hx rfl (hb hby at_272) rfl rfl  k) ?_
        refine own_st (fun t k => XS.iconst X22.here hx rfl (hb hby at_274) k) ?_
        show own_Go p e below G (T22.setTop (mkF m 275 #[iv x0, iv x1, iv x2, iv x3, iv 1, iv k0, iv y28, rv b1, own_dv (FP.l2d w0), .second, own_dv (FP.l2d w1), .second, own_dv (FP.l2d w2), .second, own_dv (FP.l2d w3), .second, iv e0', iv e1', iv e2', iv e3', s20, own_dv (FP.l2d g), .second, .unset, .unset, rv b22] [(.int (0 : Int32)), (.ref b22)]))
        refine own_st (fun t k => XS.iload X22.here hx rfl (hb hby at_275) rfl  k) ?_
        show own_Go p e below G (T22.setTop (mkF m 277 #[iv x0, iv x1, iv x2, iv x3, iv 1, iv k0, iv y28, rv b1, own_dv (FP.l2d w0), .second, own_dv (FP.l2d w1), .second, own_dv (FP.l2d w2), .second, own_dv (FP.l2d w3), .second, iv e0', iv e1', iv e2', iv e3', s20, own_dv (FP.l2d g), .second, .unset, .unset, rv b22] [(.int k0), (.int (0 : Int32)), (.ref b22)]))
        have J288 : ∀ (t0 : Int64) (hp0 : t0.toInt = own_pad k0 0 w0) (hb_t0 : own_b t0), own_Go p e below G (T22.setTop (mkF m 288 #[iv x0, iv x1, iv x2, iv x3, iv 1, iv k0, iv y28, rv b1, own_dv (FP.l2d w0), .second, own_dv (FP.l2d w1), .second, own_dv (FP.l2d w2), .second, own_dv (FP.l2d w3), .second, iv e0', iv e1', iv e2', iv e3', s20, own_dv (FP.l2d g), .second, .unset, .unset, rv b22] [(.double (FP.l2d t0)), (.int (0 : Int32)), (.ref b22)])) := by
          intro t0 hp0 hb_t0
          obtain ⟨cl23, Ar23, qa23, Sa23, Na23, Ha23, Ga23⟩ := V_b22
          have hin23 : ¬ ((0 : Int32) < 0 ∨ cl23.slots.size ≤ ((0 : Int32)).toNatClampNeg) := inb_of Sa23 ⟨by decide, by decide⟩
          obtain ⟨T23, h23, X23, e23, W23, st23⟩ := stD X22 hx hZ e22 Ar23 (j := (0 : Int32)) hin23 (g := (mkF m 288 #[iv x0, iv x1, iv x2, iv x3, iv 1, iv k0, iv y28, rv b1, own_dv (FP.l2d w0), .second, own_dv (FP.l2d w1), .second, own_dv (FP.l2d w2), .second, own_dv (FP.l2d w3), .second, iv e0', iv e1', iv e2', iv e3', s20, own_dv (FP.l2d g), .second, .unset, .unset, rv b22] [(.double (FP.l2d t0)), (.int (0 : Int32)), (.ref b22)])) rfl rfl (hb hby at_288)
          have V_b22 : Arv Z h23 b22 k22 .double (4 : Int32) [(.double (FP.l2d t0)), (.double (0 : UInt64)), (.double (0 : UInt64)), (.double (0 : UInt64))] (.double (0 : UInt64)) := Arv.set Ar23 qa23 Sa23 Na23 Ha23 Ga23 rfl W23 0 rfl (Nat.le_of_ble_eq_true rfl)
          replace Z0 := Nat.le_trans Z0 (Keep.of_wr W23).1
          replace N0 := Fr.snoc X23 N0 g_b22
          refine own_st st23 ?_
          show own_Go p e below G (T23.setTop (mkF m 289 #[iv x0, iv x1, iv x2, iv x3, iv 1, iv k0, iv y28, rv b1, own_dv (FP.l2d w0), .second, own_dv (FP.l2d w1), .second, own_dv (FP.l2d w2), .second, own_dv (FP.l2d w3), .second, iv e0', iv e1', iv e2', iv e3', s20, own_dv (FP.l2d g), .second, .unset, .unset, rv b22] []))
          refine own_st (fun t k => XS.aload X23.here hx rfl (hb hby at_289) rfl rfl  k) ?_
          refine own_st (fun t k => XS.iconst X23.here hx rfl (hb hby at_291) k) ?_
          refine own_st (fun t k => XS.iload X23.here hx rfl (hb hby at_292) rfl  k) ?_
          show own_Go p e below G (T23.setTop (mkF m 294 #[iv x0, iv x1, iv x2, iv x3, iv 1, iv k0, iv y28, rv b1, own_dv (FP.l2d w0), .second, own_dv (FP.l2d w1), .second, own_dv (FP.l2d w2), .second, own_dv (FP.l2d w3), .second, iv e0', iv e1', iv e2', iv e3', s20, own_dv (FP.l2d g), .second, .unset, .unset, rv b22] [(.int k0), (.int (1 : Int32)), (.ref b22)]))
          refine own_st (fun t k => XS.iconst X23.here hx rfl (hb hby at_294) k) ?_
          show own_Go p e below G (T23.setTop (mkF m 295 #[iv x0, iv x1, iv x2, iv x3, iv 1, iv k0, iv y28, rv b1, own_dv (FP.l2d w0), .second, own_dv (FP.l2d w1), .second, own_dv (FP.l2d w2), .second, own_dv (FP.l2d w3), .second, iv e0', iv e1', iv e2', iv e3', s20, own_dv (FP.l2d g), .second, .unset, .unset, rv b22] [(.int (1 : Int32)), (.int k0), (.int (1 : Int32)), (.ref b22)]))
          have J306 : ∀ (t1 : Int64) (hp1 : t1.toInt = own_pad k0 1 w1) (hb_t1 : own_b t1), own_Go p e below G (T23.setTop (mkF m 306 #[iv x0, iv x1, iv x2, iv x3, iv 1, iv k0, iv y28, rv b1, own_dv (FP.l2d w0), .second, own_dv (FP.l2d w1), .second, own_dv (FP.l2d w2), .second, own_dv (FP.l2d w3), .second, iv e0', iv e1', iv e2', iv e3', s20, own_dv (FP.l2d g), .second, .unset, .unset, rv b22] [(.double (FP.l2d t1)), (.int (1 : Int32)), (.ref b22)])) := by
            intro t1 hp1 hb_t1
            obtain ⟨cl24, Ar24, qa24, Sa24, Na24, Ha24, Ga24⟩ := V_b22
            have hin24 : ¬ ((1 : Int32) < 0 ∨ cl24.slots.size ≤ ((1 : Int32)).toNatClampNeg) := inb_of Sa24 ⟨by decide, by decide⟩
            obtain ⟨T24, h24, X24, e24, W24, st24⟩ := stD X23 hx hZ e23 Ar24 (j := (1 : Int32)) hin24 (g := (mkF m 306 #[iv x0, iv x1, iv x2, iv x3, iv 1, iv k0, iv y28, rv b1, own_dv (FP.l2d w0), .second, own_dv (FP.l2d w1), .second, own_dv (FP.l2d w2), .second, own_dv (FP.l2d w3), .second, iv e0', iv e1', iv e2', iv e3', s20, own_dv (FP.l2d g), .second, .unset, .unset, rv b22] [(.double (FP.l2d t1)), (.int (1 : Int32)), (.ref b22)])) rfl rfl (hb hby at_306)
            have V_b22 : Arv Z h24 b22 k22 .double (4 : Int32) [(.double (FP.l2d t0)), (.double (FP.l2d t1)), (.double (0 : UInt64)), (.double (0 : UInt64))] (.double (0 : UInt64)) := Arv.set Ar24 qa24 Sa24 Na24 Ha24 Ga24 rfl W24 1 rfl (Nat.le_of_ble_eq_true rfl)
            replace Z0 := Nat.le_trans Z0 (Keep.of_wr W24).1
            replace N0 := Fr.snoc X24 N0 g_b22
            refine own_st st24 ?_
            show own_Go p e below G (T24.setTop (mkF m 307 #[iv x0, iv x1, iv x2, iv x3, iv 1, iv k0, iv y28, rv b1, own_dv (FP.l2d w0), .second, own_dv (FP.l2d w1), .second, own_dv (FP.l2d w2), .second, own_dv (FP.l2d w3), .second, iv e0', iv e1', iv e2', iv e3', s20, own_dv (FP.l2d g), .second, .unset, .unset, rv b22] []))
            refine own_st (fun t k => XS.aload X24.here hx rfl (hb hby at_307) rfl rfl  k) ?_
            refine own_st (fun t k => XS.iconst X24.here hx rfl (hb hby at_309) k) ?_
            refine own_st (fun t k => XS.iload X24.here hx rfl (hb hby at_310) rfl  k) ?_
            show own_Go p e below G (T24.setTop (mkF m 312 #[iv x0, iv x1, iv x2, iv x3, iv 1, iv k0, iv y28, rv b1, own_dv (FP.l2d w0), .second, own_dv (FP.l2d w1), .second, own_dv (FP.l2d w2), .second, own_dv (FP.l2d w3), .second, iv e0', iv e1', iv e2', iv e3', s20, own_dv (FP.l2d g), .second, .unset, .unset, rv b22] [(.int k0), (.int (2 : Int32)), (.ref b22)]))
            refine own_st (fun t k => XS.iconst X24.here hx rfl (hb hby at_312) k) ?_
            show own_Go p e below G (T24.setTop (mkF m 313 #[iv x0, iv x1, iv x2, iv x3, iv 1, iv k0, iv y28, rv b1, own_dv (FP.l2d w0), .second, own_dv (FP.l2d w1), .second, own_dv (FP.l2d w2), .second, own_dv (FP.l2d w3), .second, iv e0', iv e1', iv e2', iv e3', s20, own_dv (FP.l2d g), .second, .unset, .unset, rv b22] [(.int (2 : Int32)), (.int k0), (.int (2 : Int32)), (.ref b22)]))
            have J324 : ∀ (t2 : Int64) (hp2 : t2.toInt = own_pad k0 2 w2) (hb_t2 : own_b t2), own_Go p e below G (T24.setTop (mkF m 324 #[iv x0, iv x1, iv x2, iv x3, iv 1, iv k0, iv y28, rv b1, own_dv (FP.l2d w0), .second, own_dv (FP.l2d w1), .second, own_dv (FP.l2d w2), .second, own_dv (FP.l2d w3), .second, iv e0', iv e1', iv e2', iv e3', s20, own_dv (FP.l2d g), .second, .unset, .unset, rv b22] [(.double (FP.l2d t2)), (.int (2 : Int32)), (.ref b22)])) := by
              intro t2 hp2 hb_t2
              obtain ⟨cl25, Ar25, qa25, Sa25, Na25, Ha25, Ga25⟩ := V_b22
              have hin25 : ¬ ((2 : Int32) < 0 ∨ cl25.slots.size ≤ ((2 : Int32)).toNatClampNeg) := inb_of Sa25 ⟨by decide, by decide⟩
              obtain ⟨T25, h25, X25, e25, W25, st25⟩ := stD X24 hx hZ e24 Ar25 (j := (2 : Int32)) hin25 (g := (mkF m 324 #[iv x0, iv x1, iv x2, iv x3, iv 1, iv k0, iv y28, rv b1, own_dv (FP.l2d w0), .second, own_dv (FP.l2d w1), .second, own_dv (FP.l2d w2), .second, own_dv (FP.l2d w3), .second, iv e0', iv e1', iv e2', iv e3', s20, own_dv (FP.l2d g), .second, .unset, .unset, rv b22] [(.double (FP.l2d t2)), (.int (2 : Int32)), (.ref b22)])) rfl rfl (hb hby at_324)
              have V_b22 : Arv Z h25 b22 k22 .double (4 : Int32) [(.double (FP.l2d t0)), (.double (FP.l2d t1)), (.double (FP.l2d t2)), (.double (0 : UInt64))] (.double (0 : UInt64)) := Arv.set Ar25 qa25 Sa25 Na25 Ha25 Ga25 rfl W25 2 rfl (Nat.le_of_ble_eq_true rfl)
              replace Z0 := Nat.le_trans Z0 (Keep.of_wr W25).1
              replace N0 := Fr.snoc X25 N0 g_b22
              refine own_st st25 ?_
              show own_Go p e below G (T25.setTop (mkF m 325 #[iv x0, iv x1, iv x2, iv x3, iv 1, iv k0, iv y28, rv b1, own_dv (FP.l2d w0), .second, own_dv (FP.l2d w1), .second, own_dv (FP.l2d w2), .second, own_dv (FP.l2d w3), .second, iv e0', iv e1', iv e2', iv e3', s20, own_dv (FP.l2d g), .second, .unset, .unset, rv b22] []))
              refine own_st (fun t k => XS.aload X25.here hx rfl (hb hby at_325) rfl rfl  k) ?_
              refine own_st (fun t k => XS.iconst X25.here hx rfl (hb hby at_327) k) ?_
              refine own_st (fun t k => XS.iload X25.here hx rfl (hb hby at_328) rfl  k) ?_
              show own_Go p e below G (T25.setTop (mkF m 330 #[iv x0, iv x1, iv x2, iv x3, iv 1, iv k0, iv y28, rv b1, own_dv (FP.l2d w0), .second, own_dv (FP.l2d w1), .second, own_dv (FP.l2d w2), .second, own_dv (FP.l2d w3), .second, iv e0', iv e1', iv e2', iv e3', s20, own_dv (FP.l2d g), .second, .unset, .unset, rv b22] [(.int k0), (.int (3 : Int32)), (.ref b22)]))
              refine own_st (fun t k => XS.iconst X25.here hx rfl (hb hby at_330) k) ?_
              show own_Go p e below G (T25.setTop (mkF m 331 #[iv x0, iv x1, iv x2, iv x3, iv 1, iv k0, iv y28, rv b1, own_dv (FP.l2d w0), .second, own_dv (FP.l2d w1), .second, own_dv (FP.l2d w2), .second, own_dv (FP.l2d w3), .second, iv e0', iv e1', iv e2', iv e3', s20, own_dv (FP.l2d g), .second, .unset, .unset, rv b22] [(.int (3 : Int32)), (.int k0), (.int (3 : Int32)), (.ref b22)]))
              have J342 : ∀ (t3 : Int64) (hp3 : t3.toInt = own_pad k0 3 w3) (hb_t3 : own_b t3), own_Go p e below G (T25.setTop (mkF m 342 #[iv x0, iv x1, iv x2, iv x3, iv 1, iv k0, iv y28, rv b1, own_dv (FP.l2d w0), .second, own_dv (FP.l2d w1), .second, own_dv (FP.l2d w2), .second, own_dv (FP.l2d w3), .second, iv e0', iv e1', iv e2', iv e3', s20, own_dv (FP.l2d g), .second, .unset, .unset, rv b22] [(.double (FP.l2d t3)), (.int (3 : Int32)), (.ref b22)])) := by
                intro t3 hp3 hb_t3
                obtain ⟨cl26, Ar26, qa26, Sa26, Na26, Ha26, Ga26⟩ := V_b22
                have hin26 : ¬ ((3 : Int32) < 0 ∨ cl26.slots.size ≤ ((3 : Int32)).toNatClampNeg) := inb_of Sa26 ⟨by decide, by decide⟩
                obtain ⟨T26, h26, X26, e26, W26, st26⟩ := stD X25 hx hZ e25 Ar26 (j := (3 : Int32)) hin26 (g := (mkF m 342 #[iv x0, iv x1, iv x2, iv x3, iv 1, iv k0, iv y28, rv b1, own_dv (FP.l2d w0), .second, own_dv (FP.l2d w1), .second, own_dv (FP.l2d w2), .second, own_dv (FP.l2d w3), .second, iv e0', iv e1', iv e2', iv e3', s20, own_dv (FP.l2d g), .second, .unset, .unset, rv b22] [(.double (FP.l2d t3)), (.int (3 : Int32)), (.ref b22)])) rfl rfl (hb hby at_342)
                have V_b22 : Arv Z h26 b22 k22 .double (4 : Int32) [(.double (FP.l2d t0)), (.double (FP.l2d t1)), (.double (FP.l2d t2)), (.double (FP.l2d t3))] (.double (0 : UInt64)) := Arv.set Ar26 qa26 Sa26 Na26 Ha26 Ga26 rfl W26 3 rfl (Nat.le_of_ble_eq_true rfl)
                replace Z0 := Nat.le_trans Z0 (Keep.of_wr W26).1
                replace N0 := Fr.snoc X26 N0 g_b22
                refine own_st st26 ?_
                show own_Go p e below G (T26.setTop (mkF m 343 #[iv x0, iv x1, iv x2, iv x3, iv 1, iv k0, iv y28, rv b1, own_dv (FP.l2d w0), .second, own_dv (FP.l2d w1), .second, own_dv (FP.l2d w2), .second, own_dv (FP.l2d w3), .second, iv e0', iv e1', iv e2', iv e3', s20, own_dv (FP.l2d g), .second, .unset, .unset, rv b22] []))
                refine own_st (fun t k => XS.aload X26.here hx rfl (hb hby at_343) rfl rfl  k) ?_
                refine own_st (fun t k => XS.iconst X26.here hx rfl (hb hby at_345) k) ?_
                refine own_st (fun t k => XS.iconst X26.here hx rfl (hb hby at_346) k) ?_
                show own_Go p e below G (T26.setTop (mkF m 347 #[iv x0, iv x1, iv x2, iv x3, iv 1, iv k0, iv y28, rv b1, own_dv (FP.l2d w0), .second, own_dv (FP.l2d w1), .second, own_dv (FP.l2d w2), .second, own_dv (FP.l2d w3), .second, iv e0', iv e1', iv e2', iv e3', s20, own_dv (FP.l2d g), .second, .unset, .unset, rv b22] [(.int (1 : Int32)), (.int (0 : Int32)), (.ref b22)]))
                obtain ⟨v27, T27, L27, X27, Q27, st27⟩ := own_callS X26 hx hZ (y := (⟨"com/example/thinleaf/thinleaf/prune/NearestLeastPinLaw", "cs", "([DII)V"⟩ : MethodName)) hown (hw _ (List.mem_of_getElem? (i := 36) rfl)) (hw _ (List.mem_of_getElem? (i := 37) rfl)) (hw _ (List.mem_of_getElem? (i := 38) rfl)) (hw _ (List.mem_of_getElem? (i := 39) rfl)) (by decide) (W := 0) (rmX01 l Z a0 hw b22 k22 t0 t1 t2 t3 h26 n0 Z0 g_b22 V_b22 hb_t0 hb_t1) (by decide) (by decide) e26 (g := (mkF m 347 #[iv x0, iv x1, iv x2, iv x3, iv 1, iv k0, iv y28, rv b1, own_dv (FP.l2d w0), .second, own_dv (FP.l2d w1), .second, own_dv (FP.l2d w2), .second, own_dv (FP.l2d w3), .second, iv e0', iv e1', iv e2', iv e3', s20, own_dv (FP.l2d g), .second, .unset, .unset, rv b22] [(.int (1 : Int32)), (.int (0 : Int32)), (.ref b22)])) rfl (by rw [hml]; rfl) (argsL := [(.ref b22), (.int (0 : Int32)), (.int (1 : Int32))]) (rest := []) own_pd5 rfl rfl (by show 2 * 0 + _ ≤ _; exact Nat.le_of_eq rfl) (hb hby at_347) rfl (by decide) (by decide)
                obtain ⟨rfl, Nq27, Zq27, u27_0, u27_1, Vq27, hb_u27_0, hb_u27_1, hx_u27_0, hx_u27_1⟩ := Q27
                replace N0 := Fr.app N0 Nq27
                replace Z0 := Zq27
                replace V_b22 := Vq27
                refine own_st st27 ?_
                show own_Go p e below G (T27.setTop (mkF m 350 #[iv x0, iv x1, iv x2, iv x3, iv 1, iv k0, iv y28, rv b1, own_dv (FP.l2d w0), .second, own_dv (FP.l2d w1), .second, own_dv (FP.l2d w2), .second, own_dv (FP.l2d w3), .second, iv e0', iv e1', iv e2', iv e3', s20, own_dv (FP.l2d g), .second, .unset, .unset, rv b22] []))
                refine own_st (fun t k => XS.aload X27.here hx rfl (hb hby at_350) rfl rfl  k) ?_
                refine own_st (fun t k => XS.iconst X27.here hx rfl (hb hby at_352) k) ?_
                refine own_st (fun t k => XS.iconst X27.here hx rfl (hb hby at_353) k) ?_
                show own_Go p e below G (T27.setTop (mkF m 354 #[iv x0, iv x1, iv x2, iv x3, iv 1, iv k0, iv y28, rv b1, own_dv (FP.l2d w0), .second, own_dv (FP.l2d w1), .second, own_dv (FP.l2d w2), .second, own_dv (FP.l2d w3), .second, iv e0', iv e1', iv e2', iv e3', s20, own_dv (FP.l2d g), .second, .unset, .unset, rv b22] [(.int (3 : Int32)), (.int (2 : Int32)), (.ref b22)]))
                obtain ⟨v28, T28, L28, X28, Q28, st28⟩ := own_callS X27 hx hZ (y := (⟨"com/example/thinleaf/thinleaf/prune/NearestLeastPinLaw", "cs", "([DII)V"⟩ : MethodName)) hown (hw _ (List.mem_of_getElem? (i := 36) rfl)) (hw _ (List.mem_of_getElem? (i := 37) rfl)) (hw _ (List.mem_of_getElem? (i := 38) rfl)) (hw _ (List.mem_of_getElem? (i := 39) rfl)) (by decide) (W := 0) (rmX23 l Z a0 hw b22 k22 u27_0 u27_1 t2 t3 T27.heap n0 Z0 g_b22 V_b22 hb_t2 hb_t3) (by decide) (by decide) rfl (g := (mkF m 354 #[iv x0, iv x1, iv x2, iv x3, iv 1, iv k0, iv y28, rv b1, own_dv (FP.l2d w0), .second, own_dv (FP.l2d w1), .second, own_dv (FP.l2d w2), .second, own_dv (FP.l2d w3), .second, iv e0', iv e1', iv e2', iv e3', s20, own_dv (FP.l2d g), .second, .unset, .unset, rv b22] [(.int (3 : Int32)), (.int (2 : Int32)), (.ref b22)])) rfl (by rw [hml]; rfl) (argsL := [(.ref b22), (.int (2 : Int32)), (.int (3 : Int32))]) (rest := []) own_pd5 rfl rfl (by show 2 * 0 + _ ≤ _; exact Nat.le_of_eq rfl) (hb hby at_354) rfl (by decide) (by decide)
                obtain ⟨rfl, Nq28, Zq28, u28_2, u28_3, Vq28, hb_u28_2, hb_u28_3, hx_u28_2, hx_u28_3⟩ := Q28
                replace N0 := Fr.app N0 Nq28
                replace Z0 := Zq28
                replace V_b22 := Vq28
                refine own_st st28 ?_
                show own_Go p e below G (T28.setTop (mkF m 357 #[iv x0, iv x1, iv x2, iv x3, iv 1, iv k0, iv y28, rv b1, own_dv (FP.l2d w0), .second, own_dv (FP.l2d w1), .second, own_dv (FP.l2d w2), .second, own_dv (FP.l2d w3), .second, iv e0', iv e1', iv e2', iv e3', s20, own_dv (FP.l2d g), .second, .unset, .unset, rv b22] []))
                refine own_st (fun t k => XS.aload X28.here hx rfl (hb hby at_357) rfl rfl  k) ?_
                refine own_st (fun t k => XS.iconst X28.here hx rfl (hb hby at_359) k) ?_
                refine own_st (fun t k => XS.iconst X28.here hx rfl (hb hby at_360) k) ?_
                show own_Go p e below G (T28.setTop (mkF m 361 #[iv x0, iv x1, iv x2, iv x3, iv 1, iv k0, iv y28, rv b1, own_dv (FP.l2d w0), .second, own_dv (FP.l2d w1), .second, own_dv (FP.l2d w2), .second, own_dv (FP.l2d w3), .second, iv e0', iv e1', iv e2', iv e3', s20, own_dv (FP.l2d g), .second, .unset, .unset, rv b22] [(.int (2 : Int32)), (.int (0 : Int32)), (.ref b22)]))
                obtain ⟨v29, T29, L29, X29, Q29, st29⟩ := own_callS X28 hx hZ (y := (⟨"com/example/thinleaf/thinleaf/prune/NearestLeastPinLaw", "cs", "([DII)V"⟩ : MethodName)) hown (hw _ (List.mem_of_getElem? (i := 36) rfl)) (hw _ (List.mem_of_getElem? (i := 37) rfl)) (hw _ (List.mem_of_getElem? (i := 38) rfl)) (hw _ (List.mem_of_getElem? (i := 39) rfl)) (by decide) (W := 0) (rmX02 l Z a0 hw b22 k22 u27_0 u27_1 u28_2 u28_3 T28.heap n0 Z0 g_b22 V_b22 hb_u27_0 hb_u28_2) (by decide) (by decide) rfl (g := (mkF m 361 #[iv x0, iv x1, iv x2, iv x3, iv 1, iv k0, iv y28, rv b1, own_dv (FP.l2d w0), .second, own_dv (FP.l2d w1), .second, own_dv (FP.l2d w2), .second, own_dv (FP.l2d w3), .second, iv e0', iv e1', iv e2', iv e3', s20, own_dv (FP.l2d g), .second, .unset, .unset, rv b22] [(.int (2 : Int32)), (.int (0 : Int32)), (.ref b22)])) rfl (by rw [hml]; rfl) (argsL := [(.ref b22), (.int (0 : Int32)), (.int (2 : Int32))]) (rest := []) own_pd5 rfl rfl (by show 2 * 0 + _ ≤ _; exact Nat.le_of_eq rfl) (hb hby at_361) rfl (by decide) (by decide)
                obtain ⟨rfl, Nq29, Zq29, u29_0, u29_2, Vq29, hb_u29_0, hb_u29_2, hx_u29_0, hx_u29_2⟩ := Q29
                replace N0 := Fr.app N0 Nq29
                replace Z0 := Zq29
                replace V_b22 := Vq29
                refine own_st st29 ?_
                show own_Go p e below G (T29.setTop (mkF m 364 #[iv x0, iv x1, iv x2, iv x3, iv 1, iv k0, iv y28, rv b1, own_dv (FP.l2d w0), .second, own_dv (FP.l2d w1), .second, own_dv (FP.l2d w2), .second, own_dv (FP.l2d w3), .second, iv e0', iv e1', iv e2', iv e3', s20, own_dv (FP.l2d g), .second, .unset, .unset, rv b22] []))
                refine own_st (fun t k => XS.aload X29.here hx rfl (hb hby at_364) rfl rfl  k) ?_
                refine own_st (fun t k => XS.iconst X29.here hx rfl (hb hby at_366) k) ?_
                refine own_st (fun t k => XS.iconst X29.here hx rfl (hb hby at_367) k) ?_
                show own_Go p e below G (T29.setTop (mkF m 368 #[iv x0, iv x1, iv x2, iv x3, iv 1, iv k0, iv y28, rv b1, own_dv (FP.l2d w0), .second, own_dv (FP.l2d w1), .second, own_dv (FP.l2d w2), .second, own_dv (FP.l2d w3), .second, iv e0', iv e1', iv e2', iv e3', s20, own_dv (FP.l2d g), .second, .unset, .unset, rv b22] [(.int (3 : Int32)), (.int (1 : Int32)), (.ref b22)]))
                obtain ⟨v30, T30, L30, X30, Q30, st30⟩ := own_callS X29 hx hZ (y := (⟨"com/example/thinleaf/thinleaf/prune/NearestLeastPinLaw", "cs", "([DII)V"⟩ : MethodName)) hown (hw _ (List.mem_of_getElem? (i := 36) rfl)) (hw _ (List.mem_of_getElem? (i := 37) rfl)) (hw _ (List.mem_of_getElem? (i := 38) rfl)) (hw _ (List.mem_of_getElem? (i := 39) rfl)) (by decide) (W := 0) (rmX13 l Z a0 hw b22 k22 u29_0 u27_1 u29_2 u28_3 T29.heap n0 Z0 g_b22 V_b22 hb_u27_1 hb_u28_3) (by decide) (by decide) rfl (g := (mkF m 368 #[iv x0, iv x1, iv x2, iv x3, iv 1, iv k0, iv y28, rv b1, own_dv (FP.l2d w0), .second, own_dv (FP.l2d w1), .second, own_dv (FP.l2d w2), .second, own_dv (FP.l2d w3), .second, iv e0', iv e1', iv e2', iv e3', s20, own_dv (FP.l2d g), .second, .unset, .unset, rv b22] [(.int (3 : Int32)), (.int (1 : Int32)), (.ref b22)])) rfl (by rw [hml]; rfl) (argsL := [(.ref b22), (.int (1 : Int32)), (.int (3 : Int32))]) (rest := []) own_pd5 rfl rfl (by show 2 * 0 + _ ≤ _; exact Nat.le_of_eq rfl) (hb hby at_368) rfl (by decide) (by decide)
                obtain ⟨rfl, Nq30, Zq30, u30_1, u30_3, Vq30, hb_u30_1, hb_u30_3, hx_u30_1, hx_u30_3⟩ := Q30
                replace N0 := Fr.app N0 Nq30
                replace Z0 := Zq30
                replace V_b22 := Vq30
                refine own_st st30 ?_
                show own_Go p e below G (T30.setTop (mkF m 371 #[iv x0, iv x1, iv x2, iv x3, iv 1, iv k0, iv y28, rv b1, own_dv (FP.l2d w0), .second, own_dv (FP.l2d w1), .second, own_dv (FP.l2d w2), .second, own_dv (FP.l2d w3), .second, iv e0', iv e1', iv e2', iv e3', s20, own_dv (FP.l2d g), .second, .unset, .unset, rv b22] []))
                refine own_st (fun t k => XS.aload X30.here hx rfl (hb hby at_371) rfl rfl  k) ?_
                refine own_st (fun t k => XS.iconst X30.here hx rfl (hb hby at_373) k) ?_
                refine own_st (fun t k => XS.iconst X30.here hx rfl (hb hby at_374) k) ?_
                show own_Go p e below G (T30.setTop (mkF m 375 #[iv x0, iv x1, iv x2, iv x3, iv 1, iv k0, iv y28, rv b1, own_dv (FP.l2d w0), .second, own_dv (FP.l2d w1), .second, own_dv (FP.l2d w2), .second, own_dv (FP.l2d w3), .second, iv e0', iv e1', iv e2', iv e3', s20, own_dv (FP.l2d g), .second, .unset, .unset, rv b22] [(.int (2 : Int32)), (.int (1 : Int32)), (.ref b22)]))
                obtain ⟨v31, T31, L31, X31, Q31, st31⟩ := own_callS X30 hx hZ (y := (⟨"com/example/thinleaf/thinleaf/prune/NearestLeastPinLaw", "cs", "([DII)V"⟩ : MethodName)) hown (hw _ (List.mem_of_getElem? (i := 36) rfl)) (hw _ (List.mem_of_getElem? (i := 37) rfl)) (hw _ (List.mem_of_getElem? (i := 38) rfl)) (hw _ (List.mem_of_getElem? (i := 39) rfl)) (by decide) (W := 0) (rmX12 l Z a0 hw b22 k22 u29_0 u30_1 u29_2 u30_3 T30.heap n0 Z0 g_b22 V_b22 hb_u30_1 hb_u29_2) (by decide) (by decide) rfl (g := (mkF m 375 #[iv x0, iv x1, iv x2, iv x3, iv 1, iv k0, iv y28, rv b1, own_dv (FP.l2d w0), .second, own_dv (FP.l2d w1), .second, own_dv (FP.l2d w2), .second, own_dv (FP.l2d w3), .second, iv e0', iv e1', iv e2', iv e3', s20, own_dv (FP.l2d g), .second, .unset, .unset, rv b22] [(.int (2 : Int32)), (.int (1 : Int32)), (.ref b22)])) rfl (by rw [hml]; rfl) (argsL := [(.ref b22), (.int (1 : Int32)), (.int (2 : Int32))]) (rest := []) own_pd5 rfl rfl (by show 2 * 0 + _ ≤ _; exact Nat.le_of_eq rfl) (hb hby at_375) rfl (by decide) (by decide)
                obtain ⟨rfl, Nq31, Zq31, u31_1, u31_2, Vq31, hb_u31_1, hb_u31_2, hx_u31_1, hx_u31_2⟩ := Q31
                replace N0 := Fr.app N0 Nq31
                replace Z0 := Zq31
                replace V_b22 := Vq31
                refine own_st st31 ?_
                show own_Go p e below G (T31.setTop (mkF m 378 #[iv x0, iv x1, iv x2, iv x3, iv 1, iv k0, iv y28, rv b1, own_dv (FP.l2d w0), .second, own_dv (FP.l2d w1), .second, own_dv (FP.l2d w2), .second, own_dv (FP.l2d w3), .second, iv e0', iv e1', iv e2', iv e3', s20, own_dv (FP.l2d g), .second, .unset, .unset, rv b22] []))
                refine own_st (fun t k => XS.aload X31.here hx rfl (hb hby at_378) rfl rfl  k) ?_
                refine own_st (fun t k => XS.iload X31.here hx rfl (hb hby at_380) rfl  k) ?_
                refine own_st (fun t k => XS.iconst X31.here hx rfl (hb hby at_382) k) ?_
                show own_Go p e below G (T31.setTop (mkF m 383 #[iv x0, iv x1, iv x2, iv x3, iv 1, iv k0, iv y28, rv b1, own_dv (FP.l2d w0), .second, own_dv (FP.l2d w1), .second, own_dv (FP.l2d w2), .second, own_dv (FP.l2d w3), .second, iv e0', iv e1', iv e2', iv e3', s20, own_dv (FP.l2d g), .second, .unset, .unset, rv b22] [(.int (1 : Int32)), (.int (1 : Int32)), (.ref b22)]))
                refine own_st (fun t k => XS.isub X31.here hx rfl (hb hby at_383) rfl k) ?_
                show own_Go p e below G (T31.setTop (mkF m 384 #[iv x0, iv x1, iv x2, iv x3, iv 1, iv k0, iv y28, rv b1, own_dv (FP.l2d w0), .second, own_dv (FP.l2d w1), .second, own_dv (FP.l2d w2), .second, own_dv (FP.l2d w3), .second, iv e0', iv e1', iv e2', iv e3', s20, own_dv (FP.l2d g), .second, .unset, .unset, rv b22] [(.int (0 : Int32)), (.ref b22)]))
                have Vc32 := V_b22
                obtain ⟨cl32, Ar32, -, Sa32, -, Ha32, -⟩ := Vc32
                have hin32 : ¬ ((0 : Int32) < 0 ∨ cl32.slots.size ≤ ((0 : Int32)).toNatClampNeg) := inb_of Sa32 ⟨by decide, by decide⟩
                refine own_st (fun t k => X31.daload hx (j := (0 : Int32)) (v := (.double (FP.l2d u29_0))) (by exact Ar32.1) (State.isArrayOf_alike hZ.alike Ar32.2.1) Ar32.2.2 hin32 (Ha32.at hin32 rfl) (g := (mkF m 384 #[iv x0, iv x1, iv x2, iv x3, iv 1, iv k0, iv y28, rv b1, own_dv (FP.l2d w0), .second, own_dv (FP.l2d w1), .second, own_dv (FP.l2d w2), .second, own_dv (FP.l2d w3), .second, iv e0', iv e1', iv e2', iv e3', s20, own_dv (FP.l2d g), .second, .unset, .unset, rv b22] [(.int (0 : Int32)), (.ref b22)])) rfl rfl (hb hby at_384) t k) ?_
                show own_Go p e below G (T31.setTop (mkF m 385 #[iv x0, iv x1, iv x2, iv x3, iv 1, iv k0, iv y28, rv b1, own_dv (FP.l2d w0), .second, own_dv (FP.l2d w1), .second, own_dv (FP.l2d w2), .second, own_dv (FP.l2d w3), .second, iv e0', iv e1', iv e2', iv e3', s20, own_dv (FP.l2d g), .second, .unset, .unset, rv b22] [(.double (FP.l2d u29_0))]))
                refine own_st (fun t k => XS.dstore X31.here hx rfl (hb hby at_385) rfl (l' := #[iv x0, iv x1, iv x2, iv x3, iv 1, iv k0, iv y28, rv b1, own_dv (FP.l2d w0), .second, own_dv (FP.l2d w1), .second, own_dv (FP.l2d w2), .second, own_dv (FP.l2d w3), .second, iv e0', iv e1', iv e2', iv e3', s20, own_dv (FP.l2d g), .second, own_dv (FP.l2d u29_0), .second, rv b22]) rfl k) ?_
                refine own_st (fun t k => XS.dload X31.here hx rfl (hb hby at_387) rfl  k) ?_
                refine own_st (fun t k => XS.dload X31.here hx rfl (hb hby at_389) rfl  k) ?_
                show own_Go p e below G (T31.setTop (mkF m 391 #[iv x0, iv x1, iv x2, iv x3, iv 1, iv k0, iv y28, rv b1, own_dv (FP.l2d w0), .second, own_dv (FP.l2d w1), .second, own_dv (FP.l2d w2), .second, own_dv (FP.l2d w3), .second, iv e0', iv e1', iv e2', iv e3', s20, own_dv (FP.l2d g), .second, own_dv (FP.l2d u29_0), .second, rv b22] [(.double (FP.l2d u29_0)), (.double (FP.l2d g))]))
                refine own_st (fun t k => XS.dcmpS X31.here hx rfl (hb hby at_391) rfl (dcmpV_w (own_b53 hgb) (own_b53 hb_u29_0) _) k) ?_
                show own_Go p e below G (T31.setTop (mkF m 392 #[iv x0, iv x1, iv x2, iv x3, iv 1, iv k0, iv y28, rv b1, own_dv (FP.l2d w0), .second, own_dv (FP.l2d w1), .second, own_dv (FP.l2d w2), .second, own_dv (FP.l2d w3), .second, iv e0', iv e1', iv e2', iv e3', s20, own_dv (FP.l2d g), .second, own_dv (FP.l2d u29_0), .second, rv b22] [(.int (lcmpW g u29_0))]))
                refine own_st (fun t k => XS.ifNo X31.here hx rfl (hb hby at_392) rfl ((if0 _ _).trans (teq ((lw_eq _ _).2 (Int64.toInt_inj.mp (by simp only [own_nth, ← hp0, ← hp1, ← hp2, ← hp3] at hg; omega)))).2) k) ?_
                show own_Go p e below G (T31.setTop (mkF m 395 #[iv x0, iv x1, iv x2, iv x3, iv 1, iv k0, iv y28, rv b1, own_dv (FP.l2d w0), .second, own_dv (FP.l2d w1), .second, own_dv (FP.l2d w2), .second, own_dv (FP.l2d w3), .second, iv e0', iv e1', iv e2', iv e3', s20, own_dv (FP.l2d g), .second, own_dv (FP.l2d u29_0), .second, rv b22] []))
                refine own_st (fun t k => XS.iconst X31.here hx rfl (hb hby at_395) k) ?_
                refine own_st (fun t k => XS.goto X31.here hx rfl (pc0 := 396) (pc' := 400) rfl (hb hby at_396) (by decide) (by decide) k) ?_
                show own_Go p e below G (T31.setTop (mkF m 400 #[iv x0, iv x1, iv x2, iv x3, iv 1, iv k0, iv y28, rv b1, own_dv (FP.l2d w0), .second, own_dv (FP.l2d w1), .second, own_dv (FP.l2d w2), .second, own_dv (FP.l2d w3), .second, iv e0', iv e1', iv e2', iv e3', s20, own_dv (FP.l2d g), .second, own_dv (FP.l2d u29_0), .second, rv b22] [(.int (1 : Int32))]))
                rw [hG]
                exact own_retZ X31 hx hlk (t := .boolean) hret (by simp) (hb hby at_400) ⟨rfl, N0⟩ (by decide) (by decide)
              by_cases c331_33 : (3 : Int32) < k0
              · skip
                refine own_st (fun t k => XS.icmpNo X25.here hx rfl (hb hby at_331) rfl (tlt c331_33).2.2.2 k) ?_
                show own_Go p e below G (T25.setTop (mkF m 334 #[iv x0, iv x1, iv x2, iv x3, iv 1, iv k0, iv y28, rv b1, own_dv (FP.l2d w0), .second, own_dv (FP.l2d w1), .second, own_dv (FP.l2d w2), .second, own_dv (FP.l2d w3), .second, iv e0', iv e1', iv e2', iv e3', s20, own_dv (FP.l2d g), .second, .unset, .unset, rv b22] [(.int (3 : Int32)), (.ref b22)]))
                refine own_st (fun t k => XS.dload X25.here hx rfl (hb hby at_334) rfl  k) ?_
                refine own_st (fun t k => XS.goto X25.here hx rfl (pc0 := 336) (pc' := 342) rfl (hb hby at_336) (by decide) (by decide) k) ?_
                show own_Go p e below G (T25.setTop (mkF m 342 #[iv x0, iv x1, iv x2, iv x3, iv 1, iv k0, iv y28, rv b1, own_dv (FP.l2d w0), .second, own_dv (FP.l2d w1), .second, own_dv (FP.l2d w2), .second, own_dv (FP.l2d w3), .second, iv e0', iv e1', iv e2', iv e3', s20, own_dv (FP.l2d g), .second, .unset, .unset, rv b22] [(.double (FP.l2d w3)), (.int (3 : Int32)), (.ref b22)]))
                have hlt : (3 : Int) < k0.toInt := by have q := c331_33; rw [Int32.lt_iff_toInt_lt] at q; have z : ((3 : Int32)).toInt = 3 := rfl; omega
                exact J342 w3 (by unfold own_pad; rw [if_pos hlt]) (own_wb hw3)
              · skip
                refine own_st (fun t k => XS.icmpYes X25.here hx rfl (pc0 := 331) (pc' := 339) rfl (hb hby at_331) rfl (flt c331_33).2.2.2 (by decide) (by decide) k) ?_
                show own_Go p e below G (T25.setTop (mkF m 339 #[iv x0, iv x1, iv x2, iv x3, iv 1, iv k0, iv y28, rv b1, own_dv (FP.l2d w0), .second, own_dv (FP.l2d w1), .second, own_dv (FP.l2d w2), .second, own_dv (FP.l2d w3), .second, iv e0', iv e1', iv e2', iv e3', s20, own_dv (FP.l2d g), .second, .unset, .unset, rv b22] [(.int (3 : Int32)), (.ref b22)]))
                refine own_st (fun t k => X25.ldc2DoubleC hx hown (mvT hZ (hw _ (List.mem_of_getElem? (i := 35) rfl))) (g := (mkF m 339 #[iv x0, iv x1, iv x2, iv x3, iv 1, iv k0, iv y28, rv b1, own_dv (FP.l2d w0), .second, own_dv (FP.l2d w1), .second, own_dv (FP.l2d w2), .second, own_dv (FP.l2d w3), .second, iv e0', iv e1', iv e2', iv e3', s20, own_dv (FP.l2d g), .second, .unset, .unset, rv b22] [(.int (3 : Int32)), (.ref b22)])) rfl (hb hby at_339) t k) ?_
                show own_Go p e below G (T25.setTop (mkF m 342 #[iv x0, iv x1, iv x2, iv x3, iv 1, iv k0, iv y28, rv b1, own_dv (FP.l2d w0), .second, own_dv (FP.l2d w1), .second, own_dv (FP.l2d w2), .second, own_dv (FP.l2d w3), .second, iv e0', iv e1', iv e2', iv e3', s20, own_dv (FP.l2d g), .second, .unset, .unset, rv b22] [(.double (13860109328209412096 : UInt64)), (.int (3 : Int32)), (.ref b22)]))
                rw [own_m100]
                have hlt : ¬ (3 : Int) < k0.toInt := by have q := c331_33; rw [Int32.lt_iff_toInt_lt] at q; have z : ((3 : Int32)).toInt = 3 := rfl; omega
                exact J342 (-100) (by unfold own_pad; rw [if_neg hlt]; decide) (by unfold own_b; decide)
            by_cases c313_34 : (2 : Int32) < k0
            · skip
              refine own_st (fun t k => XS.icmpNo X24.here hx rfl (hb hby at_313) rfl (tlt c313_34).2.2.2 k) ?_
              show own_Go p e below G (T24.setTop (mkF m 316 #[iv x0, iv x1, iv x2, iv x3, iv 1, iv k0, iv y28, rv b1, own_dv (FP.l2d w0), .second, own_dv (FP.l2d w1), .second, own_dv (FP.l2d w2), .second, own_dv (FP.l2d w3), .second, iv e0', iv e1', iv e2', iv e3', s20, own_dv (FP.l2d g), .second, .unset, .unset, rv b22] [(.int (2 : Int32)), (.ref b22)]))
              refine own_st (fun t k => XS.dload X24.here hx rfl (hb hby at_316) rfl  k) ?_
              refine own_st (fun t k => XS.goto X24.here hx rfl (pc0 := 318) (pc' := 324) rfl (hb hby at_318) (by decide) (by decide) k) ?_
              show own_Go p e below G (T24.setTop (mkF m 324 #[iv x0, iv x1, iv x2, iv x3, iv 1, iv k0, iv y28, rv b1, own_dv (FP.l2d w0), .second, own_dv (FP.l2d w1), .second, own_dv (FP.l2d w2), .second, own_dv (FP.l2d w3), .second, iv e0', iv e1', iv e2', iv e3', s20, own_dv (FP.l2d g), .second, .unset, .unset, rv b22] [(.double (FP.l2d w2)), (.int (2 : Int32)), (.ref b22)]))
              have hlt : (2 : Int) < k0.toInt := by have q := c313_34; rw [Int32.lt_iff_toInt_lt] at q; have z : ((2 : Int32)).toInt = 2 := rfl; omega
              exact J324 w2 (by unfold own_pad; rw [if_pos hlt]) (own_wb hw2)
            · skip
              refine own_st (fun t k => XS.icmpYes X24.here hx rfl (pc0 := 313) (pc' := 321) rfl (hb hby at_313) rfl (flt c313_34).2.2.2 (by decide) (by decide) k) ?_
              show own_Go p e below G (T24.setTop (mkF m 321 #[iv x0, iv x1, iv x2, iv x3, iv 1, iv k0, iv y28, rv b1, own_dv (FP.l2d w0), .second, own_dv (FP.l2d w1), .second, own_dv (FP.l2d w2), .second, own_dv (FP.l2d w3), .second, iv e0', iv e1', iv e2', iv e3', s20, own_dv (FP.l2d g), .second, .unset, .unset, rv b22] [(.int (2 : Int32)), (.ref b22)]))
              refine own_st (fun t k => X24.ldc2DoubleC hx hown (mvT hZ (hw _ (List.mem_of_getElem? (i := 35) rfl))) (g := (mkF m 321 #[iv x0, iv x1, iv x2, iv x3, iv 1, iv k0, iv y28, rv b1, own_dv (FP.l2d w0), .second, own_dv (FP.l2d w1), .second, own_dv (FP.l2d w2), .second, own_dv (FP.l2d w3), .second, iv e0', iv e1', iv e2', iv e3', s20, own_dv (FP.l2d g), .second, .unset, .unset, rv b22] [(.int (2 : Int32)), (.ref b22)])) rfl (hb hby at_321) t k) ?_
              show own_Go p e below G (T24.setTop (mkF m 324 #[iv x0, iv x1, iv x2, iv x3, iv 1, iv k0, iv y28, rv b1, own_dv (FP.l2d w0), .second, own_dv (FP.l2d w1), .second, own_dv (FP.l2d w2), .second, own_dv (FP.l2d w3), .second, iv e0', iv e1', iv e2', iv e3', s20, own_dv (FP.l2d g), .second, .unset, .unset, rv b22] [(.double (13860109328209412096 : UInt64)), (.int (2 : Int32)), (.ref b22)]))
              rw [own_m100]
              have hlt : ¬ (2 : Int) < k0.toInt := by have q := c313_34; rw [Int32.lt_iff_toInt_lt] at q; have z : ((2 : Int32)).toInt = 2 := rfl; omega
              exact J324 (-100) (by unfold own_pad; rw [if_neg hlt]; decide) (by unfold own_b; decide)
          by_cases c295_35 : (1 : Int32) < k0
          · skip
            refine own_st (fun t k => XS.icmpNo X23.here hx rfl (hb hby at_295) rfl (tlt c295_35).2.2.2 k) ?_
            show own_Go p e below G (T23.setTop (mkF m 298 #[iv x0, iv x1, iv x2, iv x3, iv 1, iv k0, iv y28, rv b1, own_dv (FP.l2d w0), .second, own_dv (FP.l2d w1), .second, own_dv (FP.l2d w2), .second, own_dv (FP.l2d w3), .second, iv e0', iv e1', iv e2', iv e3', s20, own_dv (FP.l2d g), .second, .unset, .unset, rv b22] [(.int (1 : Int32)), (.ref b22)]))
            refine own_st (fun t k => XS.dload X23.here hx rfl (hb hby at_298) rfl  k) ?_
            refine own_st (fun t k => XS.goto X23.here hx rfl (pc0 := 300) (pc' := 306) rfl (hb hby at_300) (by decide) (by decide) k) ?_
            show own_Go p e below G (T23.setTop (mkF m 306 #[iv x0, iv x1, iv x2, iv x3, iv 1, iv k0, iv y28, rv b1, own_dv (FP.l2d w0), .second, own_dv (FP.l2d w1), .second, own_dv (FP.l2d w2), .second, own_dv (FP.l2d w3), .second, iv e0', iv e1', iv e2', iv e3', s20, own_dv (FP.l2d g), .second, .unset, .unset, rv b22] [(.double (FP.l2d w1)), (.int (1 : Int32)), (.ref b22)]))
            have hlt : (1 : Int) < k0.toInt := by have q := c295_35; rw [Int32.lt_iff_toInt_lt] at q; have z : ((1 : Int32)).toInt = 1 := rfl; omega
            exact J306 w1 (by unfold own_pad; rw [if_pos hlt]) (own_wb hw1)
          · skip
            refine own_st (fun t k => XS.icmpYes X23.here hx rfl (pc0 := 295) (pc' := 303) rfl (hb hby at_295) rfl (flt c295_35).2.2.2 (by decide) (by decide) k) ?_
            show own_Go p e below G (T23.setTop (mkF m 303 #[iv x0, iv x1, iv x2, iv x3, iv 1, iv k0, iv y28, rv b1, own_dv (FP.l2d w0), .second, own_dv (FP.l2d w1), .second, own_dv (FP.l2d w2), .second, own_dv (FP.l2d w3), .second, iv e0', iv e1', iv e2', iv e3', s20, own_dv (FP.l2d g), .second, .unset, .unset, rv b22] [(.int (1 : Int32)), (.ref b22)]))
            refine own_st (fun t k => X23.ldc2DoubleC hx hown (mvT hZ (hw _ (List.mem_of_getElem? (i := 35) rfl))) (g := (mkF m 303 #[iv x0, iv x1, iv x2, iv x3, iv 1, iv k0, iv y28, rv b1, own_dv (FP.l2d w0), .second, own_dv (FP.l2d w1), .second, own_dv (FP.l2d w2), .second, own_dv (FP.l2d w3), .second, iv e0', iv e1', iv e2', iv e3', s20, own_dv (FP.l2d g), .second, .unset, .unset, rv b22] [(.int (1 : Int32)), (.ref b22)])) rfl (hb hby at_303) t k) ?_
            show own_Go p e below G (T23.setTop (mkF m 306 #[iv x0, iv x1, iv x2, iv x3, iv 1, iv k0, iv y28, rv b1, own_dv (FP.l2d w0), .second, own_dv (FP.l2d w1), .second, own_dv (FP.l2d w2), .second, own_dv (FP.l2d w3), .second, iv e0', iv e1', iv e2', iv e3', s20, own_dv (FP.l2d g), .second, .unset, .unset, rv b22] [(.double (13860109328209412096 : UInt64)), (.int (1 : Int32)), (.ref b22)]))
            rw [own_m100]
            have hlt : ¬ (1 : Int) < k0.toInt := by have q := c295_35; rw [Int32.lt_iff_toInt_lt] at q; have z : ((1 : Int32)).toInt = 1 := rfl; omega
            exact J306 (-100) (by unfold own_pad; rw [if_neg hlt]; decide) (by unfold own_b; decide)
        by_cases c277_36 : (0 : Int32) < k0
        · skip
          refine own_st (fun t k => XS.ifNo X22.here hx rfl (hb hby at_277) rfl ((if0 _ _).trans (tlt c277_36).2.2.2) k) ?_
          show own_Go p e below G (T22.setTop (mkF m 280 #[iv x0, iv x1, iv x2, iv x3, iv 1, iv k0, iv y28, rv b1, own_dv (FP.l2d w0), .second, own_dv (FP.l2d w1), .second, own_dv (FP.l2d w2), .second, own_dv (FP.l2d w3), .second, iv e0', iv e1', iv e2', iv e3', s20, own_dv (FP.l2d g), .second, .unset, .unset, rv b22] [(.int (0 : Int32)), (.ref b22)]))
          refine own_st (fun t k => XS.dload X22.here hx rfl (hb hby at_280) rfl  k) ?_
          refine own_st (fun t k => XS.goto X22.here hx rfl (pc0 := 282) (pc' := 288) rfl (hb hby at_282) (by decide) (by decide) k) ?_
          show own_Go p e below G (T22.setTop (mkF m 288 #[iv x0, iv x1, iv x2, iv x3, iv 1, iv k0, iv y28, rv b1, own_dv (FP.l2d w0), .second, own_dv (FP.l2d w1), .second, own_dv (FP.l2d w2), .second, own_dv (FP.l2d w3), .second, iv e0', iv e1', iv e2', iv e3', s20, own_dv (FP.l2d g), .second, .unset, .unset, rv b22] [(.double (FP.l2d w0)), (.int (0 : Int32)), (.ref b22)]))
          have hlt : (0 : Int) < k0.toInt := by have q := c277_36; rw [Int32.lt_iff_toInt_lt] at q; have z : ((0 : Int32)).toInt = 0 := rfl; omega
          exact J288 w0 (by unfold own_pad; rw [if_pos hlt]) (own_wb hw0)
        · skip
          refine own_st (fun t k => XS.ifYes X22.here hx rfl (pc0 := 277) (pc' := 285) rfl (hb hby at_277) rfl ((if0 _ _).trans (flt c277_36).2.2.2) (by decide) (by decide) k) ?_
          show own_Go p e below G (T22.setTop (mkF m 285 #[iv x0, iv x1, iv x2, iv x3, iv 1, iv k0, iv y28, rv b1, own_dv (FP.l2d w0), .second, own_dv (FP.l2d w1), .second, own_dv (FP.l2d w2), .second, own_dv (FP.l2d w3), .second, iv e0', iv e1', iv e2', iv e3', s20, own_dv (FP.l2d g), .second, .unset, .unset, rv b22] [(.int (0 : Int32)), (.ref b22)]))
          refine own_st (fun t k => X22.ldc2DoubleC hx hown (mvT hZ (hw _ (List.mem_of_getElem? (i := 35) rfl))) (g := (mkF m 285 #[iv x0, iv x1, iv x2, iv x3, iv 1, iv k0, iv y28, rv b1, own_dv (FP.l2d w0), .second, own_dv (FP.l2d w1), .second, own_dv (FP.l2d w2), .second, own_dv (FP.l2d w3), .second, iv e0', iv e1', iv e2', iv e3', s20, own_dv (FP.l2d g), .second, .unset, .unset, rv b22] [(.int (0 : Int32)), (.ref b22)])) rfl (hb hby at_285) t k) ?_
          show own_Go p e below G (T22.setTop (mkF m 288 #[iv x0, iv x1, iv x2, iv x3, iv 1, iv k0, iv y28, rv b1, own_dv (FP.l2d w0), .second, own_dv (FP.l2d w1), .second, own_dv (FP.l2d w2), .second, own_dv (FP.l2d w3), .second, iv e0', iv e1', iv e2', iv e3', s20, own_dv (FP.l2d g), .second, .unset, .unset, rv b22] [(.double (13860109328209412096 : UInt64)), (.int (0 : Int32)), (.ref b22)]))
          rw [own_m100]
          have hlt : ¬ (0 : Int) < k0.toInt := by have q := c277_36; rw [Int32.lt_iff_toInt_lt] at q; have z : ((0 : Int32)).toInt = 0 := rfl; omega
          exact J288 (-100) (by unfold own_pad; rw [if_neg hlt]; decide) (by unfold own_b; decide)
      obtain ⟨T37, h37, X37, e37, E37, A37, D37, -, st37⟩ := newO X5 hx hZ hown (hw _ (List.mem_of_getElem? (i := 1) rfl)) (hw _ (List.mem_of_getElem? (i := 2) rfl)) (hw _ (List.mem_of_getElem? (i := 3) rfl)) e5 (g := (mkF m 147 #[iv x0, iv x1, iv x2, iv x3, iv 1, iv k0, iv y28, rv b1, own_dv (FP.l2d w0), .second, own_dv (FP.l2d w1), .second, own_dv (FP.l2d w2), .second, own_dv (FP.l2d w3), .second, iv e0', iv e1', iv e2', iv e3', .unset, .unset, .unset, .unset, .unset, .unset] [])) rfl (hb hby at_147) (by decide) (by decide)
      obtain ⟨b37, gb37⟩ : ∃ z, z = h5.size := ⟨_, rfl⟩
      rw [← gb37] at A37 D37 st37
      have g_b37 : n0 ≤ b37 := Nat.le_trans Z0 (Nat.le_of_eq gb37.symm)
      have ne_b1_b37 : b1 ≠ b37 := Nat.ne_of_lt (Nat.lt_of_lt_of_le V_b1.lt (Nat.le_of_eq gb37.symm))
      replace Z0 := Nat.le_trans Z0 E37.1
      replace V_b1 := V_b1.ext E37
      have E_b37 := A37
      have F_numbers_b37 : Fld Z h37 b37 "com/example/thinleaf/thinleaf/prune/Nearest" "numbers" "[I" .null := D37 (Or.inr (hw _ (List.mem_of_getElem? (i := 11) rfl))) (ty := (.array .int)) (by decide)
      have F_cosines_b37 : Fld Z h37 b37 "com/example/thinleaf/thinleaf/prune/Nearest" "cosines" "[D" .null := D37 (Or.inr (hw _ (List.mem_of_getElem? (i := 14) rfl))) (ty := (.array .double)) (by decide)
      have F_places_b37 : Fld Z h37 b37 "com/example/thinleaf/thinleaf/prune/Nearest" "places" "[I" .null := D37 (Or.inr (hw _ (List.mem_of_getElem? (i := 16) rfl))) (ty := (.array .int)) (by decide)
      have F_size_b37 : Fld Z h37 b37 "com/example/thinleaf/thinleaf/prune/Nearest" "size" "I" (.int (0 : Int32)) := D37 (Or.inl (hw _ (List.mem_of_getElem? (i := 23) rfl))) (ty := .int) (by decide)
      refine own_st st37 ?_
      show own_Go p e below G (T37.setTop (mkF m 150 #[iv x0, iv x1, iv x2, iv x3, iv 1, iv k0, iv y28, rv b1, own_dv (FP.l2d w0), .second, own_dv (FP.l2d w1), .second, own_dv (FP.l2d w2), .second, own_dv (FP.l2d w3), .second, iv e0', iv e1', iv e2', iv e3', .unset, .unset, .unset, .unset, .unset, .unset] [(.ref b37)]))
      refine own_st (fun t k => XS.dup X37.here hx rfl (hb hby at_150) rfl rfl k) ?_
      refine own_st (fun t k => XS.iload X37.here hx rfl (hb hby at_151) rfl  k) ?_
      refine own_st (fun t k => XS.iload X37.here hx rfl (hb hby at_153) rfl  k) ?_
      show own_Go p e below G (T37.setTop (mkF m 155 #[iv x0, iv x1, iv x2, iv x3, iv 1, iv k0, iv y28, rv b1, own_dv (FP.l2d w0), .second, own_dv (FP.l2d w1), .second, own_dv (FP.l2d w2), .second, own_dv (FP.l2d w3), .second, iv e0', iv e1', iv e2', iv e3', .unset, .unset, .unset, .unset, .unset, .unset] [(.int y28), (.int (1 : Int32)), (.ref b37), (.ref b37)]))
      have J164 : ∀ (pv : Value) (Pl : own_Pl Z h37 pv [b37]), own_Go p e below G (T37.setTop (mkF m 164 #[iv x0, iv x1, iv x2, iv x3, iv 1, iv k0, iv y28, rv b1, own_dv (FP.l2d w0), .second, own_dv (FP.l2d w1), .second, own_dv (FP.l2d w2), .second, own_dv (FP.l2d w3), .second, iv e0', iv e1', iv e2', iv e3', .unset, .unset, .unset, .unset, .unset, .unset] [pv, (.int (1 : Int32)), (.ref b37), (.ref b37)])) := by
        intro pv Pl
        obtain ⟨v38, T38, L38, X38, Q38, st38⟩ := own_callC X37 hx hZ (y := (⟨"com/example/thinleaf/thinleaf/prune/Nearest", "<init>", "(I[I)V"⟩ : MethodName)) rfl hown (hw _ (List.mem_of_getElem? (i := 4) rfl)) (hw _ (List.mem_of_getElem? (i := 5) rfl)) (hw _ (List.mem_of_getElem? (i := 3) rfl)) (hw _ (List.mem_of_getElem? (i := 6) rfl)) (by decide) (W := 1) (rmC1 l Z a0 hw b37 pv h37 n0 Z0 g_b37 Pl E_b37 F_numbers_b37 F_cosines_b37 F_places_b37 F_size_b37) (by decide) (by decide) e37 (g := (mkF m 164 #[iv x0, iv x1, iv x2, iv x3, iv 1, iv k0, iv y28, rv b1, own_dv (FP.l2d w0), .second, own_dv (FP.l2d w1), .second, own_dv (FP.l2d w2), .second, own_dv (FP.l2d w3), .second, iv e0', iv e1', iv e2', iv e3', .unset, .unset, .unset, .unset, .unset, .unset] [pv, (.int (1 : Int32)), (.ref b37), (.ref b37)])) rfl (by rw [hml]; rfl) (a := b37) (argsL := [(.int (1 : Int32)), pv]) (rest := [(.ref b37)]) own_pd2 rfl rfl (by show 2 * 0 + _ ≤ _; exact Nat.le_of_eq rfl) (hb hby at_164) rfl (by decide) (by decide)
        obtain ⟨rfl, Nq, bn, bc, kn, kc, NB0⟩ := Q38
        replace N0 := Fr.app N0 Nq
        refine own_st st38 ?_
        show own_Go p e below G (T38.setTop (mkF m 167 #[iv x0, iv x1, iv x2, iv x3, iv 1, iv k0, iv y28, rv b1, own_dv (FP.l2d w0), .second, own_dv (FP.l2d w1), .second, own_dv (FP.l2d w2), .second, own_dv (FP.l2d w3), .second, iv e0', iv e1', iv e2', iv e3', .unset, .unset, .unset, .unset, .unset, .unset] [(.ref b37)]))
        refine own_st (fun t k => XS.astore X38.here hx rfl (hb hby at_167) rfl rfl (l' := #[iv x0, iv x1, iv x2, iv x3, iv 1, iv k0, iv y28, rv b1, own_dv (FP.l2d w0), .second, own_dv (FP.l2d w1), .second, own_dv (FP.l2d w2), .second, own_dv (FP.l2d w3), .second, iv e0', iv e1', iv e2', iv e3', rv b37, .unset, .unset, .unset, .unset, .unset]) rfl k) ?_
        refine own_st (fun t k => XS.iload X38.here hx rfl (hb hby at_169) rfl  k) ?_
        show own_Go p e below G (T38.setTop (mkF m 171 #[iv x0, iv x1, iv x2, iv x3, iv 1, iv k0, iv y28, rv b1, own_dv (FP.l2d w0), .second, own_dv (FP.l2d w1), .second, own_dv (FP.l2d w2), .second, own_dv (FP.l2d w3), .second, iv e0', iv e1', iv e2', iv e3', rv b37, .unset, .unset, .unset, .unset, .unset] [(.int k0)]))
        by_cases c171_39 : (0 : Int32) < k0
        · skip
          refine own_st (fun t k => XS.ifNo X38.here hx rfl (hb hby at_171) rfl ((if0 _ _).trans (tlt c171_39).2.2.2) k) ?_
          show own_Go p e below G (T38.setTop (mkF m 174 #[iv x0, iv x1, iv x2, iv x3, iv 1, iv k0, iv y28, rv b1, own_dv (FP.l2d w0), .second, own_dv (FP.l2d w1), .second, own_dv (FP.l2d w2), .second, own_dv (FP.l2d w3), .second, iv e0', iv e1', iv e2', iv e3', rv b37, .unset, .unset, .unset, .unset, .unset] []))
          refine own_st (fun t k => XS.aload X38.here hx rfl (hb hby at_174) rfl rfl  k) ?_
          refine own_st (fun t k => XS.iload X38.here hx rfl (hb hby at_176) rfl  k) ?_
          refine own_st (fun t k => XS.dload X38.here hx rfl (hb hby at_178) rfl  k) ?_
          show own_Go p e below G (T38.setTop (mkF m 180 #[iv x0, iv x1, iv x2, iv x3, iv 1, iv k0, iv y28, rv b1, own_dv (FP.l2d w0), .second, own_dv (FP.l2d w1), .second, own_dv (FP.l2d w2), .second, own_dv (FP.l2d w3), .second, iv e0', iv e1', iv e2', iv e3', rv b37, .unset, .unset, .unset, .unset, .unset] [(.double (FP.l2d w0)), (.int e0'), (.ref b37)]))
          obtain ⟨v40, T40, L40, X40, Q40, st40⟩ := own_callV X38 hx hZ (y := (⟨"com/example/thinleaf/thinleaf/prune/Nearest", "offer", "(ID)Z"⟩ : MethodName)) (z := (⟨"com/example/thinleaf/thinleaf/prune/Nearest", "offer", "(ID)Z"⟩ : MethodName)) hown (hw _ (List.mem_of_getElem? (i := 26) rfl)) (hw _ (List.mem_of_getElem? (i := 27) rfl)) (notFace_of_selects (args := #[]) (mvT hZ (hw _ (List.mem_of_getElem? (i := 29) rfl)))) (hw _ (List.mem_of_getElem? (i := 29) rfl)) (hw _ (List.mem_of_getElem? (i := 28) rfl)) (hw _ (List.mem_of_getElem? (i := 3) rfl)) (hw _ (List.mem_of_getElem? (i := 30) rfl)) (by decide) (W := 0) (rmO10 l Z a0 hw b37 bn bc kn kc pv e0' w0   T38.heap n0 NB0  hd0 (own_wb hw0)) (by decide) (by decide) rfl (NB0).1 (g := (mkF m 180 #[iv x0, iv x1, iv x2, iv x3, iv 1, iv k0, iv y28, rv b1, own_dv (FP.l2d w0), .second, own_dv (FP.l2d w1), .second, own_dv (FP.l2d w2), .second, own_dv (FP.l2d w3), .second, iv e0', iv e1', iv e2', iv e3', rv b37, .unset, .unset, .unset, .unset, .unset] [(.double (FP.l2d w0)), (.int e0'), (.ref b37)])) rfl (by rw [hml]; rfl) (argsL := [(.int e0'), (.double (FP.l2d w0))]) (rest := []) own_pd3 rfl rfl (by show 2 * 0 + _ ≤ _; exact Nat.le_of_eq rfl) (hb hby at_180) rfl (by decide) (by decide)
          obtain ⟨⟨z40, rfl⟩, Nq40, m0_0, d0_0, NB1, hm_m0_0, hb_d0_0, hR0⟩ := Q40
          replace N0 := Fr.app N0 Nq40
          refine own_st st40 ?_
          show own_Go p e below G (T40.setTop (mkF m 183 #[iv x0, iv x1, iv x2, iv x3, iv 1, iv k0, iv y28, rv b1, own_dv (FP.l2d w0), .second, own_dv (FP.l2d w1), .second, own_dv (FP.l2d w2), .second, own_dv (FP.l2d w3), .second, iv e0', iv e1', iv e2', iv e3', rv b37, .unset, .unset, .unset, .unset, .unset] [(.int z40)]))
          refine own_st (fun t k => XS.pop X40.here hx rfl (hb hby at_183) rfl rfl k) ?_
          refine own_st (fun t k => XS.iload X40.here hx rfl (hb hby at_184) rfl  k) ?_
          refine own_st (fun t k => XS.iconst X40.here hx rfl (hb hby at_186) k) ?_
          show own_Go p e below G (T40.setTop (mkF m 187 #[iv x0, iv x1, iv x2, iv x3, iv 1, iv k0, iv y28, rv b1, own_dv (FP.l2d w0), .second, own_dv (FP.l2d w1), .second, own_dv (FP.l2d w2), .second, own_dv (FP.l2d w3), .second, iv e0', iv e1', iv e2', iv e3', rv b37, .unset, .unset, .unset, .unset, .unset] [(.int (1 : Int32)), (.int k0)]))
          by_cases c187_41 : (1 : Int32) < k0
          · skip
            refine own_st (fun t k => XS.icmpNo X40.here hx rfl (hb hby at_187) rfl (tlt c187_41).2.2.2 k) ?_
            show own_Go p e below G (T40.setTop (mkF m 190 #[iv x0, iv x1, iv x2, iv x3, iv 1, iv k0, iv y28, rv b1, own_dv (FP.l2d w0), .second, own_dv (FP.l2d w1), .second, own_dv (FP.l2d w2), .second, own_dv (FP.l2d w3), .second, iv e0', iv e1', iv e2', iv e3', rv b37, .unset, .unset, .unset, .unset, .unset] []))
            refine own_st (fun t k => XS.aload X40.here hx rfl (hb hby at_190) rfl rfl  k) ?_
            refine own_st (fun t k => XS.iload X40.here hx rfl (hb hby at_192) rfl  k) ?_
            refine own_st (fun t k => XS.dload X40.here hx rfl (hb hby at_194) rfl  k) ?_
            show own_Go p e below G (T40.setTop (mkF m 196 #[iv x0, iv x1, iv x2, iv x3, iv 1, iv k0, iv y28, rv b1, own_dv (FP.l2d w0), .second, own_dv (FP.l2d w1), .second, own_dv (FP.l2d w2), .second, own_dv (FP.l2d w3), .second, iv e0', iv e1', iv e2', iv e3', rv b37, .unset, .unset, .unset, .unset, .unset] [(.double (FP.l2d w1)), (.int e1'), (.ref b37)]))
            obtain ⟨v42, T42, L42, X42, Q42, st42⟩ := own_callV X40 hx hZ (y := (⟨"com/example/thinleaf/thinleaf/prune/Nearest", "offer", "(ID)Z"⟩ : MethodName)) (z := (⟨"com/example/thinleaf/thinleaf/prune/Nearest", "offer", "(ID)Z"⟩ : MethodName)) hown (hw _ (List.mem_of_getElem? (i := 26) rfl)) (hw _ (List.mem_of_getElem? (i := 27) rfl)) (notFace_of_selects (args := #[]) (mvT hZ (hw _ (List.mem_of_getElem? (i := 29) rfl)))) (hw _ (List.mem_of_getElem? (i := 29) rfl)) (hw _ (List.mem_of_getElem? (i := 28) rfl)) (hw _ (List.mem_of_getElem? (i := 3) rfl)) (hw _ (List.mem_of_getElem? (i := 30) rfl)) (by decide) (W := 0) (rmO11 l Z a0 hw b37 bn bc kn kc pv e1' w1 m0_0 d0_0 T40.heap n0 NB1 hm_m0_0 hb_d0_0 hd1 (own_wb hw1)) (by decide) (by decide) rfl (NB1).1 (g := (mkF m 196 #[iv x0, iv x1, iv x2, iv x3, iv 1, iv k0, iv y28, rv b1, own_dv (FP.l2d w0), .second, own_dv (FP.l2d w1), .second, own_dv (FP.l2d w2), .second, own_dv (FP.l2d w3), .second, iv e0', iv e1', iv e2', iv e3', rv b37, .unset, .unset, .unset, .unset, .unset] [(.double (FP.l2d w1)), (.int e1'), (.ref b37)])) rfl (by rw [hml]; rfl) (argsL := [(.int e1'), (.double (FP.l2d w1))]) (rest := []) own_pd3 rfl rfl (by show 2 * 0 + _ ≤ _; exact Nat.le_of_eq rfl) (hb hby at_196) rfl (by decide) (by decide)
            obtain ⟨⟨z42, rfl⟩, Nq42, m1_0, d1_0, NB2, hm_m1_0, hb_d1_0, hR1⟩ := Q42
            replace N0 := Fr.app N0 Nq42
            refine own_st st42 ?_
            show own_Go p e below G (T42.setTop (mkF m 199 #[iv x0, iv x1, iv x2, iv x3, iv 1, iv k0, iv y28, rv b1, own_dv (FP.l2d w0), .second, own_dv (FP.l2d w1), .second, own_dv (FP.l2d w2), .second, own_dv (FP.l2d w3), .second, iv e0', iv e1', iv e2', iv e3', rv b37, .unset, .unset, .unset, .unset, .unset] [(.int z42)]))
            refine own_st (fun t k => XS.pop X42.here hx rfl (hb hby at_199) rfl rfl k) ?_
            refine own_st (fun t k => XS.iload X42.here hx rfl (hb hby at_200) rfl  k) ?_
            refine own_st (fun t k => XS.iconst X42.here hx rfl (hb hby at_202) k) ?_
            show own_Go p e below G (T42.setTop (mkF m 203 #[iv x0, iv x1, iv x2, iv x3, iv 1, iv k0, iv y28, rv b1, own_dv (FP.l2d w0), .second, own_dv (FP.l2d w1), .second, own_dv (FP.l2d w2), .second, own_dv (FP.l2d w3), .second, iv e0', iv e1', iv e2', iv e3', rv b37, .unset, .unset, .unset, .unset, .unset] [(.int (2 : Int32)), (.int k0)]))
            by_cases c203_43 : (2 : Int32) < k0
            · skip
              refine own_st (fun t k => XS.icmpNo X42.here hx rfl (hb hby at_203) rfl (tlt c203_43).2.2.2 k) ?_
              show own_Go p e below G (T42.setTop (mkF m 206 #[iv x0, iv x1, iv x2, iv x3, iv 1, iv k0, iv y28, rv b1, own_dv (FP.l2d w0), .second, own_dv (FP.l2d w1), .second, own_dv (FP.l2d w2), .second, own_dv (FP.l2d w3), .second, iv e0', iv e1', iv e2', iv e3', rv b37, .unset, .unset, .unset, .unset, .unset] []))
              refine own_st (fun t k => XS.aload X42.here hx rfl (hb hby at_206) rfl rfl  k) ?_
              refine own_st (fun t k => XS.iload X42.here hx rfl (hb hby at_208) rfl  k) ?_
              refine own_st (fun t k => XS.dload X42.here hx rfl (hb hby at_210) rfl  k) ?_
              show own_Go p e below G (T42.setTop (mkF m 212 #[iv x0, iv x1, iv x2, iv x3, iv 1, iv k0, iv y28, rv b1, own_dv (FP.l2d w0), .second, own_dv (FP.l2d w1), .second, own_dv (FP.l2d w2), .second, own_dv (FP.l2d w3), .second, iv e0', iv e1', iv e2', iv e3', rv b37, .unset, .unset, .unset, .unset, .unset] [(.double (FP.l2d w2)), (.int e2'), (.ref b37)]))
              obtain ⟨v44, T44, L44, X44, Q44, st44⟩ := own_callV X42 hx hZ (y := (⟨"com/example/thinleaf/thinleaf/prune/Nearest", "offer", "(ID)Z"⟩ : MethodName)) (z := (⟨"com/example/thinleaf/thinleaf/prune/Nearest", "offer", "(ID)Z"⟩ : MethodName)) hown (hw _ (List.mem_of_getElem? (i := 26) rfl)) (hw _ (List.mem_of_getElem? (i := 27) rfl)) (notFace_of_selects (args := #[]) (mvT hZ (hw _ (List.mem_of_getElem? (i := 29) rfl)))) (hw _ (List.mem_of_getElem? (i := 29) rfl)) (hw _ (List.mem_of_getElem? (i := 28) rfl)) (hw _ (List.mem_of_getElem? (i := 3) rfl)) (hw _ (List.mem_of_getElem? (i := 30) rfl)) (by decide) (W := 0) (rmO11 l Z a0 hw b37 bn bc kn kc pv e2' w2 m1_0 d1_0 T42.heap n0 NB2 hm_m1_0 hb_d1_0 hd2 (own_wb hw2)) (by decide) (by decide) rfl (NB2).1 (g := (mkF m 212 #[iv x0, iv x1, iv x2, iv x3, iv 1, iv k0, iv y28, rv b1, own_dv (FP.l2d w0), .second, own_dv (FP.l2d w1), .second, own_dv (FP.l2d w2), .second, own_dv (FP.l2d w3), .second, iv e0', iv e1', iv e2', iv e3', rv b37, .unset, .unset, .unset, .unset, .unset] [(.double (FP.l2d w2)), (.int e2'), (.ref b37)])) rfl (by rw [hml]; rfl) (argsL := [(.int e2'), (.double (FP.l2d w2))]) (rest := []) own_pd3 rfl rfl (by show 2 * 0 + _ ≤ _; exact Nat.le_of_eq rfl) (hb hby at_212) rfl (by decide) (by decide)
              obtain ⟨⟨z44, rfl⟩, Nq44, m2_0, d2_0, NB3, hm_m2_0, hb_d2_0, hR2⟩ := Q44
              replace N0 := Fr.app N0 Nq44
              refine own_st st44 ?_
              show own_Go p e below G (T44.setTop (mkF m 215 #[iv x0, iv x1, iv x2, iv x3, iv 1, iv k0, iv y28, rv b1, own_dv (FP.l2d w0), .second, own_dv (FP.l2d w1), .second, own_dv (FP.l2d w2), .second, own_dv (FP.l2d w3), .second, iv e0', iv e1', iv e2', iv e3', rv b37, .unset, .unset, .unset, .unset, .unset] [(.int z44)]))
              refine own_st (fun t k => XS.pop X44.here hx rfl (hb hby at_215) rfl rfl k) ?_
              refine own_st (fun t k => XS.iload X44.here hx rfl (hb hby at_216) rfl  k) ?_
              refine own_st (fun t k => XS.iconst X44.here hx rfl (hb hby at_218) k) ?_
              show own_Go p e below G (T44.setTop (mkF m 219 #[iv x0, iv x1, iv x2, iv x3, iv 1, iv k0, iv y28, rv b1, own_dv (FP.l2d w0), .second, own_dv (FP.l2d w1), .second, own_dv (FP.l2d w2), .second, own_dv (FP.l2d w3), .second, iv e0', iv e1', iv e2', iv e3', rv b37, .unset, .unset, .unset, .unset, .unset] [(.int (3 : Int32)), (.int k0)]))
              by_cases c219_45 : (3 : Int32) < k0
              · skip
                refine own_st (fun t k => XS.icmpNo X44.here hx rfl (hb hby at_219) rfl (tlt c219_45).2.2.2 k) ?_
                show own_Go p e below G (T44.setTop (mkF m 222 #[iv x0, iv x1, iv x2, iv x3, iv 1, iv k0, iv y28, rv b1, own_dv (FP.l2d w0), .second, own_dv (FP.l2d w1), .second, own_dv (FP.l2d w2), .second, own_dv (FP.l2d w3), .second, iv e0', iv e1', iv e2', iv e3', rv b37, .unset, .unset, .unset, .unset, .unset] []))
                refine own_st (fun t k => XS.aload X44.here hx rfl (hb hby at_222) rfl rfl  k) ?_
                refine own_st (fun t k => XS.iload X44.here hx rfl (hb hby at_224) rfl  k) ?_
                refine own_st (fun t k => XS.dload X44.here hx rfl (hb hby at_226) rfl  k) ?_
                show own_Go p e below G (T44.setTop (mkF m 228 #[iv x0, iv x1, iv x2, iv x3, iv 1, iv k0, iv y28, rv b1, own_dv (FP.l2d w0), .second, own_dv (FP.l2d w1), .second, own_dv (FP.l2d w2), .second, own_dv (FP.l2d w3), .second, iv e0', iv e1', iv e2', iv e3', rv b37, .unset, .unset, .unset, .unset, .unset] [(.double (FP.l2d w3)), (.int e3'), (.ref b37)]))
                obtain ⟨v46, T46, L46, X46, Q46, st46⟩ := own_callV X44 hx hZ (y := (⟨"com/example/thinleaf/thinleaf/prune/Nearest", "offer", "(ID)Z"⟩ : MethodName)) (z := (⟨"com/example/thinleaf/thinleaf/prune/Nearest", "offer", "(ID)Z"⟩ : MethodName)) hown (hw _ (List.mem_of_getElem? (i := 26) rfl)) (hw _ (List.mem_of_getElem? (i := 27) rfl)) (notFace_of_selects (args := #[]) (mvT hZ (hw _ (List.mem_of_getElem? (i := 29) rfl)))) (hw _ (List.mem_of_getElem? (i := 29) rfl)) (hw _ (List.mem_of_getElem? (i := 28) rfl)) (hw _ (List.mem_of_getElem? (i := 3) rfl)) (hw _ (List.mem_of_getElem? (i := 30) rfl)) (by decide) (W := 0) (rmO11 l Z a0 hw b37 bn bc kn kc pv e3' w3 m2_0 d2_0 T44.heap n0 NB3 hm_m2_0 hb_d2_0 hd3 (own_wb hw3)) (by decide) (by decide) rfl (NB3).1 (g := (mkF m 228 #[iv x0, iv x1, iv x2, iv x3, iv 1, iv k0, iv y28, rv b1, own_dv (FP.l2d w0), .second, own_dv (FP.l2d w1), .second, own_dv (FP.l2d w2), .second, own_dv (FP.l2d w3), .second, iv e0', iv e1', iv e2', iv e3', rv b37, .unset, .unset, .unset, .unset, .unset] [(.double (FP.l2d w3)), (.int e3'), (.ref b37)])) rfl (by rw [hml]; rfl) (argsL := [(.int e3'), (.double (FP.l2d w3))]) (rest := []) own_pd3 rfl rfl (by show 2 * 0 + _ ≤ _; exact Nat.le_of_eq rfl) (hb hby at_228) rfl (by decide) (by decide)
                obtain ⟨⟨z46, rfl⟩, Nq46, m3_0, d3_0, NB4, hm_m3_0, hb_d3_0, hR3⟩ := Q46
                replace N0 := Fr.app N0 Nq46
                refine own_st st46 ?_
                show own_Go p e below G (T46.setTop (mkF m 231 #[iv x0, iv x1, iv x2, iv x3, iv 1, iv k0, iv y28, rv b1, own_dv (FP.l2d w0), .second, own_dv (FP.l2d w1), .second, own_dv (FP.l2d w2), .second, own_dv (FP.l2d w3), .second, iv e0', iv e1', iv e2', iv e3', rv b37, .unset, .unset, .unset, .unset, .unset] [(.int z46)]))
                refine own_st (fun t k => XS.pop X46.here hx rfl (hb hby at_231) rfl rfl k) ?_
                refine own_st (fun t k => XS.aload X46.here hx rfl (hb hby at_232) rfl rfl  k) ?_
                show own_Go p e below G (T46.setTop (mkF m 234 #[iv x0, iv x1, iv x2, iv x3, iv 1, iv k0, iv y28, rv b1, own_dv (FP.l2d w0), .second, own_dv (FP.l2d w1), .second, own_dv (FP.l2d w2), .second, own_dv (FP.l2d w3), .second, iv e0', iv e1', iv e2', iv e3', rv b37, .unset, .unset, .unset, .unset, .unset] [(.ref b37)]))
                obtain ⟨v47, T47, L47, X47, Q47, st47⟩ := own_callV X46 hx hZ (y := (⟨"com/example/thinleaf/thinleaf/prune/Nearest", "least", "()D"⟩ : MethodName)) (z := (⟨"com/example/thinleaf/thinleaf/prune/Nearest", "least", "()D"⟩ : MethodName)) hown (hw _ (List.mem_of_getElem? (i := 17) rfl)) (hw _ (List.mem_of_getElem? (i := 18) rfl)) (notFace_of_selects (args := #[]) (mvT hZ (hw _ (List.mem_of_getElem? (i := 20) rfl)))) (hw _ (List.mem_of_getElem? (i := 20) rfl)) (hw _ (List.mem_of_getElem? (i := 19) rfl)) (hw _ (List.mem_of_getElem? (i := 3) rfl)) (hw _ (List.mem_of_getElem? (i := 21) rfl)) (by decide) (W := 0) (rmL11 l Z a0 hw b37 bn bc kn kc pv m3_0 d3_0 T46.heap n0 NB4) (by decide) (by decide) rfl (NB4).1 (g := (mkF m 234 #[iv x0, iv x1, iv x2, iv x3, iv 1, iv k0, iv y28, rv b1, own_dv (FP.l2d w0), .second, own_dv (FP.l2d w1), .second, own_dv (FP.l2d w2), .second, own_dv (FP.l2d w3), .second, iv e0', iv e1', iv e2', iv e3', rv b37, .unset, .unset, .unset, .unset, .unset] [(.ref b37)])) rfl (by rw [hml]; rfl) (argsL := []) (rest := []) own_pd4 rfl rfl (by show 2 * 0 + _ ≤ _; exact Nat.le_of_eq rfl) (hb hby at_234) rfl (by decide) (by decide)
                obtain ⟨rfl, rfl, e47⟩ := Q47
                simp only [List.append_nil, Nat.add_zero] at X47
                refine own_st st47 ?_
                show own_Go p e below G (T47.setTop (mkF m 237 #[iv x0, iv x1, iv x2, iv x3, iv 1, iv k0, iv y28, rv b1, own_dv (FP.l2d w0), .second, own_dv (FP.l2d w1), .second, own_dv (FP.l2d w2), .second, own_dv (FP.l2d w3), .second, iv e0', iv e1', iv e2', iv e3', rv b37, .unset, .unset, .unset, .unset, .unset] [(.double (FP.l2d d3_0))]))
                refine own_st (fun t k => XS.dstore X47.here hx rfl (hb hby at_237) rfl (l' := #[iv x0, iv x1, iv x2, iv x3, iv 1, iv k0, iv y28, rv b1, own_dv (FP.l2d w0), .second, own_dv (FP.l2d w1), .second, own_dv (FP.l2d w2), .second, own_dv (FP.l2d w3), .second, iv e0', iv e1', iv e2', iv e3', rv b37, own_dv (FP.l2d d3_0), .second, .unset, .unset, .unset]) rfl k) ?_
                show own_Go p e below G (T47.setTop (mkF m 239 #[iv x0, iv x1, iv x2, iv x3, iv 1, iv k0, iv y28, rv b1, own_dv (FP.l2d w0), .second, own_dv (FP.l2d w1), .second, own_dv (FP.l2d w2), .second, own_dv (FP.l2d w3), .second, iv e0', iv e1', iv e2', iv e3', rv b37, own_dv (FP.l2d d3_0), .second, .unset, .unset, .unset] []))
                have hkl : k0.toInt = 4 := by
                  have c171_39' := c171_39
                  rw [Int32.lt_iff_toInt_lt] at c171_39'
                  have zz0 : ((0 : Int32)).toInt = 0 := rfl
                  have c187_41' := c187_41
                  rw [Int32.lt_iff_toInt_lt] at c187_41'
                  have zz1 : ((1 : Int32)).toInt = 1 := rfl
                  have c203_43' := c203_43
                  rw [Int32.lt_iff_toInt_lt] at c203_43'
                  have zz2 : ((2 : Int32)).toInt = 2 := rfl
                  have c219_45' := c219_45
                  rw [Int32.lt_iff_toInt_lt] at c219_45'
                  have zz3 : ((3 : Int32)).toInt = 3 := rfl
                  omega
                have pd0 : own_pad k0 0 w0 = w0.toInt := if_pos (by omega)
                have pd1 : own_pad k0 1 w1 = w1.toInt := if_pos (by omega)
                have pd2 : own_pad k0 2 w2 = w2.toInt := if_pos (by omega)
                have pd3 : own_pad k0 3 w3 = w3.toInt := if_pos (by omega)
                unfold own_R10 at hR0
                unfold own_R11 at hR1
                unfold own_R11 at hR2
                unfold own_R11 at hR3
                simp only [own_S1, own_S2, own_S3] at hR1 hR2 hR3
                exact J239 _ _ X47 N0 (by rw [e47]; exact (NB4).2.2.2.2.2.2.2.2.2.2.2.2.2.2) _ d3_0 hb_d3_0 (by rw [Int32.lt_iff_toInt_lt, show ((1 : Int32)).toInt = 1 from rfl]; omega) (by rw [pd0, pd1, pd2, pd3]; simp only [own_nth]; simp only [← Int64.toInt_inj] at hR0 hR1 hR2 hR3; omega)
              · skip
                refine own_st (fun t k => XS.icmpYes X44.here hx rfl (pc0 := 219) (pc' := 232) rfl (hb hby at_219) rfl (flt c219_45).2.2.2 (by decide) (by decide) k) ?_
                show own_Go p e below G (T44.setTop (mkF m 232 #[iv x0, iv x1, iv x2, iv x3, iv 1, iv k0, iv y28, rv b1, own_dv (FP.l2d w0), .second, own_dv (FP.l2d w1), .second, own_dv (FP.l2d w2), .second, own_dv (FP.l2d w3), .second, iv e0', iv e1', iv e2', iv e3', rv b37, .unset, .unset, .unset, .unset, .unset] []))
                refine own_st (fun t k => XS.aload X44.here hx rfl (hb hby at_232) rfl rfl  k) ?_
                show own_Go p e below G (T44.setTop (mkF m 234 #[iv x0, iv x1, iv x2, iv x3, iv 1, iv k0, iv y28, rv b1, own_dv (FP.l2d w0), .second, own_dv (FP.l2d w1), .second, own_dv (FP.l2d w2), .second, own_dv (FP.l2d w3), .second, iv e0', iv e1', iv e2', iv e3', rv b37, .unset, .unset, .unset, .unset, .unset] [(.ref b37)]))
                obtain ⟨v48, T48, L48, X48, Q48, st48⟩ := own_callV X44 hx hZ (y := (⟨"com/example/thinleaf/thinleaf/prune/Nearest", "least", "()D"⟩ : MethodName)) (z := (⟨"com/example/thinleaf/thinleaf/prune/Nearest", "least", "()D"⟩ : MethodName)) hown (hw _ (List.mem_of_getElem? (i := 17) rfl)) (hw _ (List.mem_of_getElem? (i := 18) rfl)) (notFace_of_selects (args := #[]) (mvT hZ (hw _ (List.mem_of_getElem? (i := 20) rfl)))) (hw _ (List.mem_of_getElem? (i := 20) rfl)) (hw _ (List.mem_of_getElem? (i := 19) rfl)) (hw _ (List.mem_of_getElem? (i := 3) rfl)) (hw _ (List.mem_of_getElem? (i := 21) rfl)) (by decide) (W := 0) (rmL11 l Z a0 hw b37 bn bc kn kc pv m2_0 d2_0 T44.heap n0 NB3) (by decide) (by decide) rfl (NB3).1 (g := (mkF m 234 #[iv x0, iv x1, iv x2, iv x3, iv 1, iv k0, iv y28, rv b1, own_dv (FP.l2d w0), .second, own_dv (FP.l2d w1), .second, own_dv (FP.l2d w2), .second, own_dv (FP.l2d w3), .second, iv e0', iv e1', iv e2', iv e3', rv b37, .unset, .unset, .unset, .unset, .unset] [(.ref b37)])) rfl (by rw [hml]; rfl) (argsL := []) (rest := []) own_pd4 rfl rfl (by show 2 * 0 + _ ≤ _; exact Nat.le_of_eq rfl) (hb hby at_234) rfl (by decide) (by decide)
                obtain ⟨rfl, rfl, e48⟩ := Q48
                simp only [List.append_nil, Nat.add_zero] at X48
                refine own_st st48 ?_
                show own_Go p e below G (T48.setTop (mkF m 237 #[iv x0, iv x1, iv x2, iv x3, iv 1, iv k0, iv y28, rv b1, own_dv (FP.l2d w0), .second, own_dv (FP.l2d w1), .second, own_dv (FP.l2d w2), .second, own_dv (FP.l2d w3), .second, iv e0', iv e1', iv e2', iv e3', rv b37, .unset, .unset, .unset, .unset, .unset] [(.double (FP.l2d d2_0))]))
                refine own_st (fun t k => XS.dstore X48.here hx rfl (hb hby at_237) rfl (l' := #[iv x0, iv x1, iv x2, iv x3, iv 1, iv k0, iv y28, rv b1, own_dv (FP.l2d w0), .second, own_dv (FP.l2d w1), .second, own_dv (FP.l2d w2), .second, own_dv (FP.l2d w3), .second, iv e0', iv e1', iv e2', iv e3', rv b37, own_dv (FP.l2d d2_0), .second, .unset, .unset, .unset]) rfl k) ?_
                show own_Go p e below G (T48.setTop (mkF m 239 #[iv x0, iv x1, iv x2, iv x3, iv 1, iv k0, iv y28, rv b1, own_dv (FP.l2d w0), .second, own_dv (FP.l2d w1), .second, own_dv (FP.l2d w2), .second, own_dv (FP.l2d w3), .second, iv e0', iv e1', iv e2', iv e3', rv b37, own_dv (FP.l2d d2_0), .second, .unset, .unset, .unset] []))
                have hkl : k0.toInt = 3 := by
                  have c171_39' := c171_39
                  rw [Int32.lt_iff_toInt_lt] at c171_39'
                  have zz0 : ((0 : Int32)).toInt = 0 := rfl
                  have c187_41' := c187_41
                  rw [Int32.lt_iff_toInt_lt] at c187_41'
                  have zz1 : ((1 : Int32)).toInt = 1 := rfl
                  have c203_43' := c203_43
                  rw [Int32.lt_iff_toInt_lt] at c203_43'
                  have zz2 : ((2 : Int32)).toInt = 2 := rfl
                  have c219_45' := c219_45
                  rw [Int32.lt_iff_toInt_lt] at c219_45'
                  have zz3 : ((3 : Int32)).toInt = 3 := rfl
                  omega
                have pd0 : own_pad k0 0 w0 = w0.toInt := if_pos (by omega)
                have pd1 : own_pad k0 1 w1 = w1.toInt := if_pos (by omega)
                have pd2 : own_pad k0 2 w2 = w2.toInt := if_pos (by omega)
                have pd3 : own_pad k0 3 w3 = -100 := if_neg (by omega)
                unfold own_R10 at hR0
                unfold own_R11 at hR1
                unfold own_R11 at hR2
                simp only [own_S1, own_S2, own_S3] at hR1 hR2
                exact J239 _ _ X48 N0 (by rw [e48]; exact (NB3).2.2.2.2.2.2.2.2.2.2.2.2.2.2) _ d2_0 hb_d2_0 (by rw [Int32.lt_iff_toInt_lt, show ((1 : Int32)).toInt = 1 from rfl]; omega) (by rw [pd0, pd1, pd2, pd3]; simp only [own_nth]; simp only [← Int64.toInt_inj] at hR0 hR1 hR2; omega)
            · skip
              refine own_st (fun t k => XS.icmpYes X42.here hx rfl (pc0 := 203) (pc' := 216) rfl (hb hby at_203) rfl (flt c203_43).2.2.2 (by decide) (by decide) k) ?_
              show own_Go p e below G (T42.setTop (mkF m 216 #[iv x0, iv x1, iv x2, iv x3, iv 1, iv k0, iv y28, rv b1, own_dv (FP.l2d w0), .second, own_dv (FP.l2d w1), .second, own_dv (FP.l2d w2), .second, own_dv (FP.l2d w3), .second, iv e0', iv e1', iv e2', iv e3', rv b37, .unset, .unset, .unset, .unset, .unset] []))
              refine own_st (fun t k => XS.iload X42.here hx rfl (hb hby at_216) rfl  k) ?_
              refine own_st (fun t k => XS.iconst X42.here hx rfl (hb hby at_218) k) ?_
              show own_Go p e below G (T42.setTop (mkF m 219 #[iv x0, iv x1, iv x2, iv x3, iv 1, iv k0, iv y28, rv b1, own_dv (FP.l2d w0), .second, own_dv (FP.l2d w1), .second, own_dv (FP.l2d w2), .second, own_dv (FP.l2d w3), .second, iv e0', iv e1', iv e2', iv e3', rv b37, .unset, .unset, .unset, .unset, .unset] [(.int (3 : Int32)), (.int k0)]))
              refine own_st (fun t k => XS.icmpYes X42.here hx rfl (pc0 := 219) (pc' := 232) rfl (hb hby at_219) rfl (flt (fun q => c203_43 (Int32.lt_trans (by decide) q))).2.2.2 (by decide) (by decide) k) ?_
              show own_Go p e below G (T42.setTop (mkF m 232 #[iv x0, iv x1, iv x2, iv x3, iv 1, iv k0, iv y28, rv b1, own_dv (FP.l2d w0), .second, own_dv (FP.l2d w1), .second, own_dv (FP.l2d w2), .second, own_dv (FP.l2d w3), .second, iv e0', iv e1', iv e2', iv e3', rv b37, .unset, .unset, .unset, .unset, .unset] []))
              refine own_st (fun t k => XS.aload X42.here hx rfl (hb hby at_232) rfl rfl  k) ?_
              show own_Go p e below G (T42.setTop (mkF m 234 #[iv x0, iv x1, iv x2, iv x3, iv 1, iv k0, iv y28, rv b1, own_dv (FP.l2d w0), .second, own_dv (FP.l2d w1), .second, own_dv (FP.l2d w2), .second, own_dv (FP.l2d w3), .second, iv e0', iv e1', iv e2', iv e3', rv b37, .unset, .unset, .unset, .unset, .unset] [(.ref b37)]))
              obtain ⟨v49, T49, L49, X49, Q49, st49⟩ := own_callV X42 hx hZ (y := (⟨"com/example/thinleaf/thinleaf/prune/Nearest", "least", "()D"⟩ : MethodName)) (z := (⟨"com/example/thinleaf/thinleaf/prune/Nearest", "least", "()D"⟩ : MethodName)) hown (hw _ (List.mem_of_getElem? (i := 17) rfl)) (hw _ (List.mem_of_getElem? (i := 18) rfl)) (notFace_of_selects (args := #[]) (mvT hZ (hw _ (List.mem_of_getElem? (i := 20) rfl)))) (hw _ (List.mem_of_getElem? (i := 20) rfl)) (hw _ (List.mem_of_getElem? (i := 19) rfl)) (hw _ (List.mem_of_getElem? (i := 3) rfl)) (hw _ (List.mem_of_getElem? (i := 21) rfl)) (by decide) (W := 0) (rmL11 l Z a0 hw b37 bn bc kn kc pv m1_0 d1_0 T42.heap n0 NB2) (by decide) (by decide) rfl (NB2).1 (g := (mkF m 234 #[iv x0, iv x1, iv x2, iv x3, iv 1, iv k0, iv y28, rv b1, own_dv (FP.l2d w0), .second, own_dv (FP.l2d w1), .second, own_dv (FP.l2d w2), .second, own_dv (FP.l2d w3), .second, iv e0', iv e1', iv e2', iv e3', rv b37, .unset, .unset, .unset, .unset, .unset] [(.ref b37)])) rfl (by rw [hml]; rfl) (argsL := []) (rest := []) own_pd4 rfl rfl (by show 2 * 0 + _ ≤ _; exact Nat.le_of_eq rfl) (hb hby at_234) rfl (by decide) (by decide)
              obtain ⟨rfl, rfl, e49⟩ := Q49
              simp only [List.append_nil, Nat.add_zero] at X49
              refine own_st st49 ?_
              show own_Go p e below G (T49.setTop (mkF m 237 #[iv x0, iv x1, iv x2, iv x3, iv 1, iv k0, iv y28, rv b1, own_dv (FP.l2d w0), .second, own_dv (FP.l2d w1), .second, own_dv (FP.l2d w2), .second, own_dv (FP.l2d w3), .second, iv e0', iv e1', iv e2', iv e3', rv b37, .unset, .unset, .unset, .unset, .unset] [(.double (FP.l2d d1_0))]))
              refine own_st (fun t k => XS.dstore X49.here hx rfl (hb hby at_237) rfl (l' := #[iv x0, iv x1, iv x2, iv x3, iv 1, iv k0, iv y28, rv b1, own_dv (FP.l2d w0), .second, own_dv (FP.l2d w1), .second, own_dv (FP.l2d w2), .second, own_dv (FP.l2d w3), .second, iv e0', iv e1', iv e2', iv e3', rv b37, own_dv (FP.l2d d1_0), .second, .unset, .unset, .unset]) rfl k) ?_
              show own_Go p e below G (T49.setTop (mkF m 239 #[iv x0, iv x1, iv x2, iv x3, iv 1, iv k0, iv y28, rv b1, own_dv (FP.l2d w0), .second, own_dv (FP.l2d w1), .second, own_dv (FP.l2d w2), .second, own_dv (FP.l2d w3), .second, iv e0', iv e1', iv e2', iv e3', rv b37, own_dv (FP.l2d d1_0), .second, .unset, .unset, .unset] []))
              have hkl : k0.toInt = 2 := by
                have c171_39' := c171_39
                rw [Int32.lt_iff_toInt_lt] at c171_39'
                have zz0 : ((0 : Int32)).toInt = 0 := rfl
                have c187_41' := c187_41
                rw [Int32.lt_iff_toInt_lt] at c187_41'
                have zz1 : ((1 : Int32)).toInt = 1 := rfl
                have c203_43' := c203_43
                rw [Int32.lt_iff_toInt_lt] at c203_43'
                have zz2 : ((2 : Int32)).toInt = 2 := rfl
                omega
              have pd0 : own_pad k0 0 w0 = w0.toInt := if_pos (by omega)
              have pd1 : own_pad k0 1 w1 = w1.toInt := if_pos (by omega)
              have pd2 : own_pad k0 2 w2 = -100 := if_neg (by omega)
              have pd3 : own_pad k0 3 w3 = -100 := if_neg (by omega)
              unfold own_R10 at hR0
              unfold own_R11 at hR1
              simp only [own_S1, own_S2, own_S3] at hR1
              exact J239 _ _ X49 N0 (by rw [e49]; exact (NB2).2.2.2.2.2.2.2.2.2.2.2.2.2.2) _ d1_0 hb_d1_0 (by rw [Int32.lt_iff_toInt_lt, show ((1 : Int32)).toInt = 1 from rfl]; omega) (by rw [pd0, pd1, pd2, pd3]; simp only [own_nth]; simp only [← Int64.toInt_inj] at hR0 hR1; omega)
          · skip
            refine own_st (fun t k => XS.icmpYes X40.here hx rfl (pc0 := 187) (pc' := 200) rfl (hb hby at_187) rfl (flt c187_41).2.2.2 (by decide) (by decide) k) ?_
            show own_Go p e below G (T40.setTop (mkF m 200 #[iv x0, iv x1, iv x2, iv x3, iv 1, iv k0, iv y28, rv b1, own_dv (FP.l2d w0), .second, own_dv (FP.l2d w1), .second, own_dv (FP.l2d w2), .second, own_dv (FP.l2d w3), .second, iv e0', iv e1', iv e2', iv e3', rv b37, .unset, .unset, .unset, .unset, .unset] []))
            refine own_st (fun t k => XS.iload X40.here hx rfl (hb hby at_200) rfl  k) ?_
            refine own_st (fun t k => XS.iconst X40.here hx rfl (hb hby at_202) k) ?_
            show own_Go p e below G (T40.setTop (mkF m 203 #[iv x0, iv x1, iv x2, iv x3, iv 1, iv k0, iv y28, rv b1, own_dv (FP.l2d w0), .second, own_dv (FP.l2d w1), .second, own_dv (FP.l2d w2), .second, own_dv (FP.l2d w3), .second, iv e0', iv e1', iv e2', iv e3', rv b37, .unset, .unset, .unset, .unset, .unset] [(.int (2 : Int32)), (.int k0)]))
            refine own_st (fun t k => XS.icmpYes X40.here hx rfl (pc0 := 203) (pc' := 216) rfl (hb hby at_203) rfl (flt (fun q => c187_41 (Int32.lt_trans (by decide) q))).2.2.2 (by decide) (by decide) k) ?_
            show own_Go p e below G (T40.setTop (mkF m 216 #[iv x0, iv x1, iv x2, iv x3, iv 1, iv k0, iv y28, rv b1, own_dv (FP.l2d w0), .second, own_dv (FP.l2d w1), .second, own_dv (FP.l2d w2), .second, own_dv (FP.l2d w3), .second, iv e0', iv e1', iv e2', iv e3', rv b37, .unset, .unset, .unset, .unset, .unset] []))
            refine own_st (fun t k => XS.iload X40.here hx rfl (hb hby at_216) rfl  k) ?_
            refine own_st (fun t k => XS.iconst X40.here hx rfl (hb hby at_218) k) ?_
            show own_Go p e below G (T40.setTop (mkF m 219 #[iv x0, iv x1, iv x2, iv x3, iv 1, iv k0, iv y28, rv b1, own_dv (FP.l2d w0), .second, own_dv (FP.l2d w1), .second, own_dv (FP.l2d w2), .second, own_dv (FP.l2d w3), .second, iv e0', iv e1', iv e2', iv e3', rv b37, .unset, .unset, .unset, .unset, .unset] [(.int (3 : Int32)), (.int k0)]))
            refine own_st (fun t k => XS.icmpYes X40.here hx rfl (pc0 := 219) (pc' := 232) rfl (hb hby at_219) rfl (flt (fun q => c187_41 (Int32.lt_trans (by decide) q))).2.2.2 (by decide) (by decide) k) ?_
            show own_Go p e below G (T40.setTop (mkF m 232 #[iv x0, iv x1, iv x2, iv x3, iv 1, iv k0, iv y28, rv b1, own_dv (FP.l2d w0), .second, own_dv (FP.l2d w1), .second, own_dv (FP.l2d w2), .second, own_dv (FP.l2d w3), .second, iv e0', iv e1', iv e2', iv e3', rv b37, .unset, .unset, .unset, .unset, .unset] []))
            refine own_st (fun t k => XS.aload X40.here hx rfl (hb hby at_232) rfl rfl  k) ?_
            show own_Go p e below G (T40.setTop (mkF m 234 #[iv x0, iv x1, iv x2, iv x3, iv 1, iv k0, iv y28, rv b1, own_dv (FP.l2d w0), .second, own_dv (FP.l2d w1), .second, own_dv (FP.l2d w2), .second, own_dv (FP.l2d w3), .second, iv e0', iv e1', iv e2', iv e3', rv b37, .unset, .unset, .unset, .unset, .unset] [(.ref b37)]))
            obtain ⟨v50, T50, L50, X50, Q50, st50⟩ := own_callV X40 hx hZ (y := (⟨"com/example/thinleaf/thinleaf/prune/Nearest", "least", "()D"⟩ : MethodName)) (z := (⟨"com/example/thinleaf/thinleaf/prune/Nearest", "least", "()D"⟩ : MethodName)) hown (hw _ (List.mem_of_getElem? (i := 17) rfl)) (hw _ (List.mem_of_getElem? (i := 18) rfl)) (notFace_of_selects (args := #[]) (mvT hZ (hw _ (List.mem_of_getElem? (i := 20) rfl)))) (hw _ (List.mem_of_getElem? (i := 20) rfl)) (hw _ (List.mem_of_getElem? (i := 19) rfl)) (hw _ (List.mem_of_getElem? (i := 3) rfl)) (hw _ (List.mem_of_getElem? (i := 21) rfl)) (by decide) (W := 0) (rmL11 l Z a0 hw b37 bn bc kn kc pv m0_0 d0_0 T40.heap n0 NB1) (by decide) (by decide) rfl (NB1).1 (g := (mkF m 234 #[iv x0, iv x1, iv x2, iv x3, iv 1, iv k0, iv y28, rv b1, own_dv (FP.l2d w0), .second, own_dv (FP.l2d w1), .second, own_dv (FP.l2d w2), .second, own_dv (FP.l2d w3), .second, iv e0', iv e1', iv e2', iv e3', rv b37, .unset, .unset, .unset, .unset, .unset] [(.ref b37)])) rfl (by rw [hml]; rfl) (argsL := []) (rest := []) own_pd4 rfl rfl (by show 2 * 0 + _ ≤ _; exact Nat.le_of_eq rfl) (hb hby at_234) rfl (by decide) (by decide)
            obtain ⟨rfl, rfl, e50⟩ := Q50
            simp only [List.append_nil, Nat.add_zero] at X50
            refine own_st st50 ?_
            show own_Go p e below G (T50.setTop (mkF m 237 #[iv x0, iv x1, iv x2, iv x3, iv 1, iv k0, iv y28, rv b1, own_dv (FP.l2d w0), .second, own_dv (FP.l2d w1), .second, own_dv (FP.l2d w2), .second, own_dv (FP.l2d w3), .second, iv e0', iv e1', iv e2', iv e3', rv b37, .unset, .unset, .unset, .unset, .unset] [(.double (FP.l2d d0_0))]))
            refine own_st (fun t k => XS.dstore X50.here hx rfl (hb hby at_237) rfl (l' := #[iv x0, iv x1, iv x2, iv x3, iv 1, iv k0, iv y28, rv b1, own_dv (FP.l2d w0), .second, own_dv (FP.l2d w1), .second, own_dv (FP.l2d w2), .second, own_dv (FP.l2d w3), .second, iv e0', iv e1', iv e2', iv e3', rv b37, own_dv (FP.l2d d0_0), .second, .unset, .unset, .unset]) rfl k) ?_
            show own_Go p e below G (T50.setTop (mkF m 239 #[iv x0, iv x1, iv x2, iv x3, iv 1, iv k0, iv y28, rv b1, own_dv (FP.l2d w0), .second, own_dv (FP.l2d w1), .second, own_dv (FP.l2d w2), .second, own_dv (FP.l2d w3), .second, iv e0', iv e1', iv e2', iv e3', rv b37, own_dv (FP.l2d d0_0), .second, .unset, .unset, .unset] []))
            have hkl : k0.toInt = 1 := by
              have c171_39' := c171_39
              rw [Int32.lt_iff_toInt_lt] at c171_39'
              have zz0 : ((0 : Int32)).toInt = 0 := rfl
              have c187_41' := c187_41
              rw [Int32.lt_iff_toInt_lt] at c187_41'
              have zz1 : ((1 : Int32)).toInt = 1 := rfl
              omega
            have pd0 : own_pad k0 0 w0 = w0.toInt := if_pos (by omega)
            have pd1 : own_pad k0 1 w1 = -100 := if_neg (by omega)
            have pd2 : own_pad k0 2 w2 = -100 := if_neg (by omega)
            have pd3 : own_pad k0 3 w3 = -100 := if_neg (by omega)
            unfold own_R10 at hR0
            exact J239 _ _ X50 N0 (by rw [e50]; exact (NB1).2.2.2.2.2.2.2.2.2.2.2.2.2.2) _ d0_0 hb_d0_0 (by rw [Int32.lt_iff_toInt_lt, show ((1 : Int32)).toInt = 1 from rfl]; omega) (by rw [pd0, pd1, pd2, pd3]; simp only [own_nth]; simp only [← Int64.toInt_inj] at hR0; omega)
        · skip
          refine own_st (fun t k => XS.ifYes X38.here hx rfl (pc0 := 171) (pc' := 184) rfl (hb hby at_171) rfl ((if0 _ _).trans (flt c171_39).2.2.2) (by decide) (by decide) k) ?_
          show own_Go p e below G (T38.setTop (mkF m 184 #[iv x0, iv x1, iv x2, iv x3, iv 1, iv k0, iv y28, rv b1, own_dv (FP.l2d w0), .second, own_dv (FP.l2d w1), .second, own_dv (FP.l2d w2), .second, own_dv (FP.l2d w3), .second, iv e0', iv e1', iv e2', iv e3', rv b37, .unset, .unset, .unset, .unset, .unset] []))
          refine own_st (fun t k => XS.iload X38.here hx rfl (hb hby at_184) rfl  k) ?_
          refine own_st (fun t k => XS.iconst X38.here hx rfl (hb hby at_186) k) ?_
          show own_Go p e below G (T38.setTop (mkF m 187 #[iv x0, iv x1, iv x2, iv x3, iv 1, iv k0, iv y28, rv b1, own_dv (FP.l2d w0), .second, own_dv (FP.l2d w1), .second, own_dv (FP.l2d w2), .second, own_dv (FP.l2d w3), .second, iv e0', iv e1', iv e2', iv e3', rv b37, .unset, .unset, .unset, .unset, .unset] [(.int (1 : Int32)), (.int k0)]))
          refine own_st (fun t k => XS.icmpYes X38.here hx rfl (pc0 := 187) (pc' := 200) rfl (hb hby at_187) rfl (flt (fun q => c171_39 (Int32.lt_trans (by decide) q))).2.2.2 (by decide) (by decide) k) ?_
          show own_Go p e below G (T38.setTop (mkF m 200 #[iv x0, iv x1, iv x2, iv x3, iv 1, iv k0, iv y28, rv b1, own_dv (FP.l2d w0), .second, own_dv (FP.l2d w1), .second, own_dv (FP.l2d w2), .second, own_dv (FP.l2d w3), .second, iv e0', iv e1', iv e2', iv e3', rv b37, .unset, .unset, .unset, .unset, .unset] []))
          refine own_st (fun t k => XS.iload X38.here hx rfl (hb hby at_200) rfl  k) ?_
          refine own_st (fun t k => XS.iconst X38.here hx rfl (hb hby at_202) k) ?_
          show own_Go p e below G (T38.setTop (mkF m 203 #[iv x0, iv x1, iv x2, iv x3, iv 1, iv k0, iv y28, rv b1, own_dv (FP.l2d w0), .second, own_dv (FP.l2d w1), .second, own_dv (FP.l2d w2), .second, own_dv (FP.l2d w3), .second, iv e0', iv e1', iv e2', iv e3', rv b37, .unset, .unset, .unset, .unset, .unset] [(.int (2 : Int32)), (.int k0)]))
          refine own_st (fun t k => XS.icmpYes X38.here hx rfl (pc0 := 203) (pc' := 216) rfl (hb hby at_203) rfl (flt (fun q => c171_39 (Int32.lt_trans (by decide) q))).2.2.2 (by decide) (by decide) k) ?_
          show own_Go p e below G (T38.setTop (mkF m 216 #[iv x0, iv x1, iv x2, iv x3, iv 1, iv k0, iv y28, rv b1, own_dv (FP.l2d w0), .second, own_dv (FP.l2d w1), .second, own_dv (FP.l2d w2), .second, own_dv (FP.l2d w3), .second, iv e0', iv e1', iv e2', iv e3', rv b37, .unset, .unset, .unset, .unset, .unset] []))
          refine own_st (fun t k => XS.iload X38.here hx rfl (hb hby at_216) rfl  k) ?_
          refine own_st (fun t k => XS.iconst X38.here hx rfl (hb hby at_218) k) ?_
          show own_Go p e below G (T38.setTop (mkF m 219 #[iv x0, iv x1, iv x2, iv x3, iv 1, iv k0, iv y28, rv b1, own_dv (FP.l2d w0), .second, own_dv (FP.l2d w1), .second, own_dv (FP.l2d w2), .second, own_dv (FP.l2d w3), .second, iv e0', iv e1', iv e2', iv e3', rv b37, .unset, .unset, .unset, .unset, .unset] [(.int (3 : Int32)), (.int k0)]))
          refine own_st (fun t k => XS.icmpYes X38.here hx rfl (pc0 := 219) (pc' := 232) rfl (hb hby at_219) rfl (flt (fun q => c171_39 (Int32.lt_trans (by decide) q))).2.2.2 (by decide) (by decide) k) ?_
          show own_Go p e below G (T38.setTop (mkF m 232 #[iv x0, iv x1, iv x2, iv x3, iv 1, iv k0, iv y28, rv b1, own_dv (FP.l2d w0), .second, own_dv (FP.l2d w1), .second, own_dv (FP.l2d w2), .second, own_dv (FP.l2d w3), .second, iv e0', iv e1', iv e2', iv e3', rv b37, .unset, .unset, .unset, .unset, .unset] []))
          refine own_st (fun t k => XS.aload X38.here hx rfl (hb hby at_232) rfl rfl  k) ?_
          show own_Go p e below G (T38.setTop (mkF m 234 #[iv x0, iv x1, iv x2, iv x3, iv 1, iv k0, iv y28, rv b1, own_dv (FP.l2d w0), .second, own_dv (FP.l2d w1), .second, own_dv (FP.l2d w2), .second, own_dv (FP.l2d w3), .second, iv e0', iv e1', iv e2', iv e3', rv b37, .unset, .unset, .unset, .unset, .unset] [(.ref b37)]))
          obtain ⟨v51, T51, L51, X51, Q51, st51⟩ := own_callV X38 hx hZ (y := (⟨"com/example/thinleaf/thinleaf/prune/Nearest", "least", "()D"⟩ : MethodName)) (z := (⟨"com/example/thinleaf/thinleaf/prune/Nearest", "least", "()D"⟩ : MethodName)) hown (hw _ (List.mem_of_getElem? (i := 17) rfl)) (hw _ (List.mem_of_getElem? (i := 18) rfl)) (notFace_of_selects (args := #[]) (mvT hZ (hw _ (List.mem_of_getElem? (i := 20) rfl)))) (hw _ (List.mem_of_getElem? (i := 20) rfl)) (hw _ (List.mem_of_getElem? (i := 19) rfl)) (hw _ (List.mem_of_getElem? (i := 3) rfl)) (hw _ (List.mem_of_getElem? (i := 21) rfl)) (by decide) (W := 0) (rmL10 l Z a0 hw b37 bn bc kn kc pv   T38.heap n0 NB0) (by decide) (by decide) rfl (NB0).1 (g := (mkF m 234 #[iv x0, iv x1, iv x2, iv x3, iv 1, iv k0, iv y28, rv b1, own_dv (FP.l2d w0), .second, own_dv (FP.l2d w1), .second, own_dv (FP.l2d w2), .second, own_dv (FP.l2d w3), .second, iv e0', iv e1', iv e2', iv e3', rv b37, .unset, .unset, .unset, .unset, .unset] [(.ref b37)])) rfl (by rw [hml]; rfl) (argsL := []) (rest := []) own_pd4 rfl rfl (by show 2 * 0 + _ ≤ _; exact Nat.le_of_eq rfl) (hb hby at_234) rfl (by decide) (by decide)
          obtain ⟨rfl, rfl, e51⟩ := Q51
          simp only [List.append_nil, Nat.add_zero] at X51
          refine own_st st51 ?_
          show own_Go p e below G (T51.setTop (mkF m 237 #[iv x0, iv x1, iv x2, iv x3, iv 1, iv k0, iv y28, rv b1, own_dv (FP.l2d w0), .second, own_dv (FP.l2d w1), .second, own_dv (FP.l2d w2), .second, own_dv (FP.l2d w3), .second, iv e0', iv e1', iv e2', iv e3', rv b37, .unset, .unset, .unset, .unset, .unset] [(.double (18442240474082181120 : UInt64))]))
          refine own_st (fun t k => XS.dstore X51.here hx rfl (hb hby at_237) rfl (l' := #[iv x0, iv x1, iv x2, iv x3, iv 1, iv k0, iv y28, rv b1, own_dv (FP.l2d w0), .second, own_dv (FP.l2d w1), .second, own_dv (FP.l2d w2), .second, own_dv (FP.l2d w3), .second, iv e0', iv e1', iv e2', iv e3', rv b37, own_dv (18442240474082181120 : UInt64), .second, .unset, .unset, .unset]) rfl k) ?_
          show own_Go p e below G (T51.setTop (mkF m 239 #[iv x0, iv x1, iv x2, iv x3, iv 1, iv k0, iv y28, rv b1, own_dv (FP.l2d w0), .second, own_dv (FP.l2d w1), .second, own_dv (FP.l2d w2), .second, own_dv (FP.l2d w3), .second, iv e0', iv e1', iv e2', iv e3', rv b37, own_dv (18442240474082181120 : UInt64), .second, .unset, .unset, .unset] []))
          refine own_st (fun t k => XS.iload X51.here hx rfl (hb hby at_239) rfl  k) ?_
          show own_Go p e below G (T51.setTop (mkF m 241 #[iv x0, iv x1, iv x2, iv x3, iv 1, iv k0, iv y28, rv b1, own_dv (FP.l2d w0), .second, own_dv (FP.l2d w1), .second, own_dv (FP.l2d w2), .second, own_dv (FP.l2d w3), .second, iv e0', iv e1', iv e2', iv e3', rv b37, own_dv (18442240474082181120 : UInt64), .second, .unset, .unset, .unset] [(.int (1 : Int32))]))
          refine own_st (fun t k => XS.ifYes X51.here hx rfl (pc0 := 241) (pc' := 252) rfl (hb hby at_241) rfl ((if0 _ _).trans (feq (by decide)).2) (by decide) (by decide) k) ?_
          show own_Go p e below G (T51.setTop (mkF m 252 #[iv x0, iv x1, iv x2, iv x3, iv 1, iv k0, iv y28, rv b1, own_dv (FP.l2d w0), .second, own_dv (FP.l2d w1), .second, own_dv (FP.l2d w2), .second, own_dv (FP.l2d w3), .second, iv e0', iv e1', iv e2', iv e3', rv b37, own_dv (18442240474082181120 : UInt64), .second, .unset, .unset, .unset] []))
          refine own_st (fun t k => XS.iload X51.here hx rfl (hb hby at_252) rfl  k) ?_
          refine own_st (fun t k => XS.iload X51.here hx rfl (hb hby at_254) rfl  k) ?_
          show own_Go p e below G (T51.setTop (mkF m 256 #[iv x0, iv x1, iv x2, iv x3, iv 1, iv k0, iv y28, rv b1, own_dv (FP.l2d w0), .second, own_dv (FP.l2d w1), .second, own_dv (FP.l2d w2), .second, own_dv (FP.l2d w3), .second, iv e0', iv e1', iv e2', iv e3', rv b37, own_dv (18442240474082181120 : UInt64), .second, .unset, .unset, .unset] [(.int (1 : Int32)), (.int k0)]))
          refine own_st (fun t k => XS.icmpNo X51.here hx rfl (hb hby at_256) rfl (tlt (by have q := c171_39; rw [Int32.lt_iff_toInt_lt] at q ⊢; have z1 : ((0 : Int32)).toInt = 0 := rfl; have z2 : ((1 : Int32)).toInt = 1 := rfl; omega)).2.1 k) ?_
          show own_Go p e below G (T51.setTop (mkF m 259 #[iv x0, iv x1, iv x2, iv x3, iv 1, iv k0, iv y28, rv b1, own_dv (FP.l2d w0), .second, own_dv (FP.l2d w1), .second, own_dv (FP.l2d w2), .second, own_dv (FP.l2d w3), .second, iv e0', iv e1', iv e2', iv e3', rv b37, own_dv (18442240474082181120 : UInt64), .second, .unset, .unset, .unset] []))
          refine own_st (fun t k => X51.ldc2DoubleC hx hown (mvT hZ (hw _ (List.mem_of_getElem? (i := 41) rfl))) (g := (mkF m 259 #[iv x0, iv x1, iv x2, iv x3, iv 1, iv k0, iv y28, rv b1, own_dv (FP.l2d w0), .second, own_dv (FP.l2d w1), .second, own_dv (FP.l2d w2), .second, own_dv (FP.l2d w3), .second, iv e0', iv e1', iv e2', iv e3', rv b37, own_dv (18442240474082181120 : UInt64), .second, .unset, .unset, .unset] [])) rfl (hb hby at_259) t k) ?_
          show own_Go p e below G (T51.setTop (mkF m 262 #[iv x0, iv x1, iv x2, iv x3, iv 1, iv k0, iv y28, rv b1, own_dv (FP.l2d w0), .second, own_dv (FP.l2d w1), .second, own_dv (FP.l2d w2), .second, own_dv (FP.l2d w3), .second, iv e0', iv e1', iv e2', iv e3', rv b37, own_dv (18442240474082181120 : UInt64), .second, .unset, .unset, .unset] [(.double (18442240474082181120 : UInt64))]))
          refine own_st (fun t k => XS.dstore X51.here hx rfl (hb hby at_262) rfl (l' := #[iv x0, iv x1, iv x2, iv x3, iv 1, iv k0, iv y28, rv b1, own_dv (FP.l2d w0), .second, own_dv (FP.l2d w1), .second, own_dv (FP.l2d w2), .second, own_dv (FP.l2d w3), .second, iv e0', iv e1', iv e2', iv e3', rv b37, own_dv (18442240474082181120 : UInt64), .second, own_dv (18442240474082181120 : UInt64), .second, .unset]) rfl k) ?_
          refine own_st (fun t k => XS.goto X51.here hx rfl (pc0 := 264) (pc' := 387) rfl (hb hby at_264) (by decide) (by decide) k) ?_
          refine own_st (fun t k => XS.dload X51.here hx rfl (hb hby at_387) rfl  k) ?_
          show own_Go p e below G (T51.setTop (mkF m 389 #[iv x0, iv x1, iv x2, iv x3, iv 1, iv k0, iv y28, rv b1, own_dv (FP.l2d w0), .second, own_dv (FP.l2d w1), .second, own_dv (FP.l2d w2), .second, own_dv (FP.l2d w3), .second, iv e0', iv e1', iv e2', iv e3', rv b37, own_dv (18442240474082181120 : UInt64), .second, own_dv (18442240474082181120 : UInt64), .second, .unset] [(.double (18442240474082181120 : UInt64))]))
          refine own_st (fun t k => XS.dload X51.here hx rfl (hb hby at_389) rfl  k) ?_
          show own_Go p e below G (T51.setTop (mkF m 391 #[iv x0, iv x1, iv x2, iv x3, iv 1, iv k0, iv y28, rv b1, own_dv (FP.l2d w0), .second, own_dv (FP.l2d w1), .second, own_dv (FP.l2d w2), .second, own_dv (FP.l2d w3), .second, iv e0', iv e1', iv e2', iv e3', rv b37, own_dv (18442240474082181120 : UInt64), .second, own_dv (18442240474082181120 : UInt64), .second, .unset] [(.double (18442240474082181120 : UInt64)), (.double (18442240474082181120 : UInt64))]))
          refine own_st (fun t k => XS.dcmpS X51.here hx rfl (hb hby at_391) rfl (dcmpV_self (by decide +kernel) _) k) ?_
          show own_Go p e below G (T51.setTop (mkF m 392 #[iv x0, iv x1, iv x2, iv x3, iv 1, iv k0, iv y28, rv b1, own_dv (FP.l2d w0), .second, own_dv (FP.l2d w1), .second, own_dv (FP.l2d w2), .second, own_dv (FP.l2d w3), .second, iv e0', iv e1', iv e2', iv e3', rv b37, own_dv (18442240474082181120 : UInt64), .second, own_dv (18442240474082181120 : UInt64), .second, .unset] [(.int (0 : Int32))]))
          refine own_st (fun t k => XS.ifNo X51.here hx rfl (hb hby at_392) rfl ((if0 _ _).trans (teq (by decide)).2) k) ?_
          show own_Go p e below G (T51.setTop (mkF m 395 #[iv x0, iv x1, iv x2, iv x3, iv 1, iv k0, iv y28, rv b1, own_dv (FP.l2d w0), .second, own_dv (FP.l2d w1), .second, own_dv (FP.l2d w2), .second, own_dv (FP.l2d w3), .second, iv e0', iv e1', iv e2', iv e3', rv b37, own_dv (18442240474082181120 : UInt64), .second, own_dv (18442240474082181120 : UInt64), .second, .unset] []))
          refine own_st (fun t k => XS.iconst X51.here hx rfl (hb hby at_395) k) ?_
          refine own_st (fun t k => XS.goto X51.here hx rfl (pc0 := 396) (pc' := 400) rfl (hb hby at_396) (by decide) (by decide) k) ?_
          show own_Go p e below G (T51.setTop (mkF m 400 #[iv x0, iv x1, iv x2, iv x3, iv 1, iv k0, iv y28, rv b1, own_dv (FP.l2d w0), .second, own_dv (FP.l2d w1), .second, own_dv (FP.l2d w2), .second, own_dv (FP.l2d w3), .second, iv e0', iv e1', iv e2', iv e3', rv b37, own_dv (18442240474082181120 : UInt64), .second, own_dv (18442240474082181120 : UInt64), .second, .unset] [(.int (1 : Int32))]))
          rw [hG]
          exact own_retZ X51 hx hlk (t := .boolean) hret (by simp) (hb hby at_400) ⟨rfl, N0⟩ (by decide) (by decide)
      by_cases c155_52 : y28 = (0 : Int32)
      · skip
        refine own_st (fun t k => XS.ifYes X37.here hx rfl (pc0 := 155) (pc' := 162) rfl (hb hby at_155) rfl ((if0 _ _).trans (teq c155_52).1) (by decide) (by decide) k) ?_
        show own_Go p e below G (T37.setTop (mkF m 162 #[iv x0, iv x1, iv x2, iv x3, iv 1, iv k0, iv y28, rv b1, own_dv (FP.l2d w0), .second, own_dv (FP.l2d w1), .second, own_dv (FP.l2d w2), .second, own_dv (FP.l2d w3), .second, iv e0', iv e1', iv e2', iv e3', .unset, .unset, .unset, .unset, .unset, .unset] [(.int (1 : Int32)), (.ref b37), (.ref b37)]))
        refine own_st (fun t k => XS.aload X37.here hx rfl (hb hby at_162) rfl rfl  k) ?_
        show own_Go p e below G (T37.setTop (mkF m 164 #[iv x0, iv x1, iv x2, iv x3, iv 1, iv k0, iv y28, rv b1, own_dv (FP.l2d w0), .second, own_dv (FP.l2d w1), .second, own_dv (FP.l2d w2), .second, own_dv (FP.l2d w3), .second, iv e0', iv e1', iv e2', iv e3', .unset, .unset, .unset, .unset, .unset, .unset] [(.ref b1), (.int (1 : Int32)), (.ref b37), (.ref b37)]))
        exact J164 _ (Or.inr ⟨b1, _, _, _, _, _, rfl, V_b1, ninS ne_b1_b37 nin0⟩)
      · skip
        refine own_st (fun t k => XS.ifNo X37.here hx rfl (hb hby at_155) rfl ((if0 _ _).trans (feq c155_52).1) k) ?_
        show own_Go p e below G (T37.setTop (mkF m 158 #[iv x0, iv x1, iv x2, iv x3, iv 1, iv k0, iv y28, rv b1, own_dv (FP.l2d w0), .second, own_dv (FP.l2d w1), .second, own_dv (FP.l2d w2), .second, own_dv (FP.l2d w3), .second, iv e0', iv e1', iv e2', iv e3', .unset, .unset, .unset, .unset, .unset, .unset] [(.int (1 : Int32)), (.ref b37), (.ref b37)]))
        refine own_st (fun t k => XS.aconstNull X37.here hx rfl (hb hby at_158) k) ?_
        refine own_st (fun t k => XS.goto X37.here hx rfl (pc0 := 159) (pc' := 164) rfl (hb hby at_159) (by decide) (by decide) k) ?_
        show own_Go p e below G (T37.setTop (mkF m 164 #[iv x0, iv x1, iv x2, iv x3, iv 1, iv k0, iv y28, rv b1, own_dv (FP.l2d w0), .second, own_dv (FP.l2d w1), .second, own_dv (FP.l2d w2), .second, own_dv (FP.l2d w3), .second, iv e0', iv e1', iv e2', iv e3', .unset, .unset, .unset, .unset, .unset, .unset] [.null, (.int (1 : Int32)), (.ref b37), (.ref b37)]))
        exact J164 _ (Or.inl rfl)
    · skip
      show own_Go p e below G (T5.setTop (mkF m 147 #[iv x0, iv x1, iv x2, iv x3, iv 2, iv k0, iv y28, rv b1, own_dv (FP.l2d w0), .second, own_dv (FP.l2d w1), .second, own_dv (FP.l2d w2), .second, own_dv (FP.l2d w3), .second, iv e0', iv e1', iv e2', iv e3', .unset, .unset, .unset, .unset, .unset, .unset] []))
      have J239 : ∀ (T : State) (locs : List Loc) (X : Stand p l e room_1 s m #[(.int x0), (.int x1), (.int x2), (.int x3)] below meth c T locs 4 12) (N0 : Fr n0 locs) (Z0 : n0 ≤ T.heap.size) (s20 : Slot) (g : Int64) (hgb : own_b g) (hkc : ¬ k0 < (2 : Int32)) (hg : g.toInt = own_nth (own_pad k0 0 w0) (own_pad k0 1 w1) (own_pad k0 2 w2) (own_pad k0 3 w3) 2), own_Go p e below G (T.setTop (mkF m 239 #[iv x0, iv x1, iv x2, iv x3, iv 2, iv k0, iv y28, rv b1, own_dv (FP.l2d w0), .second, own_dv (FP.l2d w1), .second, own_dv (FP.l2d w2), .second, own_dv (FP.l2d w3), .second, iv e0', iv e1', iv e2', iv e3', s20, .val (.double (FP.l2d g)), .second, .unset, .unset, .unset] [])) := by
        intro T locs X N0 Z0 s20 g hgb hkc hg
        refine own_st (fun t k => XS.iload X.here hx rfl (hb hby at_239) rfl  k) ?_
        show own_Go p e below G (T.setTop (mkF m 241 #[iv x0, iv x1, iv x2, iv x3, iv 2, iv k0, iv y28, rv b1, own_dv (FP.l2d w0), .second, own_dv (FP.l2d w1), .second, own_dv (FP.l2d w2), .second, own_dv (FP.l2d w3), .second, iv e0', iv e1', iv e2', iv e3', s20, own_dv (FP.l2d g), .second, .unset, .unset, .unset] [(.int (2 : Int32))]))
        refine own_st (fun t k => XS.ifYes X.here hx rfl (pc0 := 241) (pc' := 252) rfl (hb hby at_241) rfl ((if0 _ _).trans (feq (by decide)).2) (by decide) (by decide) k) ?_
        show own_Go p e below G (T.setTop (mkF m 252 #[iv x0, iv x1, iv x2, iv x3, iv 2, iv k0, iv y28, rv b1, own_dv (FP.l2d w0), .second, own_dv (FP.l2d w1), .second, own_dv (FP.l2d w2), .second, own_dv (FP.l2d w3), .second, iv e0', iv e1', iv e2', iv e3', s20, own_dv (FP.l2d g), .second, .unset, .unset, .unset] []))
        refine own_st (fun t k => XS.iload X.here hx rfl (hb hby at_252) rfl  k) ?_
        refine own_st (fun t k => XS.iload X.here hx rfl (hb hby at_254) rfl  k) ?_
        show own_Go p e below G (T.setTop (mkF m 256 #[iv x0, iv x1, iv x2, iv x3, iv 2, iv k0, iv y28, rv b1, own_dv (FP.l2d w0), .second, own_dv (FP.l2d w1), .second, own_dv (FP.l2d w2), .second, own_dv (FP.l2d w3), .second, iv e0', iv e1', iv e2', iv e3', s20, own_dv (FP.l2d g), .second, .unset, .unset, .unset] [(.int (2 : Int32)), (.int k0)]))
        refine own_st (fun t k => XS.icmpYes X.here hx rfl (pc0 := 256) (pc' := 267) rfl (hb hby at_256) rfl (flt hkc).2.1 (by decide) (by decide) k) ?_
        show own_Go p e below G (T.setTop (mkF m 267 #[iv x0, iv x1, iv x2, iv x3, iv 2, iv k0, iv y28, rv b1, own_dv (FP.l2d w0), .second, own_dv (FP.l2d w1), .second, own_dv (FP.l2d w2), .second, own_dv (FP.l2d w3), .second, iv e0', iv e1', iv e2', iv e3', s20, own_dv (FP.l2d g), .second, .unset, .unset, .unset] []))
        refine own_st (fun t k => XS.iconst X.here hx rfl (hb hby at_267) k) ?_
        show own_Go p e below G (T.setTop (mkF m 268 #[iv x0, iv x1, iv x2, iv x3, iv 2, iv k0, iv y28, rv b1, own_dv (FP.l2d w0), .second, own_dv (FP.l2d w1), .second, own_dv (FP.l2d w2), .second, own_dv (FP.l2d w3), .second, iv e0', iv e1', iv e2', iv e3', s20, own_dv (FP.l2d g), .second, .unset, .unset, .unset] [(.int (4 : Int32))]))
        obtain ⟨T53, h53, k53, X53, e53, E53, A53, st53⟩ := newP X hx hZ (hw _ (List.mem_of_getElem? (i := 12) rfl)) rfl (g := (mkF m 268 #[iv x0, iv x1, iv x2, iv x3, iv 2, iv k0, iv y28, rv b1, own_dv (FP.l2d w0), .second, own_dv (FP.l2d w1), .second, own_dv (FP.l2d w2), .second, own_dv (FP.l2d w3), .second, iv e0', iv e1', iv e2', iv e3', s20, own_dv (FP.l2d g), .second, .unset, .unset, .unset] [(.int (4 : Int32))])) rfl (hb hby at_268) rfl (by decide) (cap := 4) (by decide) (by decide) (by decide) (by decide)
        obtain ⟨b53, gb53⟩ : ∃ z, z = T.heap.size := ⟨_, rfl⟩
        rw [← gb53] at A53 st53
        have g_b53 : n0 ≤ b53 := Nat.le_trans Z0 (Nat.le_of_eq gb53.symm)
        replace Z0 := Nat.le_trans Z0 E53.1
        have V_b53 : Arv Z h53 b53 k53 .double (4 : Int32) [(.double (0 : UInt64)), (.double (0 : UInt64)), (.double (0 : UInt64)), (.double (0 : UInt64))] (.double (0 : UInt64)) := (Arv.new A53 (by decide)).pad (pad_rep [] (.double (0 : UInt64)) 4)
        refine own_st st53 ?_
        show own_Go p e below G (T53.setTop (mkF m 270 #[iv x0, iv x1, iv x2, iv x3, iv 2, iv k0, iv y28, rv b1, own_dv (FP.l2d w0), .second, own_dv (FP.l2d w1), .second, own_dv (FP.l2d w2), .second, own_dv (FP.l2d w3), .second, iv e0', iv e1', iv e2', iv e3', s20, own_dv (FP.l2d g), .second, .unset, .unset, .unset] [(.ref b53)]))
        refine own_st (fun t k => XS.astore X53.here hx rfl (hb hby at_270) rfl rfl (l' := #[iv x0, iv x1, iv x2, iv x3, iv 2, iv k0, iv y28, rv b1, own_dv (FP.l2d w0), .second, own_dv (FP.l2d w1), .second, own_dv (FP.l2d w2), .second, own_dv (FP.l2d w3), .second, iv e0', iv e1', iv e2', iv e3', s20, own_dv (FP.l2d g), .second, .unset, .unset, rv b53]) rfl k) ?_
        refine own_st (fun t k => XS.aload X53.here hx rfl (hb hby at_272) rfl rfl  k) ?_
        refine own_st (fun t k => XS.iconst X53.here hx rfl (hb hby at_274) k) ?_
        show own_Go p e below G (T53.setTop (mkF m 275 #[iv x0, iv x1, iv x2, iv x3, iv 2, iv k0, iv y28, rv b1, own_dv (FP.l2d w0), .second, own_dv (FP.l2d w1), .second, own_dv (FP.l2d w2), .second, own_dv (FP.l2d w3), .second, iv e0', iv e1', iv e2', iv e3', s20, own_dv (FP.l2d g), .second, .unset, .unset, rv b53] [(.int (0 : Int32)), (.ref b53)]))
        refine own_st (fun t k => XS.iload X53.here hx rfl (hb hby at_275) rfl  k) ?_
        show own_Go p e below G (T53.setTop (mkF m 277 #[iv x0, iv x1, iv x2, iv x3, iv 2, iv k0, iv y28, rv b1, own_dv (FP.l2d w0), .second, own_dv (FP.l2d w1), .second, own_dv (FP.l2d w2), .second, own_dv (FP.l2d w3), .second, iv e0', iv e1', iv e2', iv e3', s20, own_dv (FP.l2d g), .second, .unset, .unset, rv b53] [(.int k0), (.int (0 : Int32)), (.ref b53)]))
        have J288 : ∀ (t0 : Int64) (hp0 : t0.toInt = own_pad k0 0 w0) (hb_t0 : own_b t0), own_Go p e below G (T53.setTop (mkF m 288 #[iv x0, iv x1, iv x2, iv x3, iv 2, iv k0, iv y28, rv b1, own_dv (FP.l2d w0), .second, own_dv (FP.l2d w1), .second, own_dv (FP.l2d w2), .second, own_dv (FP.l2d w3), .second, iv e0', iv e1', iv e2', iv e3', s20, own_dv (FP.l2d g), .second, .unset, .unset, rv b53] [(.double (FP.l2d t0)), (.int (0 : Int32)), (.ref b53)])) := by
          intro t0 hp0 hb_t0
          obtain ⟨cl54, Ar54, qa54, Sa54, Na54, Ha54, Ga54⟩ := V_b53
          have hin54 : ¬ ((0 : Int32) < 0 ∨ cl54.slots.size ≤ ((0 : Int32)).toNatClampNeg) := inb_of Sa54 ⟨by decide, by decide⟩
          obtain ⟨T54, h54, X54, e54, W54, st54⟩ := stD X53 hx hZ e53 Ar54 (j := (0 : Int32)) hin54 (g := (mkF m 288 #[iv x0, iv x1, iv x2, iv x3, iv 2, iv k0, iv y28, rv b1, own_dv (FP.l2d w0), .second, own_dv (FP.l2d w1), .second, own_dv (FP.l2d w2), .second, own_dv (FP.l2d w3), .second, iv e0', iv e1', iv e2', iv e3', s20, own_dv (FP.l2d g), .second, .unset, .unset, rv b53] [(.double (FP.l2d t0)), (.int (0 : Int32)), (.ref b53)])) rfl rfl (hb hby at_288)
          have V_b53 : Arv Z h54 b53 k53 .double (4 : Int32) [(.double (FP.l2d t0)), (.double (0 : UInt64)), (.double (0 : UInt64)), (.double (0 : UInt64))] (.double (0 : UInt64)) := Arv.set Ar54 qa54 Sa54 Na54 Ha54 Ga54 rfl W54 0 rfl (Nat.le_of_ble_eq_true rfl)
          replace Z0 := Nat.le_trans Z0 (Keep.of_wr W54).1
          replace N0 := Fr.snoc X54 N0 g_b53
          refine own_st st54 ?_
          show own_Go p e below G (T54.setTop (mkF m 289 #[iv x0, iv x1, iv x2, iv x3, iv 2, iv k0, iv y28, rv b1, own_dv (FP.l2d w0), .second, own_dv (FP.l2d w1), .second, own_dv (FP.l2d w2), .second, own_dv (FP.l2d w3), .second, iv e0', iv e1', iv e2', iv e3', s20, own_dv (FP.l2d g), .second, .unset, .unset, rv b53] []))
          refine own_st (fun t k => XS.aload X54.here hx rfl (hb hby at_289) rfl rfl  k) ?_
          refine own_st (fun t k => XS.iconst X54.here hx rfl (hb hby at_291) k) ?_
          refine own_st (fun t k => XS.iload X54.here hx rfl (hb hby at_292) rfl  k) ?_
          show own_Go p e below G (T54.setTop (mkF m 294 #[iv x0, iv x1, iv x2, iv x3, iv 2, iv k0, iv y28, rv b1, own_dv (FP.l2d w0), .second, own_dv (FP.l2d w1), .second, own_dv (FP.l2d w2), .second, own_dv (FP.l2d w3), .second, iv e0', iv e1', iv e2', iv e3', s20, own_dv (FP.l2d g), .second, .unset, .unset, rv b53] [(.int k0), (.int (1 : Int32)), (.ref b53)]))
          refine own_st (fun t k => XS.iconst X54.here hx rfl (hb hby at_294) k) ?_
          show own_Go p e below G (T54.setTop (mkF m 295 #[iv x0, iv x1, iv x2, iv x3, iv 2, iv k0, iv y28, rv b1, own_dv (FP.l2d w0), .second, own_dv (FP.l2d w1), .second, own_dv (FP.l2d w2), .second, own_dv (FP.l2d w3), .second, iv e0', iv e1', iv e2', iv e3', s20, own_dv (FP.l2d g), .second, .unset, .unset, rv b53] [(.int (1 : Int32)), (.int k0), (.int (1 : Int32)), (.ref b53)]))
          have J306 : ∀ (t1 : Int64) (hp1 : t1.toInt = own_pad k0 1 w1) (hb_t1 : own_b t1), own_Go p e below G (T54.setTop (mkF m 306 #[iv x0, iv x1, iv x2, iv x3, iv 2, iv k0, iv y28, rv b1, own_dv (FP.l2d w0), .second, own_dv (FP.l2d w1), .second, own_dv (FP.l2d w2), .second, own_dv (FP.l2d w3), .second, iv e0', iv e1', iv e2', iv e3', s20, own_dv (FP.l2d g), .second, .unset, .unset, rv b53] [(.double (FP.l2d t1)), (.int (1 : Int32)), (.ref b53)])) := by
            intro t1 hp1 hb_t1
            obtain ⟨cl55, Ar55, qa55, Sa55, Na55, Ha55, Ga55⟩ := V_b53
            have hin55 : ¬ ((1 : Int32) < 0 ∨ cl55.slots.size ≤ ((1 : Int32)).toNatClampNeg) := inb_of Sa55 ⟨by decide, by decide⟩
            obtain ⟨T55, h55, X55, e55, W55, st55⟩ := stD X54 hx hZ e54 Ar55 (j := (1 : Int32)) hin55 (g := (mkF m 306 #[iv x0, iv x1, iv x2, iv x3, iv 2, iv k0, iv y28, rv b1, own_dv (FP.l2d w0), .second, own_dv (FP.l2d w1), .second, own_dv (FP.l2d w2), .second, own_dv (FP.l2d w3), .second, iv e0', iv e1', iv e2', iv e3', s20, own_dv (FP.l2d g), .second, .unset, .unset, rv b53] [(.double (FP.l2d t1)), (.int (1 : Int32)), (.ref b53)])) rfl rfl (hb hby at_306)
            have V_b53 : Arv Z h55 b53 k53 .double (4 : Int32) [(.double (FP.l2d t0)), (.double (FP.l2d t1)), (.double (0 : UInt64)), (.double (0 : UInt64))] (.double (0 : UInt64)) := Arv.set Ar55 qa55 Sa55 Na55 Ha55 Ga55 rfl W55 1 rfl (Nat.le_of_ble_eq_true rfl)
            replace Z0 := Nat.le_trans Z0 (Keep.of_wr W55).1
            replace N0 := Fr.snoc X55 N0 g_b53
            refine own_st st55 ?_
            show own_Go p e below G (T55.setTop (mkF m 307 #[iv x0, iv x1, iv x2, iv x3, iv 2, iv k0, iv y28, rv b1, own_dv (FP.l2d w0), .second, own_dv (FP.l2d w1), .second, own_dv (FP.l2d w2), .second, own_dv (FP.l2d w3), .second, iv e0', iv e1', iv e2', iv e3', s20, own_dv (FP.l2d g), .second, .unset, .unset, rv b53] []))
            refine own_st (fun t k => XS.aload X55.here hx rfl (hb hby at_307) rfl rfl  k) ?_
            refine own_st (fun t k => XS.iconst X55.here hx rfl (hb hby at_309) k) ?_
            refine own_st (fun t k => XS.iload X55.here hx rfl (hb hby at_310) rfl  k) ?_
            show own_Go p e below G (T55.setTop (mkF m 312 #[iv x0, iv x1, iv x2, iv x3, iv 2, iv k0, iv y28, rv b1, own_dv (FP.l2d w0), .second, own_dv (FP.l2d w1), .second, own_dv (FP.l2d w2), .second, own_dv (FP.l2d w3), .second, iv e0', iv e1', iv e2', iv e3', s20, own_dv (FP.l2d g), .second, .unset, .unset, rv b53] [(.int k0), (.int (2 : Int32)), (.ref b53)]))
            refine own_st (fun t k => XS.iconst X55.here hx rfl (hb hby at_312) k) ?_
            show own_Go p e below G (T55.setTop (mkF m 313 #[iv x0, iv x1, iv x2, iv x3, iv 2, iv k0, iv y28, rv b1, own_dv (FP.l2d w0), .second, own_dv (FP.l2d w1), .second, own_dv (FP.l2d w2), .second, own_dv (FP.l2d w3), .second, iv e0', iv e1', iv e2', iv e3', s20, own_dv (FP.l2d g), .second, .unset, .unset, rv b53] [(.int (2 : Int32)), (.int k0), (.int (2 : Int32)), (.ref b53)]))
            have J324 : ∀ (t2 : Int64) (hp2 : t2.toInt = own_pad k0 2 w2) (hb_t2 : own_b t2), own_Go p e below G (T55.setTop (mkF m 324 #[iv x0, iv x1, iv x2, iv x3, iv 2, iv k0, iv y28, rv b1, own_dv (FP.l2d w0), .second, own_dv (FP.l2d w1), .second, own_dv (FP.l2d w2), .second, own_dv (FP.l2d w3), .second, iv e0', iv e1', iv e2', iv e3', s20, own_dv (FP.l2d g), .second, .unset, .unset, rv b53] [(.double (FP.l2d t2)), (.int (2 : Int32)), (.ref b53)])) := by
              intro t2 hp2 hb_t2
              obtain ⟨cl56, Ar56, qa56, Sa56, Na56, Ha56, Ga56⟩ := V_b53
              have hin56 : ¬ ((2 : Int32) < 0 ∨ cl56.slots.size ≤ ((2 : Int32)).toNatClampNeg) := inb_of Sa56 ⟨by decide, by decide⟩
              obtain ⟨T56, h56, X56, e56, W56, st56⟩ := stD X55 hx hZ e55 Ar56 (j := (2 : Int32)) hin56 (g := (mkF m 324 #[iv x0, iv x1, iv x2, iv x3, iv 2, iv k0, iv y28, rv b1, own_dv (FP.l2d w0), .second, own_dv (FP.l2d w1), .second, own_dv (FP.l2d w2), .second, own_dv (FP.l2d w3), .second, iv e0', iv e1', iv e2', iv e3', s20, own_dv (FP.l2d g), .second, .unset, .unset, rv b53] [(.double (FP.l2d t2)), (.int (2 : Int32)), (.ref b53)])) rfl rfl (hb hby at_324)
              have V_b53 : Arv Z h56 b53 k53 .double (4 : Int32) [(.double (FP.l2d t0)), (.double (FP.l2d t1)), (.double (FP.l2d t2)), (.double (0 : UInt64))] (.double (0 : UInt64)) := Arv.set Ar56 qa56 Sa56 Na56 Ha56 Ga56 rfl W56 2 rfl (Nat.le_of_ble_eq_true rfl)
              replace Z0 := Nat.le_trans Z0 (Keep.of_wr W56).1
              replace N0 := Fr.snoc X56 N0 g_b53
              refine own_st st56 ?_
              show own_Go p e below G (T56.setTop (mkF m 325 #[iv x0, iv x1, iv x2, iv x3, iv 2, iv k0, iv y28, rv b1, own_dv (FP.l2d w0), .second, own_dv (FP.l2d w1), .second, own_dv (FP.l2d w2), .second, own_dv (FP.l2d w3), .second, iv e0', iv e1', iv e2', iv e3', s20, own_dv (FP.l2d g), .second, .unset, .unset, rv b53] []))
              refine own_st (fun t k => XS.aload X56.here hx rfl (hb hby at_325) rfl rfl  k) ?_
              refine own_st (fun t k => XS.iconst X56.here hx rfl (hb hby at_327) k) ?_
              refine own_st (fun t k => XS.iload X56.here hx rfl (hb hby at_328) rfl  k) ?_
              show own_Go p e below G (T56.setTop (mkF m 330 #[iv x0, iv x1, iv x2, iv x3, iv 2, iv k0, iv y28, rv b1, own_dv (FP.l2d w0), .second, own_dv (FP.l2d w1), .second, own_dv (FP.l2d w2), .second, own_dv (FP.l2d w3), .second, iv e0', iv e1', iv e2', iv e3', s20, own_dv (FP.l2d g), .second, .unset, .unset, rv b53] [(.int k0), (.int (3 : Int32)), (.ref b53)]))
              refine own_st (fun t k => XS.iconst X56.here hx rfl (hb hby at_330) k) ?_
              show own_Go p e below G (T56.setTop (mkF m 331 #[iv x0, iv x1, iv x2, iv x3, iv 2, iv k0, iv y28, rv b1, own_dv (FP.l2d w0), .second, own_dv (FP.l2d w1), .second, own_dv (FP.l2d w2), .second, own_dv (FP.l2d w3), .second, iv e0', iv e1', iv e2', iv e3', s20, own_dv (FP.l2d g), .second, .unset, .unset, rv b53] [(.int (3 : Int32)), (.int k0), (.int (3 : Int32)), (.ref b53)]))
              have J342 : ∀ (t3 : Int64) (hp3 : t3.toInt = own_pad k0 3 w3) (hb_t3 : own_b t3), own_Go p e below G (T56.setTop (mkF m 342 #[iv x0, iv x1, iv x2, iv x3, iv 2, iv k0, iv y28, rv b1, own_dv (FP.l2d w0), .second, own_dv (FP.l2d w1), .second, own_dv (FP.l2d w2), .second, own_dv (FP.l2d w3), .second, iv e0', iv e1', iv e2', iv e3', s20, own_dv (FP.l2d g), .second, .unset, .unset, rv b53] [(.double (FP.l2d t3)), (.int (3 : Int32)), (.ref b53)])) := by
                intro t3 hp3 hb_t3
                obtain ⟨cl57, Ar57, qa57, Sa57, Na57, Ha57, Ga57⟩ := V_b53
                have hin57 : ¬ ((3 : Int32) < 0 ∨ cl57.slots.size ≤ ((3 : Int32)).toNatClampNeg) := inb_of Sa57 ⟨by decide, by decide⟩
                obtain ⟨T57, h57, X57, e57, W57, st57⟩ := stD X56 hx hZ e56 Ar57 (j := (3 : Int32)) hin57 (g := (mkF m 342 #[iv x0, iv x1, iv x2, iv x3, iv 2, iv k0, iv y28, rv b1, own_dv (FP.l2d w0), .second, own_dv (FP.l2d w1), .second, own_dv (FP.l2d w2), .second, own_dv (FP.l2d w3), .second, iv e0', iv e1', iv e2', iv e3', s20, own_dv (FP.l2d g), .second, .unset, .unset, rv b53] [(.double (FP.l2d t3)), (.int (3 : Int32)), (.ref b53)])) rfl rfl (hb hby at_342)
                have V_b53 : Arv Z h57 b53 k53 .double (4 : Int32) [(.double (FP.l2d t0)), (.double (FP.l2d t1)), (.double (FP.l2d t2)), (.double (FP.l2d t3))] (.double (0 : UInt64)) := Arv.set Ar57 qa57 Sa57 Na57 Ha57 Ga57 rfl W57 3 rfl (Nat.le_of_ble_eq_true rfl)
                replace Z0 := Nat.le_trans Z0 (Keep.of_wr W57).1
                replace N0 := Fr.snoc X57 N0 g_b53
                refine own_st st57 ?_
                show own_Go p e below G (T57.setTop (mkF m 343 #[iv x0, iv x1, iv x2, iv x3, iv 2, iv k0, iv y28, rv b1, own_dv (FP.l2d w0), .second, own_dv (FP.l2d w1), .second, own_dv (FP.l2d w2), .second, own_dv (FP.l2d w3), .second, iv e0', iv e1', iv e2', iv e3', s20, own_dv (FP.l2d g), .second, .unset, .unset, rv b53] []))
                refine own_st (fun t k => XS.aload X57.here hx rfl (hb hby at_343) rfl rfl  k) ?_
                refine own_st (fun t k => XS.iconst X57.here hx rfl (hb hby at_345) k) ?_
                refine own_st (fun t k => XS.iconst X57.here hx rfl (hb hby at_346) k) ?_
                show own_Go p e below G (T57.setTop (mkF m 347 #[iv x0, iv x1, iv x2, iv x3, iv 2, iv k0, iv y28, rv b1, own_dv (FP.l2d w0), .second, own_dv (FP.l2d w1), .second, own_dv (FP.l2d w2), .second, own_dv (FP.l2d w3), .second, iv e0', iv e1', iv e2', iv e3', s20, own_dv (FP.l2d g), .second, .unset, .unset, rv b53] [(.int (1 : Int32)), (.int (0 : Int32)), (.ref b53)]))
                obtain ⟨v58, T58, L58, X58, Q58, st58⟩ := own_callS X57 hx hZ (y := (⟨"com/example/thinleaf/thinleaf/prune/NearestLeastPinLaw", "cs", "([DII)V"⟩ : MethodName)) hown (hw _ (List.mem_of_getElem? (i := 36) rfl)) (hw _ (List.mem_of_getElem? (i := 37) rfl)) (hw _ (List.mem_of_getElem? (i := 38) rfl)) (hw _ (List.mem_of_getElem? (i := 39) rfl)) (by decide) (W := 0) (rmX01 l Z a0 hw b53 k53 t0 t1 t2 t3 h57 n0 Z0 g_b53 V_b53 hb_t0 hb_t1) (by decide) (by decide) e57 (g := (mkF m 347 #[iv x0, iv x1, iv x2, iv x3, iv 2, iv k0, iv y28, rv b1, own_dv (FP.l2d w0), .second, own_dv (FP.l2d w1), .second, own_dv (FP.l2d w2), .second, own_dv (FP.l2d w3), .second, iv e0', iv e1', iv e2', iv e3', s20, own_dv (FP.l2d g), .second, .unset, .unset, rv b53] [(.int (1 : Int32)), (.int (0 : Int32)), (.ref b53)])) rfl (by rw [hml]; rfl) (argsL := [(.ref b53), (.int (0 : Int32)), (.int (1 : Int32))]) (rest := []) own_pd5 rfl rfl (by show 2 * 0 + _ ≤ _; exact Nat.le_of_eq rfl) (hb hby at_347) rfl (by decide) (by decide)
                obtain ⟨rfl, Nq58, Zq58, u58_0, u58_1, Vq58, hb_u58_0, hb_u58_1, hx_u58_0, hx_u58_1⟩ := Q58
                replace N0 := Fr.app N0 Nq58
                replace Z0 := Zq58
                replace V_b53 := Vq58
                refine own_st st58 ?_
                show own_Go p e below G (T58.setTop (mkF m 350 #[iv x0, iv x1, iv x2, iv x3, iv 2, iv k0, iv y28, rv b1, own_dv (FP.l2d w0), .second, own_dv (FP.l2d w1), .second, own_dv (FP.l2d w2), .second, own_dv (FP.l2d w3), .second, iv e0', iv e1', iv e2', iv e3', s20, own_dv (FP.l2d g), .second, .unset, .unset, rv b53] []))
                refine own_st (fun t k => XS.aload X58.here hx rfl (hb hby at_350) rfl rfl  k) ?_
                refine own_st (fun t k => XS.iconst X58.here hx rfl (hb hby at_352) k) ?_
                refine own_st (fun t k => XS.iconst X58.here hx rfl (hb hby at_353) k) ?_
                show own_Go p e below G (T58.setTop (mkF m 354 #[iv x0, iv x1, iv x2, iv x3, iv 2, iv k0, iv y28, rv b1, own_dv (FP.l2d w0), .second, own_dv (FP.l2d w1), .second, own_dv (FP.l2d w2), .second, own_dv (FP.l2d w3), .second, iv e0', iv e1', iv e2', iv e3', s20, own_dv (FP.l2d g), .second, .unset, .unset, rv b53] [(.int (3 : Int32)), (.int (2 : Int32)), (.ref b53)]))
                obtain ⟨v59, T59, L59, X59, Q59, st59⟩ := own_callS X58 hx hZ (y := (⟨"com/example/thinleaf/thinleaf/prune/NearestLeastPinLaw", "cs", "([DII)V"⟩ : MethodName)) hown (hw _ (List.mem_of_getElem? (i := 36) rfl)) (hw _ (List.mem_of_getElem? (i := 37) rfl)) (hw _ (List.mem_of_getElem? (i := 38) rfl)) (hw _ (List.mem_of_getElem? (i := 39) rfl)) (by decide) (W := 0) (rmX23 l Z a0 hw b53 k53 u58_0 u58_1 t2 t3 T58.heap n0 Z0 g_b53 V_b53 hb_t2 hb_t3) (by decide) (by decide) rfl (g := (mkF m 354 #[iv x0, iv x1, iv x2, iv x3, iv 2, iv k0, iv y28, rv b1, own_dv (FP.l2d w0), .second, own_dv (FP.l2d w1), .second, own_dv (FP.l2d w2), .second, own_dv (FP.l2d w3), .second, iv e0', iv e1', iv e2', iv e3', s20, own_dv (FP.l2d g), .second, .unset, .unset, rv b53] [(.int (3 : Int32)), (.int (2 : Int32)), (.ref b53)])) rfl (by rw [hml]; rfl) (argsL := [(.ref b53), (.int (2 : Int32)), (.int (3 : Int32))]) (rest := []) own_pd5 rfl rfl (by show 2 * 0 + _ ≤ _; exact Nat.le_of_eq rfl) (hb hby at_354) rfl (by decide) (by decide)
                obtain ⟨rfl, Nq59, Zq59, u59_2, u59_3, Vq59, hb_u59_2, hb_u59_3, hx_u59_2, hx_u59_3⟩ := Q59
                replace N0 := Fr.app N0 Nq59
                replace Z0 := Zq59
                replace V_b53 := Vq59
                refine own_st st59 ?_
                show own_Go p e below G (T59.setTop (mkF m 357 #[iv x0, iv x1, iv x2, iv x3, iv 2, iv k0, iv y28, rv b1, own_dv (FP.l2d w0), .second, own_dv (FP.l2d w1), .second, own_dv (FP.l2d w2), .second, own_dv (FP.l2d w3), .second, iv e0', iv e1', iv e2', iv e3', s20, own_dv (FP.l2d g), .second, .unset, .unset, rv b53] []))
                refine own_st (fun t k => XS.aload X59.here hx rfl (hb hby at_357) rfl rfl  k) ?_
                refine own_st (fun t k => XS.iconst X59.here hx rfl (hb hby at_359) k) ?_
                refine own_st (fun t k => XS.iconst X59.here hx rfl (hb hby at_360) k) ?_
                show own_Go p e below G (T59.setTop (mkF m 361 #[iv x0, iv x1, iv x2, iv x3, iv 2, iv k0, iv y28, rv b1, own_dv (FP.l2d w0), .second, own_dv (FP.l2d w1), .second, own_dv (FP.l2d w2), .second, own_dv (FP.l2d w3), .second, iv e0', iv e1', iv e2', iv e3', s20, own_dv (FP.l2d g), .second, .unset, .unset, rv b53] [(.int (2 : Int32)), (.int (0 : Int32)), (.ref b53)]))
                obtain ⟨v60, T60, L60, X60, Q60, st60⟩ := own_callS X59 hx hZ (y := (⟨"com/example/thinleaf/thinleaf/prune/NearestLeastPinLaw", "cs", "([DII)V"⟩ : MethodName)) hown (hw _ (List.mem_of_getElem? (i := 36) rfl)) (hw _ (List.mem_of_getElem? (i := 37) rfl)) (hw _ (List.mem_of_getElem? (i := 38) rfl)) (hw _ (List.mem_of_getElem? (i := 39) rfl)) (by decide) (W := 0) (rmX02 l Z a0 hw b53 k53 u58_0 u58_1 u59_2 u59_3 T59.heap n0 Z0 g_b53 V_b53 hb_u58_0 hb_u59_2) (by decide) (by decide) rfl (g := (mkF m 361 #[iv x0, iv x1, iv x2, iv x3, iv 2, iv k0, iv y28, rv b1, own_dv (FP.l2d w0), .second, own_dv (FP.l2d w1), .second, own_dv (FP.l2d w2), .second, own_dv (FP.l2d w3), .second, iv e0', iv e1', iv e2', iv e3', s20, own_dv (FP.l2d g), .second, .unset, .unset, rv b53] [(.int (2 : Int32)), (.int (0 : Int32)), (.ref b53)])) rfl (by rw [hml]; rfl) (argsL := [(.ref b53), (.int (0 : Int32)), (.int (2 : Int32))]) (rest := []) own_pd5 rfl rfl (by show 2 * 0 + _ ≤ _; exact Nat.le_of_eq rfl) (hb hby at_361) rfl (by decide) (by decide)
                obtain ⟨rfl, Nq60, Zq60, u60_0, u60_2, Vq60, hb_u60_0, hb_u60_2, hx_u60_0, hx_u60_2⟩ := Q60
                replace N0 := Fr.app N0 Nq60
                replace Z0 := Zq60
                replace V_b53 := Vq60
                refine own_st st60 ?_
                show own_Go p e below G (T60.setTop (mkF m 364 #[iv x0, iv x1, iv x2, iv x3, iv 2, iv k0, iv y28, rv b1, own_dv (FP.l2d w0), .second, own_dv (FP.l2d w1), .second, own_dv (FP.l2d w2), .second, own_dv (FP.l2d w3), .second, iv e0', iv e1', iv e2', iv e3', s20, own_dv (FP.l2d g), .second, .unset, .unset, rv b53] []))
                refine own_st (fun t k => XS.aload X60.here hx rfl (hb hby at_364) rfl rfl  k) ?_
                refine own_st (fun t k => XS.iconst X60.here hx rfl (hb hby at_366) k) ?_
                refine own_st (fun t k => XS.iconst X60.here hx rfl (hb hby at_367) k) ?_
                show own_Go p e below G (T60.setTop (mkF m 368 #[iv x0, iv x1, iv x2, iv x3, iv 2, iv k0, iv y28, rv b1, own_dv (FP.l2d w0), .second, own_dv (FP.l2d w1), .second, own_dv (FP.l2d w2), .second, own_dv (FP.l2d w3), .second, iv e0', iv e1', iv e2', iv e3', s20, own_dv (FP.l2d g), .second, .unset, .unset, rv b53] [(.int (3 : Int32)), (.int (1 : Int32)), (.ref b53)]))
                obtain ⟨v61, T61, L61, X61, Q61, st61⟩ := own_callS X60 hx hZ (y := (⟨"com/example/thinleaf/thinleaf/prune/NearestLeastPinLaw", "cs", "([DII)V"⟩ : MethodName)) hown (hw _ (List.mem_of_getElem? (i := 36) rfl)) (hw _ (List.mem_of_getElem? (i := 37) rfl)) (hw _ (List.mem_of_getElem? (i := 38) rfl)) (hw _ (List.mem_of_getElem? (i := 39) rfl)) (by decide) (W := 0) (rmX13 l Z a0 hw b53 k53 u60_0 u58_1 u60_2 u59_3 T60.heap n0 Z0 g_b53 V_b53 hb_u58_1 hb_u59_3) (by decide) (by decide) rfl (g := (mkF m 368 #[iv x0, iv x1, iv x2, iv x3, iv 2, iv k0, iv y28, rv b1, own_dv (FP.l2d w0), .second, own_dv (FP.l2d w1), .second, own_dv (FP.l2d w2), .second, own_dv (FP.l2d w3), .second, iv e0', iv e1', iv e2', iv e3', s20, own_dv (FP.l2d g), .second, .unset, .unset, rv b53] [(.int (3 : Int32)), (.int (1 : Int32)), (.ref b53)])) rfl (by rw [hml]; rfl) (argsL := [(.ref b53), (.int (1 : Int32)), (.int (3 : Int32))]) (rest := []) own_pd5 rfl rfl (by show 2 * 0 + _ ≤ _; exact Nat.le_of_eq rfl) (hb hby at_368) rfl (by decide) (by decide)
                obtain ⟨rfl, Nq61, Zq61, u61_1, u61_3, Vq61, hb_u61_1, hb_u61_3, hx_u61_1, hx_u61_3⟩ := Q61
                replace N0 := Fr.app N0 Nq61
                replace Z0 := Zq61
                replace V_b53 := Vq61
                refine own_st st61 ?_
                show own_Go p e below G (T61.setTop (mkF m 371 #[iv x0, iv x1, iv x2, iv x3, iv 2, iv k0, iv y28, rv b1, own_dv (FP.l2d w0), .second, own_dv (FP.l2d w1), .second, own_dv (FP.l2d w2), .second, own_dv (FP.l2d w3), .second, iv e0', iv e1', iv e2', iv e3', s20, own_dv (FP.l2d g), .second, .unset, .unset, rv b53] []))
                refine own_st (fun t k => XS.aload X61.here hx rfl (hb hby at_371) rfl rfl  k) ?_
                refine own_st (fun t k => XS.iconst X61.here hx rfl (hb hby at_373) k) ?_
                refine own_st (fun t k => XS.iconst X61.here hx rfl (hb hby at_374) k) ?_
                show own_Go p e below G (T61.setTop (mkF m 375 #[iv x0, iv x1, iv x2, iv x3, iv 2, iv k0, iv y28, rv b1, own_dv (FP.l2d w0), .second, own_dv (FP.l2d w1), .second, own_dv (FP.l2d w2), .second, own_dv (FP.l2d w3), .second, iv e0', iv e1', iv e2', iv e3', s20, own_dv (FP.l2d g), .second, .unset, .unset, rv b53] [(.int (2 : Int32)), (.int (1 : Int32)), (.ref b53)]))
                obtain ⟨v62, T62, L62, X62, Q62, st62⟩ := own_callS X61 hx hZ (y := (⟨"com/example/thinleaf/thinleaf/prune/NearestLeastPinLaw", "cs", "([DII)V"⟩ : MethodName)) hown (hw _ (List.mem_of_getElem? (i := 36) rfl)) (hw _ (List.mem_of_getElem? (i := 37) rfl)) (hw _ (List.mem_of_getElem? (i := 38) rfl)) (hw _ (List.mem_of_getElem? (i := 39) rfl)) (by decide) (W := 0) (rmX12 l Z a0 hw b53 k53 u60_0 u61_1 u60_2 u61_3 T61.heap n0 Z0 g_b53 V_b53 hb_u61_1 hb_u60_2) (by decide) (by decide) rfl (g := (mkF m 375 #[iv x0, iv x1, iv x2, iv x3, iv 2, iv k0, iv y28, rv b1, own_dv (FP.l2d w0), .second, own_dv (FP.l2d w1), .second, own_dv (FP.l2d w2), .second, own_dv (FP.l2d w3), .second, iv e0', iv e1', iv e2', iv e3', s20, own_dv (FP.l2d g), .second, .unset, .unset, rv b53] [(.int (2 : Int32)), (.int (1 : Int32)), (.ref b53)])) rfl (by rw [hml]; rfl) (argsL := [(.ref b53), (.int (1 : Int32)), (.int (2 : Int32))]) (rest := []) own_pd5 rfl rfl (by show 2 * 0 + _ ≤ _; exact Nat.le_of_eq rfl) (hb hby at_375) rfl (by decide) (by decide)
                obtain ⟨rfl, Nq62, Zq62, u62_1, u62_2, Vq62, hb_u62_1, hb_u62_2, hx_u62_1, hx_u62_2⟩ := Q62
                replace N0 := Fr.app N0 Nq62
                replace Z0 := Zq62
                replace V_b53 := Vq62
                refine own_st st62 ?_
                show own_Go p e below G (T62.setTop (mkF m 378 #[iv x0, iv x1, iv x2, iv x3, iv 2, iv k0, iv y28, rv b1, own_dv (FP.l2d w0), .second, own_dv (FP.l2d w1), .second, own_dv (FP.l2d w2), .second, own_dv (FP.l2d w3), .second, iv e0', iv e1', iv e2', iv e3', s20, own_dv (FP.l2d g), .second, .unset, .unset, rv b53] []))
                refine own_st (fun t k => XS.aload X62.here hx rfl (hb hby at_378) rfl rfl  k) ?_
                refine own_st (fun t k => XS.iload X62.here hx rfl (hb hby at_380) rfl  k) ?_
                refine own_st (fun t k => XS.iconst X62.here hx rfl (hb hby at_382) k) ?_
                show own_Go p e below G (T62.setTop (mkF m 383 #[iv x0, iv x1, iv x2, iv x3, iv 2, iv k0, iv y28, rv b1, own_dv (FP.l2d w0), .second, own_dv (FP.l2d w1), .second, own_dv (FP.l2d w2), .second, own_dv (FP.l2d w3), .second, iv e0', iv e1', iv e2', iv e3', s20, own_dv (FP.l2d g), .second, .unset, .unset, rv b53] [(.int (1 : Int32)), (.int (2 : Int32)), (.ref b53)]))
                refine own_st (fun t k => XS.isub X62.here hx rfl (hb hby at_383) rfl k) ?_
                show own_Go p e below G (T62.setTop (mkF m 384 #[iv x0, iv x1, iv x2, iv x3, iv 2, iv k0, iv y28, rv b1, own_dv (FP.l2d w0), .second, own_dv (FP.l2d w1), .second, own_dv (FP.l2d w2), .second, own_dv (FP.l2d w3), .second, iv e0', iv e1', iv e2', iv e3', s20, own_dv (FP.l2d g), .second, .unset, .unset, rv b53] [(.int (1 : Int32)), (.ref b53)]))
                have Vc63 := V_b53
                obtain ⟨cl63, Ar63, -, Sa63, -, Ha63, -⟩ := Vc63
                have hin63 : ¬ ((1 : Int32) < 0 ∨ cl63.slots.size ≤ ((1 : Int32)).toNatClampNeg) := inb_of Sa63 ⟨by decide, by decide⟩
                refine own_st (fun t k => X62.daload hx (j := (1 : Int32)) (v := (.double (FP.l2d u62_1))) (by exact Ar63.1) (State.isArrayOf_alike hZ.alike Ar63.2.1) Ar63.2.2 hin63 (Ha63.at hin63 rfl) (g := (mkF m 384 #[iv x0, iv x1, iv x2, iv x3, iv 2, iv k0, iv y28, rv b1, own_dv (FP.l2d w0), .second, own_dv (FP.l2d w1), .second, own_dv (FP.l2d w2), .second, own_dv (FP.l2d w3), .second, iv e0', iv e1', iv e2', iv e3', s20, own_dv (FP.l2d g), .second, .unset, .unset, rv b53] [(.int (1 : Int32)), (.ref b53)])) rfl rfl (hb hby at_384) t k) ?_
                show own_Go p e below G (T62.setTop (mkF m 385 #[iv x0, iv x1, iv x2, iv x3, iv 2, iv k0, iv y28, rv b1, own_dv (FP.l2d w0), .second, own_dv (FP.l2d w1), .second, own_dv (FP.l2d w2), .second, own_dv (FP.l2d w3), .second, iv e0', iv e1', iv e2', iv e3', s20, own_dv (FP.l2d g), .second, .unset, .unset, rv b53] [(.double (FP.l2d u62_1))]))
                refine own_st (fun t k => XS.dstore X62.here hx rfl (hb hby at_385) rfl (l' := #[iv x0, iv x1, iv x2, iv x3, iv 2, iv k0, iv y28, rv b1, own_dv (FP.l2d w0), .second, own_dv (FP.l2d w1), .second, own_dv (FP.l2d w2), .second, own_dv (FP.l2d w3), .second, iv e0', iv e1', iv e2', iv e3', s20, own_dv (FP.l2d g), .second, own_dv (FP.l2d u62_1), .second, rv b53]) rfl k) ?_
                refine own_st (fun t k => XS.dload X62.here hx rfl (hb hby at_387) rfl  k) ?_
                refine own_st (fun t k => XS.dload X62.here hx rfl (hb hby at_389) rfl  k) ?_
                show own_Go p e below G (T62.setTop (mkF m 391 #[iv x0, iv x1, iv x2, iv x3, iv 2, iv k0, iv y28, rv b1, own_dv (FP.l2d w0), .second, own_dv (FP.l2d w1), .second, own_dv (FP.l2d w2), .second, own_dv (FP.l2d w3), .second, iv e0', iv e1', iv e2', iv e3', s20, own_dv (FP.l2d g), .second, own_dv (FP.l2d u62_1), .second, rv b53] [(.double (FP.l2d u62_1)), (.double (FP.l2d g))]))
                refine own_st (fun t k => XS.dcmpS X62.here hx rfl (hb hby at_391) rfl (dcmpV_w (own_b53 hgb) (own_b53 hb_u62_1) _) k) ?_
                show own_Go p e below G (T62.setTop (mkF m 392 #[iv x0, iv x1, iv x2, iv x3, iv 2, iv k0, iv y28, rv b1, own_dv (FP.l2d w0), .second, own_dv (FP.l2d w1), .second, own_dv (FP.l2d w2), .second, own_dv (FP.l2d w3), .second, iv e0', iv e1', iv e2', iv e3', s20, own_dv (FP.l2d g), .second, own_dv (FP.l2d u62_1), .second, rv b53] [(.int (lcmpW g u62_1))]))
                refine own_st (fun t k => XS.ifNo X62.here hx rfl (hb hby at_392) rfl ((if0 _ _).trans (teq ((lw_eq _ _).2 (Int64.toInt_inj.mp (by simp only [own_nth, ← hp0, ← hp1, ← hp2, ← hp3] at hg; omega)))).2) k) ?_
                show own_Go p e below G (T62.setTop (mkF m 395 #[iv x0, iv x1, iv x2, iv x3, iv 2, iv k0, iv y28, rv b1, own_dv (FP.l2d w0), .second, own_dv (FP.l2d w1), .second, own_dv (FP.l2d w2), .second, own_dv (FP.l2d w3), .second, iv e0', iv e1', iv e2', iv e3', s20, own_dv (FP.l2d g), .second, own_dv (FP.l2d u62_1), .second, rv b53] []))
                refine own_st (fun t k => XS.iconst X62.here hx rfl (hb hby at_395) k) ?_
                refine own_st (fun t k => XS.goto X62.here hx rfl (pc0 := 396) (pc' := 400) rfl (hb hby at_396) (by decide) (by decide) k) ?_
                show own_Go p e below G (T62.setTop (mkF m 400 #[iv x0, iv x1, iv x2, iv x3, iv 2, iv k0, iv y28, rv b1, own_dv (FP.l2d w0), .second, own_dv (FP.l2d w1), .second, own_dv (FP.l2d w2), .second, own_dv (FP.l2d w3), .second, iv e0', iv e1', iv e2', iv e3', s20, own_dv (FP.l2d g), .second, own_dv (FP.l2d u62_1), .second, rv b53] [(.int (1 : Int32))]))
                rw [hG]
                exact own_retZ X62 hx hlk (t := .boolean) hret (by simp) (hb hby at_400) ⟨rfl, N0⟩ (by decide) (by decide)
              by_cases c331_64 : (3 : Int32) < k0
              · skip
                refine own_st (fun t k => XS.icmpNo X56.here hx rfl (hb hby at_331) rfl (tlt c331_64).2.2.2 k) ?_
                show own_Go p e below G (T56.setTop (mkF m 334 #[iv x0, iv x1, iv x2, iv x3, iv 2, iv k0, iv y28, rv b1, own_dv (FP.l2d w0), .second, own_dv (FP.l2d w1), .second, own_dv (FP.l2d w2), .second, own_dv (FP.l2d w3), .second, iv e0', iv e1', iv e2', iv e3', s20, own_dv (FP.l2d g), .second, .unset, .unset, rv b53] [(.int (3 : Int32)), (.ref b53)]))
                refine own_st (fun t k => XS.dload X56.here hx rfl (hb hby at_334) rfl  k) ?_
                refine own_st (fun t k => XS.goto X56.here hx rfl (pc0 := 336) (pc' := 342) rfl (hb hby at_336) (by decide) (by decide) k) ?_
                show own_Go p e below G (T56.setTop (mkF m 342 #[iv x0, iv x1, iv x2, iv x3, iv 2, iv k0, iv y28, rv b1, own_dv (FP.l2d w0), .second, own_dv (FP.l2d w1), .second, own_dv (FP.l2d w2), .second, own_dv (FP.l2d w3), .second, iv e0', iv e1', iv e2', iv e3', s20, own_dv (FP.l2d g), .second, .unset, .unset, rv b53] [(.double (FP.l2d w3)), (.int (3 : Int32)), (.ref b53)]))
                have hlt : (3 : Int) < k0.toInt := by have q := c331_64; rw [Int32.lt_iff_toInt_lt] at q; have z : ((3 : Int32)).toInt = 3 := rfl; omega
                exact J342 w3 (by unfold own_pad; rw [if_pos hlt]) (own_wb hw3)
              · skip
                refine own_st (fun t k => XS.icmpYes X56.here hx rfl (pc0 := 331) (pc' := 339) rfl (hb hby at_331) rfl (flt c331_64).2.2.2 (by decide) (by decide) k) ?_
                show own_Go p e below G (T56.setTop (mkF m 339 #[iv x0, iv x1, iv x2, iv x3, iv 2, iv k0, iv y28, rv b1, own_dv (FP.l2d w0), .second, own_dv (FP.l2d w1), .second, own_dv (FP.l2d w2), .second, own_dv (FP.l2d w3), .second, iv e0', iv e1', iv e2', iv e3', s20, own_dv (FP.l2d g), .second, .unset, .unset, rv b53] [(.int (3 : Int32)), (.ref b53)]))
                refine own_st (fun t k => X56.ldc2DoubleC hx hown (mvT hZ (hw _ (List.mem_of_getElem? (i := 35) rfl))) (g := (mkF m 339 #[iv x0, iv x1, iv x2, iv x3, iv 2, iv k0, iv y28, rv b1, own_dv (FP.l2d w0), .second, own_dv (FP.l2d w1), .second, own_dv (FP.l2d w2), .second, own_dv (FP.l2d w3), .second, iv e0', iv e1', iv e2', iv e3', s20, own_dv (FP.l2d g), .second, .unset, .unset, rv b53] [(.int (3 : Int32)), (.ref b53)])) rfl (hb hby at_339) t k) ?_
                show own_Go p e below G (T56.setTop (mkF m 342 #[iv x0, iv x1, iv x2, iv x3, iv 2, iv k0, iv y28, rv b1, own_dv (FP.l2d w0), .second, own_dv (FP.l2d w1), .second, own_dv (FP.l2d w2), .second, own_dv (FP.l2d w3), .second, iv e0', iv e1', iv e2', iv e3', s20, own_dv (FP.l2d g), .second, .unset, .unset, rv b53] [(.double (13860109328209412096 : UInt64)), (.int (3 : Int32)), (.ref b53)]))
                rw [own_m100]
                have hlt : ¬ (3 : Int) < k0.toInt := by have q := c331_64; rw [Int32.lt_iff_toInt_lt] at q; have z : ((3 : Int32)).toInt = 3 := rfl; omega
                exact J342 (-100) (by unfold own_pad; rw [if_neg hlt]; decide) (by unfold own_b; decide)
            by_cases c313_65 : (2 : Int32) < k0
            · skip
              refine own_st (fun t k => XS.icmpNo X55.here hx rfl (hb hby at_313) rfl (tlt c313_65).2.2.2 k) ?_
              show own_Go p e below G (T55.setTop (mkF m 316 #[iv x0, iv x1, iv x2, iv x3, iv 2, iv k0, iv y28, rv b1, own_dv (FP.l2d w0), .second, own_dv (FP.l2d w1), .second, own_dv (FP.l2d w2), .second, own_dv (FP.l2d w3), .second, iv e0', iv e1', iv e2', iv e3', s20, own_dv (FP.l2d g), .second, .unset, .unset, rv b53] [(.int (2 : Int32)), (.ref b53)]))
              refine own_st (fun t k => XS.dload X55.here hx rfl (hb hby at_316) rfl  k) ?_
              refine own_st (fun t k => XS.goto X55.here hx rfl (pc0 := 318) (pc' := 324) rfl (hb hby at_318) (by decide) (by decide) k) ?_
              show own_Go p e below G (T55.setTop (mkF m 324 #[iv x0, iv x1, iv x2, iv x3, iv 2, iv k0, iv y28, rv b1, own_dv (FP.l2d w0), .second, own_dv (FP.l2d w1), .second, own_dv (FP.l2d w2), .second, own_dv (FP.l2d w3), .second, iv e0', iv e1', iv e2', iv e3', s20, own_dv (FP.l2d g), .second, .unset, .unset, rv b53] [(.double (FP.l2d w2)), (.int (2 : Int32)), (.ref b53)]))
              have hlt : (2 : Int) < k0.toInt := by have q := c313_65; rw [Int32.lt_iff_toInt_lt] at q; have z : ((2 : Int32)).toInt = 2 := rfl; omega
              exact J324 w2 (by unfold own_pad; rw [if_pos hlt]) (own_wb hw2)
            · skip
              refine own_st (fun t k => XS.icmpYes X55.here hx rfl (pc0 := 313) (pc' := 321) rfl (hb hby at_313) rfl (flt c313_65).2.2.2 (by decide) (by decide) k) ?_
              show own_Go p e below G (T55.setTop (mkF m 321 #[iv x0, iv x1, iv x2, iv x3, iv 2, iv k0, iv y28, rv b1, own_dv (FP.l2d w0), .second, own_dv (FP.l2d w1), .second, own_dv (FP.l2d w2), .second, own_dv (FP.l2d w3), .second, iv e0', iv e1', iv e2', iv e3', s20, own_dv (FP.l2d g), .second, .unset, .unset, rv b53] [(.int (2 : Int32)), (.ref b53)]))
              refine own_st (fun t k => X55.ldc2DoubleC hx hown (mvT hZ (hw _ (List.mem_of_getElem? (i := 35) rfl))) (g := (mkF m 321 #[iv x0, iv x1, iv x2, iv x3, iv 2, iv k0, iv y28, rv b1, own_dv (FP.l2d w0), .second, own_dv (FP.l2d w1), .second, own_dv (FP.l2d w2), .second, own_dv (FP.l2d w3), .second, iv e0', iv e1', iv e2', iv e3', s20, own_dv (FP.l2d g), .second, .unset, .unset, rv b53] [(.int (2 : Int32)), (.ref b53)])) rfl (hb hby at_321) t k) ?_
              show own_Go p e below G (T55.setTop (mkF m 324 #[iv x0, iv x1, iv x2, iv x3, iv 2, iv k0, iv y28, rv b1, own_dv (FP.l2d w0), .second, own_dv (FP.l2d w1), .second, own_dv (FP.l2d w2), .second, own_dv (FP.l2d w3), .second, iv e0', iv e1', iv e2', iv e3', s20, own_dv (FP.l2d g), .second, .unset, .unset, rv b53] [(.double (13860109328209412096 : UInt64)), (.int (2 : Int32)), (.ref b53)]))
              rw [own_m100]
              have hlt : ¬ (2 : Int) < k0.toInt := by have q := c313_65; rw [Int32.lt_iff_toInt_lt] at q; have z : ((2 : Int32)).toInt = 2 := rfl; omega
              exact J324 (-100) (by unfold own_pad; rw [if_neg hlt]; decide) (by unfold own_b; decide)
          by_cases c295_66 : (1 : Int32) < k0
          · skip
            refine own_st (fun t k => XS.icmpNo X54.here hx rfl (hb hby at_295) rfl (tlt c295_66).2.2.2 k) ?_
            show own_Go p e below G (T54.setTop (mkF m 298 #[iv x0, iv x1, iv x2, iv x3, iv 2, iv k0, iv y28, rv b1, own_dv (FP.l2d w0), .second, own_dv (FP.l2d w1), .second, own_dv (FP.l2d w2), .second, own_dv (FP.l2d w3), .second, iv e0', iv e1', iv e2', iv e3', s20, own_dv (FP.l2d g), .second, .unset, .unset, rv b53] [(.int (1 : Int32)), (.ref b53)]))
            refine own_st (fun t k => XS.dload X54.here hx rfl (hb hby at_298) rfl  k) ?_
            refine own_st (fun t k => XS.goto X54.here hx rfl (pc0 := 300) (pc' := 306) rfl (hb hby at_300) (by decide) (by decide) k) ?_
            show own_Go p e below G (T54.setTop (mkF m 306 #[iv x0, iv x1, iv x2, iv x3, iv 2, iv k0, iv y28, rv b1, own_dv (FP.l2d w0), .second, own_dv (FP.l2d w1), .second, own_dv (FP.l2d w2), .second, own_dv (FP.l2d w3), .second, iv e0', iv e1', iv e2', iv e3', s20, own_dv (FP.l2d g), .second, .unset, .unset, rv b53] [(.double (FP.l2d w1)), (.int (1 : Int32)), (.ref b53)]))
            have hlt : (1 : Int) < k0.toInt := by have q := c295_66; rw [Int32.lt_iff_toInt_lt] at q; have z : ((1 : Int32)).toInt = 1 := rfl; omega
            exact J306 w1 (by unfold own_pad; rw [if_pos hlt]) (own_wb hw1)
          · skip
            refine own_st (fun t k => XS.icmpYes X54.here hx rfl (pc0 := 295) (pc' := 303) rfl (hb hby at_295) rfl (flt c295_66).2.2.2 (by decide) (by decide) k) ?_
            show own_Go p e below G (T54.setTop (mkF m 303 #[iv x0, iv x1, iv x2, iv x3, iv 2, iv k0, iv y28, rv b1, own_dv (FP.l2d w0), .second, own_dv (FP.l2d w1), .second, own_dv (FP.l2d w2), .second, own_dv (FP.l2d w3), .second, iv e0', iv e1', iv e2', iv e3', s20, own_dv (FP.l2d g), .second, .unset, .unset, rv b53] [(.int (1 : Int32)), (.ref b53)]))
            refine own_st (fun t k => X54.ldc2DoubleC hx hown (mvT hZ (hw _ (List.mem_of_getElem? (i := 35) rfl))) (g := (mkF m 303 #[iv x0, iv x1, iv x2, iv x3, iv 2, iv k0, iv y28, rv b1, own_dv (FP.l2d w0), .second, own_dv (FP.l2d w1), .second, own_dv (FP.l2d w2), .second, own_dv (FP.l2d w3), .second, iv e0', iv e1', iv e2', iv e3', s20, own_dv (FP.l2d g), .second, .unset, .unset, rv b53] [(.int (1 : Int32)), (.ref b53)])) rfl (hb hby at_303) t k) ?_
            show own_Go p e below G (T54.setTop (mkF m 306 #[iv x0, iv x1, iv x2, iv x3, iv 2, iv k0, iv y28, rv b1, own_dv (FP.l2d w0), .second, own_dv (FP.l2d w1), .second, own_dv (FP.l2d w2), .second, own_dv (FP.l2d w3), .second, iv e0', iv e1', iv e2', iv e3', s20, own_dv (FP.l2d g), .second, .unset, .unset, rv b53] [(.double (13860109328209412096 : UInt64)), (.int (1 : Int32)), (.ref b53)]))
            rw [own_m100]
            have hlt : ¬ (1 : Int) < k0.toInt := by have q := c295_66; rw [Int32.lt_iff_toInt_lt] at q; have z : ((1 : Int32)).toInt = 1 := rfl; omega
            exact J306 (-100) (by unfold own_pad; rw [if_neg hlt]; decide) (by unfold own_b; decide)
        by_cases c277_67 : (0 : Int32) < k0
        · skip
          refine own_st (fun t k => XS.ifNo X53.here hx rfl (hb hby at_277) rfl ((if0 _ _).trans (tlt c277_67).2.2.2) k) ?_
          show own_Go p e below G (T53.setTop (mkF m 280 #[iv x0, iv x1, iv x2, iv x3, iv 2, iv k0, iv y28, rv b1, own_dv (FP.l2d w0), .second, own_dv (FP.l2d w1), .second, own_dv (FP.l2d w2), .second, own_dv (FP.l2d w3), .second, iv e0', iv e1', iv e2', iv e3', s20, own_dv (FP.l2d g), .second, .unset, .unset, rv b53] [(.int (0 : Int32)), (.ref b53)]))
          refine own_st (fun t k => XS.dload X53.here hx rfl (hb hby at_280) rfl  k) ?_
          refine own_st (fun t k => XS.goto X53.here hx rfl (pc0 := 282) (pc' := 288) rfl (hb hby at_282) (by decide) (by decide) k) ?_
          show own_Go p e below G (T53.setTop (mkF m 288 #[iv x0, iv x1, iv x2, iv x3, iv 2, iv k0, iv y28, rv b1, own_dv (FP.l2d w0), .second, own_dv (FP.l2d w1), .second, own_dv (FP.l2d w2), .second, own_dv (FP.l2d w3), .second, iv e0', iv e1', iv e2', iv e3', s20, own_dv (FP.l2d g), .second, .unset, .unset, rv b53] [(.double (FP.l2d w0)), (.int (0 : Int32)), (.ref b53)]))
          have hlt : (0 : Int) < k0.toInt := by have q := c277_67; rw [Int32.lt_iff_toInt_lt] at q; have z : ((0 : Int32)).toInt = 0 := rfl; omega
          exact J288 w0 (by unfold own_pad; rw [if_pos hlt]) (own_wb hw0)
        · skip
          refine own_st (fun t k => XS.ifYes X53.here hx rfl (pc0 := 277) (pc' := 285) rfl (hb hby at_277) rfl ((if0 _ _).trans (flt c277_67).2.2.2) (by decide) (by decide) k) ?_
          show own_Go p e below G (T53.setTop (mkF m 285 #[iv x0, iv x1, iv x2, iv x3, iv 2, iv k0, iv y28, rv b1, own_dv (FP.l2d w0), .second, own_dv (FP.l2d w1), .second, own_dv (FP.l2d w2), .second, own_dv (FP.l2d w3), .second, iv e0', iv e1', iv e2', iv e3', s20, own_dv (FP.l2d g), .second, .unset, .unset, rv b53] [(.int (0 : Int32)), (.ref b53)]))
          refine own_st (fun t k => X53.ldc2DoubleC hx hown (mvT hZ (hw _ (List.mem_of_getElem? (i := 35) rfl))) (g := (mkF m 285 #[iv x0, iv x1, iv x2, iv x3, iv 2, iv k0, iv y28, rv b1, own_dv (FP.l2d w0), .second, own_dv (FP.l2d w1), .second, own_dv (FP.l2d w2), .second, own_dv (FP.l2d w3), .second, iv e0', iv e1', iv e2', iv e3', s20, own_dv (FP.l2d g), .second, .unset, .unset, rv b53] [(.int (0 : Int32)), (.ref b53)])) rfl (hb hby at_285) t k) ?_
          show own_Go p e below G (T53.setTop (mkF m 288 #[iv x0, iv x1, iv x2, iv x3, iv 2, iv k0, iv y28, rv b1, own_dv (FP.l2d w0), .second, own_dv (FP.l2d w1), .second, own_dv (FP.l2d w2), .second, own_dv (FP.l2d w3), .second, iv e0', iv e1', iv e2', iv e3', s20, own_dv (FP.l2d g), .second, .unset, .unset, rv b53] [(.double (13860109328209412096 : UInt64)), (.int (0 : Int32)), (.ref b53)]))
          rw [own_m100]
          have hlt : ¬ (0 : Int) < k0.toInt := by have q := c277_67; rw [Int32.lt_iff_toInt_lt] at q; have z : ((0 : Int32)).toInt = 0 := rfl; omega
          exact J288 (-100) (by unfold own_pad; rw [if_neg hlt]; decide) (by unfold own_b; decide)
      obtain ⟨T68, h68, X68, e68, E68, A68, D68, -, st68⟩ := newO X5 hx hZ hown (hw _ (List.mem_of_getElem? (i := 1) rfl)) (hw _ (List.mem_of_getElem? (i := 2) rfl)) (hw _ (List.mem_of_getElem? (i := 3) rfl)) e5 (g := (mkF m 147 #[iv x0, iv x1, iv x2, iv x3, iv 2, iv k0, iv y28, rv b1, own_dv (FP.l2d w0), .second, own_dv (FP.l2d w1), .second, own_dv (FP.l2d w2), .second, own_dv (FP.l2d w3), .second, iv e0', iv e1', iv e2', iv e3', .unset, .unset, .unset, .unset, .unset, .unset] [])) rfl (hb hby at_147) (by decide) (by decide)
      obtain ⟨b68, gb68⟩ : ∃ z, z = h5.size := ⟨_, rfl⟩
      rw [← gb68] at A68 D68 st68
      have g_b68 : n0 ≤ b68 := Nat.le_trans Z0 (Nat.le_of_eq gb68.symm)
      have ne_b1_b68 : b1 ≠ b68 := Nat.ne_of_lt (Nat.lt_of_lt_of_le V_b1.lt (Nat.le_of_eq gb68.symm))
      replace Z0 := Nat.le_trans Z0 E68.1
      replace V_b1 := V_b1.ext E68
      have E_b68 := A68
      have F_numbers_b68 : Fld Z h68 b68 "com/example/thinleaf/thinleaf/prune/Nearest" "numbers" "[I" .null := D68 (Or.inr (hw _ (List.mem_of_getElem? (i := 11) rfl))) (ty := (.array .int)) (by decide)
      have F_cosines_b68 : Fld Z h68 b68 "com/example/thinleaf/thinleaf/prune/Nearest" "cosines" "[D" .null := D68 (Or.inr (hw _ (List.mem_of_getElem? (i := 14) rfl))) (ty := (.array .double)) (by decide)
      have F_places_b68 : Fld Z h68 b68 "com/example/thinleaf/thinleaf/prune/Nearest" "places" "[I" .null := D68 (Or.inr (hw _ (List.mem_of_getElem? (i := 16) rfl))) (ty := (.array .int)) (by decide)
      have F_size_b68 : Fld Z h68 b68 "com/example/thinleaf/thinleaf/prune/Nearest" "size" "I" (.int (0 : Int32)) := D68 (Or.inl (hw _ (List.mem_of_getElem? (i := 23) rfl))) (ty := .int) (by decide)
      refine own_st st68 ?_
      show own_Go p e below G (T68.setTop (mkF m 150 #[iv x0, iv x1, iv x2, iv x3, iv 2, iv k0, iv y28, rv b1, own_dv (FP.l2d w0), .second, own_dv (FP.l2d w1), .second, own_dv (FP.l2d w2), .second, own_dv (FP.l2d w3), .second, iv e0', iv e1', iv e2', iv e3', .unset, .unset, .unset, .unset, .unset, .unset] [(.ref b68)]))
      refine own_st (fun t k => XS.dup X68.here hx rfl (hb hby at_150) rfl rfl k) ?_
      refine own_st (fun t k => XS.iload X68.here hx rfl (hb hby at_151) rfl  k) ?_
      refine own_st (fun t k => XS.iload X68.here hx rfl (hb hby at_153) rfl  k) ?_
      show own_Go p e below G (T68.setTop (mkF m 155 #[iv x0, iv x1, iv x2, iv x3, iv 2, iv k0, iv y28, rv b1, own_dv (FP.l2d w0), .second, own_dv (FP.l2d w1), .second, own_dv (FP.l2d w2), .second, own_dv (FP.l2d w3), .second, iv e0', iv e1', iv e2', iv e3', .unset, .unset, .unset, .unset, .unset, .unset] [(.int y28), (.int (2 : Int32)), (.ref b68), (.ref b68)]))
      have J164 : ∀ (pv : Value) (Pl : own_Pl Z h68 pv [b68]), own_Go p e below G (T68.setTop (mkF m 164 #[iv x0, iv x1, iv x2, iv x3, iv 2, iv k0, iv y28, rv b1, own_dv (FP.l2d w0), .second, own_dv (FP.l2d w1), .second, own_dv (FP.l2d w2), .second, own_dv (FP.l2d w3), .second, iv e0', iv e1', iv e2', iv e3', .unset, .unset, .unset, .unset, .unset, .unset] [pv, (.int (2 : Int32)), (.ref b68), (.ref b68)])) := by
        intro pv Pl
        obtain ⟨v69, T69, L69, X69, Q69, st69⟩ := own_callC X68 hx hZ (y := (⟨"com/example/thinleaf/thinleaf/prune/Nearest", "<init>", "(I[I)V"⟩ : MethodName)) rfl hown (hw _ (List.mem_of_getElem? (i := 4) rfl)) (hw _ (List.mem_of_getElem? (i := 5) rfl)) (hw _ (List.mem_of_getElem? (i := 3) rfl)) (hw _ (List.mem_of_getElem? (i := 6) rfl)) (by decide) (W := 1) (rmC2 l Z a0 hw b68 pv h68 n0 Z0 g_b68 Pl E_b68 F_numbers_b68 F_cosines_b68 F_places_b68 F_size_b68) (by decide) (by decide) e68 (g := (mkF m 164 #[iv x0, iv x1, iv x2, iv x3, iv 2, iv k0, iv y28, rv b1, own_dv (FP.l2d w0), .second, own_dv (FP.l2d w1), .second, own_dv (FP.l2d w2), .second, own_dv (FP.l2d w3), .second, iv e0', iv e1', iv e2', iv e3', .unset, .unset, .unset, .unset, .unset, .unset] [pv, (.int (2 : Int32)), (.ref b68), (.ref b68)])) rfl (by rw [hml]; rfl) (a := b68) (argsL := [(.int (2 : Int32)), pv]) (rest := [(.ref b68)]) own_pd2 rfl rfl (by show 2 * 0 + _ ≤ _; exact Nat.le_of_eq rfl) (hb hby at_164) rfl (by decide) (by decide)
        obtain ⟨rfl, Nq, bn, bc, kn, kc, NB0⟩ := Q69
        replace N0 := Fr.app N0 Nq
        refine own_st st69 ?_
        show own_Go p e below G (T69.setTop (mkF m 167 #[iv x0, iv x1, iv x2, iv x3, iv 2, iv k0, iv y28, rv b1, own_dv (FP.l2d w0), .second, own_dv (FP.l2d w1), .second, own_dv (FP.l2d w2), .second, own_dv (FP.l2d w3), .second, iv e0', iv e1', iv e2', iv e3', .unset, .unset, .unset, .unset, .unset, .unset] [(.ref b68)]))
        refine own_st (fun t k => XS.astore X69.here hx rfl (hb hby at_167) rfl rfl (l' := #[iv x0, iv x1, iv x2, iv x3, iv 2, iv k0, iv y28, rv b1, own_dv (FP.l2d w0), .second, own_dv (FP.l2d w1), .second, own_dv (FP.l2d w2), .second, own_dv (FP.l2d w3), .second, iv e0', iv e1', iv e2', iv e3', rv b68, .unset, .unset, .unset, .unset, .unset]) rfl k) ?_
        refine own_st (fun t k => XS.iload X69.here hx rfl (hb hby at_169) rfl  k) ?_
        show own_Go p e below G (T69.setTop (mkF m 171 #[iv x0, iv x1, iv x2, iv x3, iv 2, iv k0, iv y28, rv b1, own_dv (FP.l2d w0), .second, own_dv (FP.l2d w1), .second, own_dv (FP.l2d w2), .second, own_dv (FP.l2d w3), .second, iv e0', iv e1', iv e2', iv e3', rv b68, .unset, .unset, .unset, .unset, .unset] [(.int k0)]))
        by_cases c171_70 : (0 : Int32) < k0
        · skip
          refine own_st (fun t k => XS.ifNo X69.here hx rfl (hb hby at_171) rfl ((if0 _ _).trans (tlt c171_70).2.2.2) k) ?_
          show own_Go p e below G (T69.setTop (mkF m 174 #[iv x0, iv x1, iv x2, iv x3, iv 2, iv k0, iv y28, rv b1, own_dv (FP.l2d w0), .second, own_dv (FP.l2d w1), .second, own_dv (FP.l2d w2), .second, own_dv (FP.l2d w3), .second, iv e0', iv e1', iv e2', iv e3', rv b68, .unset, .unset, .unset, .unset, .unset] []))
          refine own_st (fun t k => XS.aload X69.here hx rfl (hb hby at_174) rfl rfl  k) ?_
          refine own_st (fun t k => XS.iload X69.here hx rfl (hb hby at_176) rfl  k) ?_
          refine own_st (fun t k => XS.dload X69.here hx rfl (hb hby at_178) rfl  k) ?_
          show own_Go p e below G (T69.setTop (mkF m 180 #[iv x0, iv x1, iv x2, iv x3, iv 2, iv k0, iv y28, rv b1, own_dv (FP.l2d w0), .second, own_dv (FP.l2d w1), .second, own_dv (FP.l2d w2), .second, own_dv (FP.l2d w3), .second, iv e0', iv e1', iv e2', iv e3', rv b68, .unset, .unset, .unset, .unset, .unset] [(.double (FP.l2d w0)), (.int e0'), (.ref b68)]))
          obtain ⟨v71, T71, L71, X71, Q71, st71⟩ := own_callV X69 hx hZ (y := (⟨"com/example/thinleaf/thinleaf/prune/Nearest", "offer", "(ID)Z"⟩ : MethodName)) (z := (⟨"com/example/thinleaf/thinleaf/prune/Nearest", "offer", "(ID)Z"⟩ : MethodName)) hown (hw _ (List.mem_of_getElem? (i := 26) rfl)) (hw _ (List.mem_of_getElem? (i := 27) rfl)) (notFace_of_selects (args := #[]) (mvT hZ (hw _ (List.mem_of_getElem? (i := 29) rfl)))) (hw _ (List.mem_of_getElem? (i := 29) rfl)) (hw _ (List.mem_of_getElem? (i := 28) rfl)) (hw _ (List.mem_of_getElem? (i := 3) rfl)) (hw _ (List.mem_of_getElem? (i := 30) rfl)) (by decide) (W := 0) (rmO20 l Z a0 hw b68 bn bc kn kc pv e0' w0   T69.heap n0 NB0  hd0 (own_wb hw0)) (by decide) (by decide) rfl (NB0).1 (g := (mkF m 180 #[iv x0, iv x1, iv x2, iv x3, iv 2, iv k0, iv y28, rv b1, own_dv (FP.l2d w0), .second, own_dv (FP.l2d w1), .second, own_dv (FP.l2d w2), .second, own_dv (FP.l2d w3), .second, iv e0', iv e1', iv e2', iv e3', rv b68, .unset, .unset, .unset, .unset, .unset] [(.double (FP.l2d w0)), (.int e0'), (.ref b68)])) rfl (by rw [hml]; rfl) (argsL := [(.int e0'), (.double (FP.l2d w0))]) (rest := []) own_pd3 rfl rfl (by show 2 * 0 + _ ≤ _; exact Nat.le_of_eq rfl) (hb hby at_180) rfl (by decide) (by decide)
          obtain ⟨⟨z71, rfl⟩, Nq71, m0_0, d0_0, NB1, hm_m0_0, hb_d0_0, hR0⟩ := Q71
          replace N0 := Fr.app N0 Nq71
          refine own_st st71 ?_
          show own_Go p e below G (T71.setTop (mkF m 183 #[iv x0, iv x1, iv x2, iv x3, iv 2, iv k0, iv y28, rv b1, own_dv (FP.l2d w0), .second, own_dv (FP.l2d w1), .second, own_dv (FP.l2d w2), .second, own_dv (FP.l2d w3), .second, iv e0', iv e1', iv e2', iv e3', rv b68, .unset, .unset, .unset, .unset, .unset] [(.int z71)]))
          refine own_st (fun t k => XS.pop X71.here hx rfl (hb hby at_183) rfl rfl k) ?_
          refine own_st (fun t k => XS.iload X71.here hx rfl (hb hby at_184) rfl  k) ?_
          refine own_st (fun t k => XS.iconst X71.here hx rfl (hb hby at_186) k) ?_
          show own_Go p e below G (T71.setTop (mkF m 187 #[iv x0, iv x1, iv x2, iv x3, iv 2, iv k0, iv y28, rv b1, own_dv (FP.l2d w0), .second, own_dv (FP.l2d w1), .second, own_dv (FP.l2d w2), .second, own_dv (FP.l2d w3), .second, iv e0', iv e1', iv e2', iv e3', rv b68, .unset, .unset, .unset, .unset, .unset] [(.int (1 : Int32)), (.int k0)]))
          by_cases c187_72 : (1 : Int32) < k0
          · skip
            refine own_st (fun t k => XS.icmpNo X71.here hx rfl (hb hby at_187) rfl (tlt c187_72).2.2.2 k) ?_
            show own_Go p e below G (T71.setTop (mkF m 190 #[iv x0, iv x1, iv x2, iv x3, iv 2, iv k0, iv y28, rv b1, own_dv (FP.l2d w0), .second, own_dv (FP.l2d w1), .second, own_dv (FP.l2d w2), .second, own_dv (FP.l2d w3), .second, iv e0', iv e1', iv e2', iv e3', rv b68, .unset, .unset, .unset, .unset, .unset] []))
            refine own_st (fun t k => XS.aload X71.here hx rfl (hb hby at_190) rfl rfl  k) ?_
            refine own_st (fun t k => XS.iload X71.here hx rfl (hb hby at_192) rfl  k) ?_
            refine own_st (fun t k => XS.dload X71.here hx rfl (hb hby at_194) rfl  k) ?_
            show own_Go p e below G (T71.setTop (mkF m 196 #[iv x0, iv x1, iv x2, iv x3, iv 2, iv k0, iv y28, rv b1, own_dv (FP.l2d w0), .second, own_dv (FP.l2d w1), .second, own_dv (FP.l2d w2), .second, own_dv (FP.l2d w3), .second, iv e0', iv e1', iv e2', iv e3', rv b68, .unset, .unset, .unset, .unset, .unset] [(.double (FP.l2d w1)), (.int e1'), (.ref b68)]))
            obtain ⟨v73, T73, L73, X73, Q73, st73⟩ := own_callV X71 hx hZ (y := (⟨"com/example/thinleaf/thinleaf/prune/Nearest", "offer", "(ID)Z"⟩ : MethodName)) (z := (⟨"com/example/thinleaf/thinleaf/prune/Nearest", "offer", "(ID)Z"⟩ : MethodName)) hown (hw _ (List.mem_of_getElem? (i := 26) rfl)) (hw _ (List.mem_of_getElem? (i := 27) rfl)) (notFace_of_selects (args := #[]) (mvT hZ (hw _ (List.mem_of_getElem? (i := 29) rfl)))) (hw _ (List.mem_of_getElem? (i := 29) rfl)) (hw _ (List.mem_of_getElem? (i := 28) rfl)) (hw _ (List.mem_of_getElem? (i := 3) rfl)) (hw _ (List.mem_of_getElem? (i := 30) rfl)) (by decide) (W := 0) (rmO21 l Z a0 hw b68 bn bc kn kc pv e1' w1 m0_0 d0_0 T71.heap n0 NB1 hm_m0_0 hb_d0_0 hd1 (own_wb hw1)) (by decide) (by decide) rfl (NB1).1 (g := (mkF m 196 #[iv x0, iv x1, iv x2, iv x3, iv 2, iv k0, iv y28, rv b1, own_dv (FP.l2d w0), .second, own_dv (FP.l2d w1), .second, own_dv (FP.l2d w2), .second, own_dv (FP.l2d w3), .second, iv e0', iv e1', iv e2', iv e3', rv b68, .unset, .unset, .unset, .unset, .unset] [(.double (FP.l2d w1)), (.int e1'), (.ref b68)])) rfl (by rw [hml]; rfl) (argsL := [(.int e1'), (.double (FP.l2d w1))]) (rest := []) own_pd3 rfl rfl (by show 2 * 0 + _ ≤ _; exact Nat.le_of_eq rfl) (hb hby at_196) rfl (by decide) (by decide)
            obtain ⟨⟨z73, rfl⟩, Nq73, m1_0, m1_1, d1_0, d1_1, NB2, hm_m1_0, hb_d1_0, hm_m1_1, hb_d1_1, hR1⟩ := Q73
            replace N0 := Fr.app N0 Nq73
            refine own_st st73 ?_
            show own_Go p e below G (T73.setTop (mkF m 199 #[iv x0, iv x1, iv x2, iv x3, iv 2, iv k0, iv y28, rv b1, own_dv (FP.l2d w0), .second, own_dv (FP.l2d w1), .second, own_dv (FP.l2d w2), .second, own_dv (FP.l2d w3), .second, iv e0', iv e1', iv e2', iv e3', rv b68, .unset, .unset, .unset, .unset, .unset] [(.int z73)]))
            refine own_st (fun t k => XS.pop X73.here hx rfl (hb hby at_199) rfl rfl k) ?_
            refine own_st (fun t k => XS.iload X73.here hx rfl (hb hby at_200) rfl  k) ?_
            refine own_st (fun t k => XS.iconst X73.here hx rfl (hb hby at_202) k) ?_
            show own_Go p e below G (T73.setTop (mkF m 203 #[iv x0, iv x1, iv x2, iv x3, iv 2, iv k0, iv y28, rv b1, own_dv (FP.l2d w0), .second, own_dv (FP.l2d w1), .second, own_dv (FP.l2d w2), .second, own_dv (FP.l2d w3), .second, iv e0', iv e1', iv e2', iv e3', rv b68, .unset, .unset, .unset, .unset, .unset] [(.int (2 : Int32)), (.int k0)]))
            by_cases c203_74 : (2 : Int32) < k0
            · skip
              refine own_st (fun t k => XS.icmpNo X73.here hx rfl (hb hby at_203) rfl (tlt c203_74).2.2.2 k) ?_
              show own_Go p e below G (T73.setTop (mkF m 206 #[iv x0, iv x1, iv x2, iv x3, iv 2, iv k0, iv y28, rv b1, own_dv (FP.l2d w0), .second, own_dv (FP.l2d w1), .second, own_dv (FP.l2d w2), .second, own_dv (FP.l2d w3), .second, iv e0', iv e1', iv e2', iv e3', rv b68, .unset, .unset, .unset, .unset, .unset] []))
              refine own_st (fun t k => XS.aload X73.here hx rfl (hb hby at_206) rfl rfl  k) ?_
              refine own_st (fun t k => XS.iload X73.here hx rfl (hb hby at_208) rfl  k) ?_
              refine own_st (fun t k => XS.dload X73.here hx rfl (hb hby at_210) rfl  k) ?_
              show own_Go p e below G (T73.setTop (mkF m 212 #[iv x0, iv x1, iv x2, iv x3, iv 2, iv k0, iv y28, rv b1, own_dv (FP.l2d w0), .second, own_dv (FP.l2d w1), .second, own_dv (FP.l2d w2), .second, own_dv (FP.l2d w3), .second, iv e0', iv e1', iv e2', iv e3', rv b68, .unset, .unset, .unset, .unset, .unset] [(.double (FP.l2d w2)), (.int e2'), (.ref b68)]))
              obtain ⟨v75, T75, L75, X75, Q75, st75⟩ := own_callV X73 hx hZ (y := (⟨"com/example/thinleaf/thinleaf/prune/Nearest", "offer", "(ID)Z"⟩ : MethodName)) (z := (⟨"com/example/thinleaf/thinleaf/prune/Nearest", "offer", "(ID)Z"⟩ : MethodName)) hown (hw _ (List.mem_of_getElem? (i := 26) rfl)) (hw _ (List.mem_of_getElem? (i := 27) rfl)) (notFace_of_selects (args := #[]) (mvT hZ (hw _ (List.mem_of_getElem? (i := 29) rfl)))) (hw _ (List.mem_of_getElem? (i := 29) rfl)) (hw _ (List.mem_of_getElem? (i := 28) rfl)) (hw _ (List.mem_of_getElem? (i := 3) rfl)) (hw _ (List.mem_of_getElem? (i := 30) rfl)) (by decide) (W := 0) (rmO22 l Z a0 hw b68 bn bc kn kc pv e2' w2 m1_0 m1_1 d1_0 d1_1 T73.heap n0 NB2 hm_m1_0 hb_d1_0 hm_m1_1 hb_d1_1 hd2 (own_wb hw2)) (by decide) (by decide) rfl (NB2).1 (g := (mkF m 212 #[iv x0, iv x1, iv x2, iv x3, iv 2, iv k0, iv y28, rv b1, own_dv (FP.l2d w0), .second, own_dv (FP.l2d w1), .second, own_dv (FP.l2d w2), .second, own_dv (FP.l2d w3), .second, iv e0', iv e1', iv e2', iv e3', rv b68, .unset, .unset, .unset, .unset, .unset] [(.double (FP.l2d w2)), (.int e2'), (.ref b68)])) rfl (by rw [hml]; rfl) (argsL := [(.int e2'), (.double (FP.l2d w2))]) (rest := []) own_pd3 rfl rfl (by show 2 * 0 + _ ≤ _; exact Nat.le_of_eq rfl) (hb hby at_212) rfl (by decide) (by decide)
              obtain ⟨⟨z75, rfl⟩, Nq75, m2_0, m2_1, d2_0, d2_1, NB3, hm_m2_0, hb_d2_0, hm_m2_1, hb_d2_1, hR2⟩ := Q75
              replace N0 := Fr.app N0 Nq75
              refine own_st st75 ?_
              show own_Go p e below G (T75.setTop (mkF m 215 #[iv x0, iv x1, iv x2, iv x3, iv 2, iv k0, iv y28, rv b1, own_dv (FP.l2d w0), .second, own_dv (FP.l2d w1), .second, own_dv (FP.l2d w2), .second, own_dv (FP.l2d w3), .second, iv e0', iv e1', iv e2', iv e3', rv b68, .unset, .unset, .unset, .unset, .unset] [(.int z75)]))
              refine own_st (fun t k => XS.pop X75.here hx rfl (hb hby at_215) rfl rfl k) ?_
              refine own_st (fun t k => XS.iload X75.here hx rfl (hb hby at_216) rfl  k) ?_
              refine own_st (fun t k => XS.iconst X75.here hx rfl (hb hby at_218) k) ?_
              show own_Go p e below G (T75.setTop (mkF m 219 #[iv x0, iv x1, iv x2, iv x3, iv 2, iv k0, iv y28, rv b1, own_dv (FP.l2d w0), .second, own_dv (FP.l2d w1), .second, own_dv (FP.l2d w2), .second, own_dv (FP.l2d w3), .second, iv e0', iv e1', iv e2', iv e3', rv b68, .unset, .unset, .unset, .unset, .unset] [(.int (3 : Int32)), (.int k0)]))
              by_cases c219_76 : (3 : Int32) < k0
              · skip
                refine own_st (fun t k => XS.icmpNo X75.here hx rfl (hb hby at_219) rfl (tlt c219_76).2.2.2 k) ?_
                show own_Go p e below G (T75.setTop (mkF m 222 #[iv x0, iv x1, iv x2, iv x3, iv 2, iv k0, iv y28, rv b1, own_dv (FP.l2d w0), .second, own_dv (FP.l2d w1), .second, own_dv (FP.l2d w2), .second, own_dv (FP.l2d w3), .second, iv e0', iv e1', iv e2', iv e3', rv b68, .unset, .unset, .unset, .unset, .unset] []))
                refine own_st (fun t k => XS.aload X75.here hx rfl (hb hby at_222) rfl rfl  k) ?_
                refine own_st (fun t k => XS.iload X75.here hx rfl (hb hby at_224) rfl  k) ?_
                refine own_st (fun t k => XS.dload X75.here hx rfl (hb hby at_226) rfl  k) ?_
                show own_Go p e below G (T75.setTop (mkF m 228 #[iv x0, iv x1, iv x2, iv x3, iv 2, iv k0, iv y28, rv b1, own_dv (FP.l2d w0), .second, own_dv (FP.l2d w1), .second, own_dv (FP.l2d w2), .second, own_dv (FP.l2d w3), .second, iv e0', iv e1', iv e2', iv e3', rv b68, .unset, .unset, .unset, .unset, .unset] [(.double (FP.l2d w3)), (.int e3'), (.ref b68)]))
                obtain ⟨v77, T77, L77, X77, Q77, st77⟩ := own_callV X75 hx hZ (y := (⟨"com/example/thinleaf/thinleaf/prune/Nearest", "offer", "(ID)Z"⟩ : MethodName)) (z := (⟨"com/example/thinleaf/thinleaf/prune/Nearest", "offer", "(ID)Z"⟩ : MethodName)) hown (hw _ (List.mem_of_getElem? (i := 26) rfl)) (hw _ (List.mem_of_getElem? (i := 27) rfl)) (notFace_of_selects (args := #[]) (mvT hZ (hw _ (List.mem_of_getElem? (i := 29) rfl)))) (hw _ (List.mem_of_getElem? (i := 29) rfl)) (hw _ (List.mem_of_getElem? (i := 28) rfl)) (hw _ (List.mem_of_getElem? (i := 3) rfl)) (hw _ (List.mem_of_getElem? (i := 30) rfl)) (by decide) (W := 0) (rmO22 l Z a0 hw b68 bn bc kn kc pv e3' w3 m2_0 m2_1 d2_0 d2_1 T75.heap n0 NB3 hm_m2_0 hb_d2_0 hm_m2_1 hb_d2_1 hd3 (own_wb hw3)) (by decide) (by decide) rfl (NB3).1 (g := (mkF m 228 #[iv x0, iv x1, iv x2, iv x3, iv 2, iv k0, iv y28, rv b1, own_dv (FP.l2d w0), .second, own_dv (FP.l2d w1), .second, own_dv (FP.l2d w2), .second, own_dv (FP.l2d w3), .second, iv e0', iv e1', iv e2', iv e3', rv b68, .unset, .unset, .unset, .unset, .unset] [(.double (FP.l2d w3)), (.int e3'), (.ref b68)])) rfl (by rw [hml]; rfl) (argsL := [(.int e3'), (.double (FP.l2d w3))]) (rest := []) own_pd3 rfl rfl (by show 2 * 0 + _ ≤ _; exact Nat.le_of_eq rfl) (hb hby at_228) rfl (by decide) (by decide)
                obtain ⟨⟨z77, rfl⟩, Nq77, m3_0, m3_1, d3_0, d3_1, NB4, hm_m3_0, hb_d3_0, hm_m3_1, hb_d3_1, hR3⟩ := Q77
                replace N0 := Fr.app N0 Nq77
                refine own_st st77 ?_
                show own_Go p e below G (T77.setTop (mkF m 231 #[iv x0, iv x1, iv x2, iv x3, iv 2, iv k0, iv y28, rv b1, own_dv (FP.l2d w0), .second, own_dv (FP.l2d w1), .second, own_dv (FP.l2d w2), .second, own_dv (FP.l2d w3), .second, iv e0', iv e1', iv e2', iv e3', rv b68, .unset, .unset, .unset, .unset, .unset] [(.int z77)]))
                refine own_st (fun t k => XS.pop X77.here hx rfl (hb hby at_231) rfl rfl k) ?_
                refine own_st (fun t k => XS.aload X77.here hx rfl (hb hby at_232) rfl rfl  k) ?_
                show own_Go p e below G (T77.setTop (mkF m 234 #[iv x0, iv x1, iv x2, iv x3, iv 2, iv k0, iv y28, rv b1, own_dv (FP.l2d w0), .second, own_dv (FP.l2d w1), .second, own_dv (FP.l2d w2), .second, own_dv (FP.l2d w3), .second, iv e0', iv e1', iv e2', iv e3', rv b68, .unset, .unset, .unset, .unset, .unset] [(.ref b68)]))
                obtain ⟨v78, T78, L78, X78, Q78, st78⟩ := own_callV X77 hx hZ (y := (⟨"com/example/thinleaf/thinleaf/prune/Nearest", "least", "()D"⟩ : MethodName)) (z := (⟨"com/example/thinleaf/thinleaf/prune/Nearest", "least", "()D"⟩ : MethodName)) hown (hw _ (List.mem_of_getElem? (i := 17) rfl)) (hw _ (List.mem_of_getElem? (i := 18) rfl)) (notFace_of_selects (args := #[]) (mvT hZ (hw _ (List.mem_of_getElem? (i := 20) rfl)))) (hw _ (List.mem_of_getElem? (i := 20) rfl)) (hw _ (List.mem_of_getElem? (i := 19) rfl)) (hw _ (List.mem_of_getElem? (i := 3) rfl)) (hw _ (List.mem_of_getElem? (i := 21) rfl)) (by decide) (W := 0) (rmL22 l Z a0 hw b68 bn bc kn kc pv m3_0 m3_1 d3_0 d3_1 T77.heap n0 NB4) (by decide) (by decide) rfl (NB4).1 (g := (mkF m 234 #[iv x0, iv x1, iv x2, iv x3, iv 2, iv k0, iv y28, rv b1, own_dv (FP.l2d w0), .second, own_dv (FP.l2d w1), .second, own_dv (FP.l2d w2), .second, own_dv (FP.l2d w3), .second, iv e0', iv e1', iv e2', iv e3', rv b68, .unset, .unset, .unset, .unset, .unset] [(.ref b68)])) rfl (by rw [hml]; rfl) (argsL := []) (rest := []) own_pd4 rfl rfl (by show 2 * 0 + _ ≤ _; exact Nat.le_of_eq rfl) (hb hby at_234) rfl (by decide) (by decide)
                obtain ⟨rfl, rfl, e78⟩ := Q78
                simp only [List.append_nil, Nat.add_zero] at X78
                refine own_st st78 ?_
                show own_Go p e below G (T78.setTop (mkF m 237 #[iv x0, iv x1, iv x2, iv x3, iv 2, iv k0, iv y28, rv b1, own_dv (FP.l2d w0), .second, own_dv (FP.l2d w1), .second, own_dv (FP.l2d w2), .second, own_dv (FP.l2d w3), .second, iv e0', iv e1', iv e2', iv e3', rv b68, .unset, .unset, .unset, .unset, .unset] [(.double (FP.l2d d3_0))]))
                refine own_st (fun t k => XS.dstore X78.here hx rfl (hb hby at_237) rfl (l' := #[iv x0, iv x1, iv x2, iv x3, iv 2, iv k0, iv y28, rv b1, own_dv (FP.l2d w0), .second, own_dv (FP.l2d w1), .second, own_dv (FP.l2d w2), .second, own_dv (FP.l2d w3), .second, iv e0', iv e1', iv e2', iv e3', rv b68, own_dv (FP.l2d d3_0), .second, .unset, .unset, .unset]) rfl k) ?_
                show own_Go p e below G (T78.setTop (mkF m 239 #[iv x0, iv x1, iv x2, iv x3, iv 2, iv k0, iv y28, rv b1, own_dv (FP.l2d w0), .second, own_dv (FP.l2d w1), .second, own_dv (FP.l2d w2), .second, own_dv (FP.l2d w3), .second, iv e0', iv e1', iv e2', iv e3', rv b68, own_dv (FP.l2d d3_0), .second, .unset, .unset, .unset] []))
                have hkl : k0.toInt = 4 := by
                  have c171_70' := c171_70
                  rw [Int32.lt_iff_toInt_lt] at c171_70'
                  have zz0 : ((0 : Int32)).toInt = 0 := rfl
                  have c187_72' := c187_72
                  rw [Int32.lt_iff_toInt_lt] at c187_72'
                  have zz1 : ((1 : Int32)).toInt = 1 := rfl
                  have c203_74' := c203_74
                  rw [Int32.lt_iff_toInt_lt] at c203_74'
                  have zz2 : ((2 : Int32)).toInt = 2 := rfl
                  have c219_76' := c219_76
                  rw [Int32.lt_iff_toInt_lt] at c219_76'
                  have zz3 : ((3 : Int32)).toInt = 3 := rfl
                  omega
                have pd0 : own_pad k0 0 w0 = w0.toInt := if_pos (by omega)
                have pd1 : own_pad k0 1 w1 = w1.toInt := if_pos (by omega)
                have pd2 : own_pad k0 2 w2 = w2.toInt := if_pos (by omega)
                have pd3 : own_pad k0 3 w3 = w3.toInt := if_pos (by omega)
                unfold own_R20 at hR0
                unfold own_R21 at hR1
                unfold own_R22 at hR2
                unfold own_R22 at hR3
                simp only [own_S1, own_S2, own_S3] at hR2 hR3
                exact J239 _ _ X78 N0 (by rw [e78]; exact (NB4).2.2.2.2.2.2.2.2.2.2.2.2.2.2) _ d3_0 hb_d3_0 (by rw [Int32.lt_iff_toInt_lt, show ((2 : Int32)).toInt = 2 from rfl]; omega) (by rw [pd0, pd1, pd2, pd3]; simp only [own_nth]; simp only [← Int64.toInt_inj] at hR0 hR1 hR2 hR3; omega)
              · skip
                refine own_st (fun t k => XS.icmpYes X75.here hx rfl (pc0 := 219) (pc' := 232) rfl (hb hby at_219) rfl (flt c219_76).2.2.2 (by decide) (by decide) k) ?_
                show own_Go p e below G (T75.setTop (mkF m 232 #[iv x0, iv x1, iv x2, iv x3, iv 2, iv k0, iv y28, rv b1, own_dv (FP.l2d w0), .second, own_dv (FP.l2d w1), .second, own_dv (FP.l2d w2), .second, own_dv (FP.l2d w3), .second, iv e0', iv e1', iv e2', iv e3', rv b68, .unset, .unset, .unset, .unset, .unset] []))
                refine own_st (fun t k => XS.aload X75.here hx rfl (hb hby at_232) rfl rfl  k) ?_
                show own_Go p e below G (T75.setTop (mkF m 234 #[iv x0, iv x1, iv x2, iv x3, iv 2, iv k0, iv y28, rv b1, own_dv (FP.l2d w0), .second, own_dv (FP.l2d w1), .second, own_dv (FP.l2d w2), .second, own_dv (FP.l2d w3), .second, iv e0', iv e1', iv e2', iv e3', rv b68, .unset, .unset, .unset, .unset, .unset] [(.ref b68)]))
                obtain ⟨v79, T79, L79, X79, Q79, st79⟩ := own_callV X75 hx hZ (y := (⟨"com/example/thinleaf/thinleaf/prune/Nearest", "least", "()D"⟩ : MethodName)) (z := (⟨"com/example/thinleaf/thinleaf/prune/Nearest", "least", "()D"⟩ : MethodName)) hown (hw _ (List.mem_of_getElem? (i := 17) rfl)) (hw _ (List.mem_of_getElem? (i := 18) rfl)) (notFace_of_selects (args := #[]) (mvT hZ (hw _ (List.mem_of_getElem? (i := 20) rfl)))) (hw _ (List.mem_of_getElem? (i := 20) rfl)) (hw _ (List.mem_of_getElem? (i := 19) rfl)) (hw _ (List.mem_of_getElem? (i := 3) rfl)) (hw _ (List.mem_of_getElem? (i := 21) rfl)) (by decide) (W := 0) (rmL22 l Z a0 hw b68 bn bc kn kc pv m2_0 m2_1 d2_0 d2_1 T75.heap n0 NB3) (by decide) (by decide) rfl (NB3).1 (g := (mkF m 234 #[iv x0, iv x1, iv x2, iv x3, iv 2, iv k0, iv y28, rv b1, own_dv (FP.l2d w0), .second, own_dv (FP.l2d w1), .second, own_dv (FP.l2d w2), .second, own_dv (FP.l2d w3), .second, iv e0', iv e1', iv e2', iv e3', rv b68, .unset, .unset, .unset, .unset, .unset] [(.ref b68)])) rfl (by rw [hml]; rfl) (argsL := []) (rest := []) own_pd4 rfl rfl (by show 2 * 0 + _ ≤ _; exact Nat.le_of_eq rfl) (hb hby at_234) rfl (by decide) (by decide)
                obtain ⟨rfl, rfl, e79⟩ := Q79
                simp only [List.append_nil, Nat.add_zero] at X79
                refine own_st st79 ?_
                show own_Go p e below G (T79.setTop (mkF m 237 #[iv x0, iv x1, iv x2, iv x3, iv 2, iv k0, iv y28, rv b1, own_dv (FP.l2d w0), .second, own_dv (FP.l2d w1), .second, own_dv (FP.l2d w2), .second, own_dv (FP.l2d w3), .second, iv e0', iv e1', iv e2', iv e3', rv b68, .unset, .unset, .unset, .unset, .unset] [(.double (FP.l2d d2_0))]))
                refine own_st (fun t k => XS.dstore X79.here hx rfl (hb hby at_237) rfl (l' := #[iv x0, iv x1, iv x2, iv x3, iv 2, iv k0, iv y28, rv b1, own_dv (FP.l2d w0), .second, own_dv (FP.l2d w1), .second, own_dv (FP.l2d w2), .second, own_dv (FP.l2d w3), .second, iv e0', iv e1', iv e2', iv e3', rv b68, own_dv (FP.l2d d2_0), .second, .unset, .unset, .unset]) rfl k) ?_
                show own_Go p e below G (T79.setTop (mkF m 239 #[iv x0, iv x1, iv x2, iv x3, iv 2, iv k0, iv y28, rv b1, own_dv (FP.l2d w0), .second, own_dv (FP.l2d w1), .second, own_dv (FP.l2d w2), .second, own_dv (FP.l2d w3), .second, iv e0', iv e1', iv e2', iv e3', rv b68, own_dv (FP.l2d d2_0), .second, .unset, .unset, .unset] []))
                have hkl : k0.toInt = 3 := by
                  have c171_70' := c171_70
                  rw [Int32.lt_iff_toInt_lt] at c171_70'
                  have zz0 : ((0 : Int32)).toInt = 0 := rfl
                  have c187_72' := c187_72
                  rw [Int32.lt_iff_toInt_lt] at c187_72'
                  have zz1 : ((1 : Int32)).toInt = 1 := rfl
                  have c203_74' := c203_74
                  rw [Int32.lt_iff_toInt_lt] at c203_74'
                  have zz2 : ((2 : Int32)).toInt = 2 := rfl
                  have c219_76' := c219_76
                  rw [Int32.lt_iff_toInt_lt] at c219_76'
                  have zz3 : ((3 : Int32)).toInt = 3 := rfl
                  omega
                have pd0 : own_pad k0 0 w0 = w0.toInt := if_pos (by omega)
                have pd1 : own_pad k0 1 w1 = w1.toInt := if_pos (by omega)
                have pd2 : own_pad k0 2 w2 = w2.toInt := if_pos (by omega)
                have pd3 : own_pad k0 3 w3 = -100 := if_neg (by omega)
                unfold own_R20 at hR0
                unfold own_R21 at hR1
                unfold own_R22 at hR2
                simp only [own_S1, own_S2, own_S3] at hR2
                exact J239 _ _ X79 N0 (by rw [e79]; exact (NB3).2.2.2.2.2.2.2.2.2.2.2.2.2.2) _ d2_0 hb_d2_0 (by rw [Int32.lt_iff_toInt_lt, show ((2 : Int32)).toInt = 2 from rfl]; omega) (by rw [pd0, pd1, pd2, pd3]; simp only [own_nth]; simp only [← Int64.toInt_inj] at hR0 hR1 hR2; omega)
            · skip
              refine own_st (fun t k => XS.icmpYes X73.here hx rfl (pc0 := 203) (pc' := 216) rfl (hb hby at_203) rfl (flt c203_74).2.2.2 (by decide) (by decide) k) ?_
              show own_Go p e below G (T73.setTop (mkF m 216 #[iv x0, iv x1, iv x2, iv x3, iv 2, iv k0, iv y28, rv b1, own_dv (FP.l2d w0), .second, own_dv (FP.l2d w1), .second, own_dv (FP.l2d w2), .second, own_dv (FP.l2d w3), .second, iv e0', iv e1', iv e2', iv e3', rv b68, .unset, .unset, .unset, .unset, .unset] []))
              refine own_st (fun t k => XS.iload X73.here hx rfl (hb hby at_216) rfl  k) ?_
              refine own_st (fun t k => XS.iconst X73.here hx rfl (hb hby at_218) k) ?_
              show own_Go p e below G (T73.setTop (mkF m 219 #[iv x0, iv x1, iv x2, iv x3, iv 2, iv k0, iv y28, rv b1, own_dv (FP.l2d w0), .second, own_dv (FP.l2d w1), .second, own_dv (FP.l2d w2), .second, own_dv (FP.l2d w3), .second, iv e0', iv e1', iv e2', iv e3', rv b68, .unset, .unset, .unset, .unset, .unset] [(.int (3 : Int32)), (.int k0)]))
              refine own_st (fun t k => XS.icmpYes X73.here hx rfl (pc0 := 219) (pc' := 232) rfl (hb hby at_219) rfl (flt (fun q => c203_74 (Int32.lt_trans (by decide) q))).2.2.2 (by decide) (by decide) k) ?_
              show own_Go p e below G (T73.setTop (mkF m 232 #[iv x0, iv x1, iv x2, iv x3, iv 2, iv k0, iv y28, rv b1, own_dv (FP.l2d w0), .second, own_dv (FP.l2d w1), .second, own_dv (FP.l2d w2), .second, own_dv (FP.l2d w3), .second, iv e0', iv e1', iv e2', iv e3', rv b68, .unset, .unset, .unset, .unset, .unset] []))
              refine own_st (fun t k => XS.aload X73.here hx rfl (hb hby at_232) rfl rfl  k) ?_
              show own_Go p e below G (T73.setTop (mkF m 234 #[iv x0, iv x1, iv x2, iv x3, iv 2, iv k0, iv y28, rv b1, own_dv (FP.l2d w0), .second, own_dv (FP.l2d w1), .second, own_dv (FP.l2d w2), .second, own_dv (FP.l2d w3), .second, iv e0', iv e1', iv e2', iv e3', rv b68, .unset, .unset, .unset, .unset, .unset] [(.ref b68)]))
              obtain ⟨v80, T80, L80, X80, Q80, st80⟩ := own_callV X73 hx hZ (y := (⟨"com/example/thinleaf/thinleaf/prune/Nearest", "least", "()D"⟩ : MethodName)) (z := (⟨"com/example/thinleaf/thinleaf/prune/Nearest", "least", "()D"⟩ : MethodName)) hown (hw _ (List.mem_of_getElem? (i := 17) rfl)) (hw _ (List.mem_of_getElem? (i := 18) rfl)) (notFace_of_selects (args := #[]) (mvT hZ (hw _ (List.mem_of_getElem? (i := 20) rfl)))) (hw _ (List.mem_of_getElem? (i := 20) rfl)) (hw _ (List.mem_of_getElem? (i := 19) rfl)) (hw _ (List.mem_of_getElem? (i := 3) rfl)) (hw _ (List.mem_of_getElem? (i := 21) rfl)) (by decide) (W := 0) (rmL22 l Z a0 hw b68 bn bc kn kc pv m1_0 m1_1 d1_0 d1_1 T73.heap n0 NB2) (by decide) (by decide) rfl (NB2).1 (g := (mkF m 234 #[iv x0, iv x1, iv x2, iv x3, iv 2, iv k0, iv y28, rv b1, own_dv (FP.l2d w0), .second, own_dv (FP.l2d w1), .second, own_dv (FP.l2d w2), .second, own_dv (FP.l2d w3), .second, iv e0', iv e1', iv e2', iv e3', rv b68, .unset, .unset, .unset, .unset, .unset] [(.ref b68)])) rfl (by rw [hml]; rfl) (argsL := []) (rest := []) own_pd4 rfl rfl (by show 2 * 0 + _ ≤ _; exact Nat.le_of_eq rfl) (hb hby at_234) rfl (by decide) (by decide)
              obtain ⟨rfl, rfl, e80⟩ := Q80
              simp only [List.append_nil, Nat.add_zero] at X80
              refine own_st st80 ?_
              show own_Go p e below G (T80.setTop (mkF m 237 #[iv x0, iv x1, iv x2, iv x3, iv 2, iv k0, iv y28, rv b1, own_dv (FP.l2d w0), .second, own_dv (FP.l2d w1), .second, own_dv (FP.l2d w2), .second, own_dv (FP.l2d w3), .second, iv e0', iv e1', iv e2', iv e3', rv b68, .unset, .unset, .unset, .unset, .unset] [(.double (FP.l2d d1_0))]))
              refine own_st (fun t k => XS.dstore X80.here hx rfl (hb hby at_237) rfl (l' := #[iv x0, iv x1, iv x2, iv x3, iv 2, iv k0, iv y28, rv b1, own_dv (FP.l2d w0), .second, own_dv (FP.l2d w1), .second, own_dv (FP.l2d w2), .second, own_dv (FP.l2d w3), .second, iv e0', iv e1', iv e2', iv e3', rv b68, own_dv (FP.l2d d1_0), .second, .unset, .unset, .unset]) rfl k) ?_
              show own_Go p e below G (T80.setTop (mkF m 239 #[iv x0, iv x1, iv x2, iv x3, iv 2, iv k0, iv y28, rv b1, own_dv (FP.l2d w0), .second, own_dv (FP.l2d w1), .second, own_dv (FP.l2d w2), .second, own_dv (FP.l2d w3), .second, iv e0', iv e1', iv e2', iv e3', rv b68, own_dv (FP.l2d d1_0), .second, .unset, .unset, .unset] []))
              have hkl : k0.toInt = 2 := by
                have c171_70' := c171_70
                rw [Int32.lt_iff_toInt_lt] at c171_70'
                have zz0 : ((0 : Int32)).toInt = 0 := rfl
                have c187_72' := c187_72
                rw [Int32.lt_iff_toInt_lt] at c187_72'
                have zz1 : ((1 : Int32)).toInt = 1 := rfl
                have c203_74' := c203_74
                rw [Int32.lt_iff_toInt_lt] at c203_74'
                have zz2 : ((2 : Int32)).toInt = 2 := rfl
                omega
              have pd0 : own_pad k0 0 w0 = w0.toInt := if_pos (by omega)
              have pd1 : own_pad k0 1 w1 = w1.toInt := if_pos (by omega)
              have pd2 : own_pad k0 2 w2 = -100 := if_neg (by omega)
              have pd3 : own_pad k0 3 w3 = -100 := if_neg (by omega)
              unfold own_R20 at hR0
              unfold own_R21 at hR1
              exact J239 _ _ X80 N0 (by rw [e80]; exact (NB2).2.2.2.2.2.2.2.2.2.2.2.2.2.2) _ d1_0 hb_d1_0 (by rw [Int32.lt_iff_toInt_lt, show ((2 : Int32)).toInt = 2 from rfl]; omega) (by rw [pd0, pd1, pd2, pd3]; simp only [own_nth]; simp only [← Int64.toInt_inj] at hR0 hR1; omega)
          · skip
            refine own_st (fun t k => XS.icmpYes X71.here hx rfl (pc0 := 187) (pc' := 200) rfl (hb hby at_187) rfl (flt c187_72).2.2.2 (by decide) (by decide) k) ?_
            show own_Go p e below G (T71.setTop (mkF m 200 #[iv x0, iv x1, iv x2, iv x3, iv 2, iv k0, iv y28, rv b1, own_dv (FP.l2d w0), .second, own_dv (FP.l2d w1), .second, own_dv (FP.l2d w2), .second, own_dv (FP.l2d w3), .second, iv e0', iv e1', iv e2', iv e3', rv b68, .unset, .unset, .unset, .unset, .unset] []))
            refine own_st (fun t k => XS.iload X71.here hx rfl (hb hby at_200) rfl  k) ?_
            refine own_st (fun t k => XS.iconst X71.here hx rfl (hb hby at_202) k) ?_
            show own_Go p e below G (T71.setTop (mkF m 203 #[iv x0, iv x1, iv x2, iv x3, iv 2, iv k0, iv y28, rv b1, own_dv (FP.l2d w0), .second, own_dv (FP.l2d w1), .second, own_dv (FP.l2d w2), .second, own_dv (FP.l2d w3), .second, iv e0', iv e1', iv e2', iv e3', rv b68, .unset, .unset, .unset, .unset, .unset] [(.int (2 : Int32)), (.int k0)]))
            refine own_st (fun t k => XS.icmpYes X71.here hx rfl (pc0 := 203) (pc' := 216) rfl (hb hby at_203) rfl (flt (fun q => c187_72 (Int32.lt_trans (by decide) q))).2.2.2 (by decide) (by decide) k) ?_
            show own_Go p e below G (T71.setTop (mkF m 216 #[iv x0, iv x1, iv x2, iv x3, iv 2, iv k0, iv y28, rv b1, own_dv (FP.l2d w0), .second, own_dv (FP.l2d w1), .second, own_dv (FP.l2d w2), .second, own_dv (FP.l2d w3), .second, iv e0', iv e1', iv e2', iv e3', rv b68, .unset, .unset, .unset, .unset, .unset] []))
            refine own_st (fun t k => XS.iload X71.here hx rfl (hb hby at_216) rfl  k) ?_
            refine own_st (fun t k => XS.iconst X71.here hx rfl (hb hby at_218) k) ?_
            show own_Go p e below G (T71.setTop (mkF m 219 #[iv x0, iv x1, iv x2, iv x3, iv 2, iv k0, iv y28, rv b1, own_dv (FP.l2d w0), .second, own_dv (FP.l2d w1), .second, own_dv (FP.l2d w2), .second, own_dv (FP.l2d w3), .second, iv e0', iv e1', iv e2', iv e3', rv b68, .unset, .unset, .unset, .unset, .unset] [(.int (3 : Int32)), (.int k0)]))
            refine own_st (fun t k => XS.icmpYes X71.here hx rfl (pc0 := 219) (pc' := 232) rfl (hb hby at_219) rfl (flt (fun q => c187_72 (Int32.lt_trans (by decide) q))).2.2.2 (by decide) (by decide) k) ?_
            show own_Go p e below G (T71.setTop (mkF m 232 #[iv x0, iv x1, iv x2, iv x3, iv 2, iv k0, iv y28, rv b1, own_dv (FP.l2d w0), .second, own_dv (FP.l2d w1), .second, own_dv (FP.l2d w2), .second, own_dv (FP.l2d w3), .second, iv e0', iv e1', iv e2', iv e3', rv b68, .unset, .unset, .unset, .unset, .unset] []))
            refine own_st (fun t k => XS.aload X71.here hx rfl (hb hby at_232) rfl rfl  k) ?_
            show own_Go p e below G (T71.setTop (mkF m 234 #[iv x0, iv x1, iv x2, iv x3, iv 2, iv k0, iv y28, rv b1, own_dv (FP.l2d w0), .second, own_dv (FP.l2d w1), .second, own_dv (FP.l2d w2), .second, own_dv (FP.l2d w3), .second, iv e0', iv e1', iv e2', iv e3', rv b68, .unset, .unset, .unset, .unset, .unset] [(.ref b68)]))
            obtain ⟨v81, T81, L81, X81, Q81, st81⟩ := own_callV X71 hx hZ (y := (⟨"com/example/thinleaf/thinleaf/prune/Nearest", "least", "()D"⟩ : MethodName)) (z := (⟨"com/example/thinleaf/thinleaf/prune/Nearest", "least", "()D"⟩ : MethodName)) hown (hw _ (List.mem_of_getElem? (i := 17) rfl)) (hw _ (List.mem_of_getElem? (i := 18) rfl)) (notFace_of_selects (args := #[]) (mvT hZ (hw _ (List.mem_of_getElem? (i := 20) rfl)))) (hw _ (List.mem_of_getElem? (i := 20) rfl)) (hw _ (List.mem_of_getElem? (i := 19) rfl)) (hw _ (List.mem_of_getElem? (i := 3) rfl)) (hw _ (List.mem_of_getElem? (i := 21) rfl)) (by decide) (W := 0) (rmL21 l Z a0 hw b68 bn bc kn kc pv m0_0 d0_0 T71.heap n0 NB1) (by decide) (by decide) rfl (NB1).1 (g := (mkF m 234 #[iv x0, iv x1, iv x2, iv x3, iv 2, iv k0, iv y28, rv b1, own_dv (FP.l2d w0), .second, own_dv (FP.l2d w1), .second, own_dv (FP.l2d w2), .second, own_dv (FP.l2d w3), .second, iv e0', iv e1', iv e2', iv e3', rv b68, .unset, .unset, .unset, .unset, .unset] [(.ref b68)])) rfl (by rw [hml]; rfl) (argsL := []) (rest := []) own_pd4 rfl rfl (by show 2 * 0 + _ ≤ _; exact Nat.le_of_eq rfl) (hb hby at_234) rfl (by decide) (by decide)
            obtain ⟨rfl, rfl, e81⟩ := Q81
            simp only [List.append_nil, Nat.add_zero] at X81
            refine own_st st81 ?_
            show own_Go p e below G (T81.setTop (mkF m 237 #[iv x0, iv x1, iv x2, iv x3, iv 2, iv k0, iv y28, rv b1, own_dv (FP.l2d w0), .second, own_dv (FP.l2d w1), .second, own_dv (FP.l2d w2), .second, own_dv (FP.l2d w3), .second, iv e0', iv e1', iv e2', iv e3', rv b68, .unset, .unset, .unset, .unset, .unset] [(.double (18442240474082181120 : UInt64))]))
            refine own_st (fun t k => XS.dstore X81.here hx rfl (hb hby at_237) rfl (l' := #[iv x0, iv x1, iv x2, iv x3, iv 2, iv k0, iv y28, rv b1, own_dv (FP.l2d w0), .second, own_dv (FP.l2d w1), .second, own_dv (FP.l2d w2), .second, own_dv (FP.l2d w3), .second, iv e0', iv e1', iv e2', iv e3', rv b68, own_dv (18442240474082181120 : UInt64), .second, .unset, .unset, .unset]) rfl k) ?_
            show own_Go p e below G (T81.setTop (mkF m 239 #[iv x0, iv x1, iv x2, iv x3, iv 2, iv k0, iv y28, rv b1, own_dv (FP.l2d w0), .second, own_dv (FP.l2d w1), .second, own_dv (FP.l2d w2), .second, own_dv (FP.l2d w3), .second, iv e0', iv e1', iv e2', iv e3', rv b68, own_dv (18442240474082181120 : UInt64), .second, .unset, .unset, .unset] []))
            refine own_st (fun t k => XS.iload X81.here hx rfl (hb hby at_239) rfl  k) ?_
            show own_Go p e below G (T81.setTop (mkF m 241 #[iv x0, iv x1, iv x2, iv x3, iv 2, iv k0, iv y28, rv b1, own_dv (FP.l2d w0), .second, own_dv (FP.l2d w1), .second, own_dv (FP.l2d w2), .second, own_dv (FP.l2d w3), .second, iv e0', iv e1', iv e2', iv e3', rv b68, own_dv (18442240474082181120 : UInt64), .second, .unset, .unset, .unset] [(.int (2 : Int32))]))
            refine own_st (fun t k => XS.ifYes X81.here hx rfl (pc0 := 241) (pc' := 252) rfl (hb hby at_241) rfl ((if0 _ _).trans (feq (by decide)).2) (by decide) (by decide) k) ?_
            show own_Go p e below G (T81.setTop (mkF m 252 #[iv x0, iv x1, iv x2, iv x3, iv 2, iv k0, iv y28, rv b1, own_dv (FP.l2d w0), .second, own_dv (FP.l2d w1), .second, own_dv (FP.l2d w2), .second, own_dv (FP.l2d w3), .second, iv e0', iv e1', iv e2', iv e3', rv b68, own_dv (18442240474082181120 : UInt64), .second, .unset, .unset, .unset] []))
            refine own_st (fun t k => XS.iload X81.here hx rfl (hb hby at_252) rfl  k) ?_
            refine own_st (fun t k => XS.iload X81.here hx rfl (hb hby at_254) rfl  k) ?_
            show own_Go p e below G (T81.setTop (mkF m 256 #[iv x0, iv x1, iv x2, iv x3, iv 2, iv k0, iv y28, rv b1, own_dv (FP.l2d w0), .second, own_dv (FP.l2d w1), .second, own_dv (FP.l2d w2), .second, own_dv (FP.l2d w3), .second, iv e0', iv e1', iv e2', iv e3', rv b68, own_dv (18442240474082181120 : UInt64), .second, .unset, .unset, .unset] [(.int (2 : Int32)), (.int k0)]))
            refine own_st (fun t k => XS.icmpNo X81.here hx rfl (hb hby at_256) rfl (tlt (by have q := c187_72; rw [Int32.lt_iff_toInt_lt] at q ⊢; have z1 : ((1 : Int32)).toInt = 1 := rfl; have z2 : ((2 : Int32)).toInt = 2 := rfl; omega)).2.1 k) ?_
            show own_Go p e below G (T81.setTop (mkF m 259 #[iv x0, iv x1, iv x2, iv x3, iv 2, iv k0, iv y28, rv b1, own_dv (FP.l2d w0), .second, own_dv (FP.l2d w1), .second, own_dv (FP.l2d w2), .second, own_dv (FP.l2d w3), .second, iv e0', iv e1', iv e2', iv e3', rv b68, own_dv (18442240474082181120 : UInt64), .second, .unset, .unset, .unset] []))
            refine own_st (fun t k => X81.ldc2DoubleC hx hown (mvT hZ (hw _ (List.mem_of_getElem? (i := 41) rfl))) (g := (mkF m 259 #[iv x0, iv x1, iv x2, iv x3, iv 2, iv k0, iv y28, rv b1, own_dv (FP.l2d w0), .second, own_dv (FP.l2d w1), .second, own_dv (FP.l2d w2), .second, own_dv (FP.l2d w3), .second, iv e0', iv e1', iv e2', iv e3', rv b68, own_dv (18442240474082181120 : UInt64), .second, .unset, .unset, .unset] [])) rfl (hb hby at_259) t k) ?_
            show own_Go p e below G (T81.setTop (mkF m 262 #[iv x0, iv x1, iv x2, iv x3, iv 2, iv k0, iv y28, rv b1, own_dv (FP.l2d w0), .second, own_dv (FP.l2d w1), .second, own_dv (FP.l2d w2), .second, own_dv (FP.l2d w3), .second, iv e0', iv e1', iv e2', iv e3', rv b68, own_dv (18442240474082181120 : UInt64), .second, .unset, .unset, .unset] [(.double (18442240474082181120 : UInt64))]))
            refine own_st (fun t k => XS.dstore X81.here hx rfl (hb hby at_262) rfl (l' := #[iv x0, iv x1, iv x2, iv x3, iv 2, iv k0, iv y28, rv b1, own_dv (FP.l2d w0), .second, own_dv (FP.l2d w1), .second, own_dv (FP.l2d w2), .second, own_dv (FP.l2d w3), .second, iv e0', iv e1', iv e2', iv e3', rv b68, own_dv (18442240474082181120 : UInt64), .second, own_dv (18442240474082181120 : UInt64), .second, .unset]) rfl k) ?_
            refine own_st (fun t k => XS.goto X81.here hx rfl (pc0 := 264) (pc' := 387) rfl (hb hby at_264) (by decide) (by decide) k) ?_
            refine own_st (fun t k => XS.dload X81.here hx rfl (hb hby at_387) rfl  k) ?_
            show own_Go p e below G (T81.setTop (mkF m 389 #[iv x0, iv x1, iv x2, iv x3, iv 2, iv k0, iv y28, rv b1, own_dv (FP.l2d w0), .second, own_dv (FP.l2d w1), .second, own_dv (FP.l2d w2), .second, own_dv (FP.l2d w3), .second, iv e0', iv e1', iv e2', iv e3', rv b68, own_dv (18442240474082181120 : UInt64), .second, own_dv (18442240474082181120 : UInt64), .second, .unset] [(.double (18442240474082181120 : UInt64))]))
            refine own_st (fun t k => XS.dload X81.here hx rfl (hb hby at_389) rfl  k) ?_
            show own_Go p e below G (T81.setTop (mkF m 391 #[iv x0, iv x1, iv x2, iv x3, iv 2, iv k0, iv y28, rv b1, own_dv (FP.l2d w0), .second, own_dv (FP.l2d w1), .second, own_dv (FP.l2d w2), .second, own_dv (FP.l2d w3), .second, iv e0', iv e1', iv e2', iv e3', rv b68, own_dv (18442240474082181120 : UInt64), .second, own_dv (18442240474082181120 : UInt64), .second, .unset] [(.double (18442240474082181120 : UInt64)), (.double (18442240474082181120 : UInt64))]))
            refine own_st (fun t k => XS.dcmpS X81.here hx rfl (hb hby at_391) rfl (dcmpV_self (by decide +kernel) _) k) ?_
            show own_Go p e below G (T81.setTop (mkF m 392 #[iv x0, iv x1, iv x2, iv x3, iv 2, iv k0, iv y28, rv b1, own_dv (FP.l2d w0), .second, own_dv (FP.l2d w1), .second, own_dv (FP.l2d w2), .second, own_dv (FP.l2d w3), .second, iv e0', iv e1', iv e2', iv e3', rv b68, own_dv (18442240474082181120 : UInt64), .second, own_dv (18442240474082181120 : UInt64), .second, .unset] [(.int (0 : Int32))]))
            refine own_st (fun t k => XS.ifNo X81.here hx rfl (hb hby at_392) rfl ((if0 _ _).trans (teq (by decide)).2) k) ?_
            show own_Go p e below G (T81.setTop (mkF m 395 #[iv x0, iv x1, iv x2, iv x3, iv 2, iv k0, iv y28, rv b1, own_dv (FP.l2d w0), .second, own_dv (FP.l2d w1), .second, own_dv (FP.l2d w2), .second, own_dv (FP.l2d w3), .second, iv e0', iv e1', iv e2', iv e3', rv b68, own_dv (18442240474082181120 : UInt64), .second, own_dv (18442240474082181120 : UInt64), .second, .unset] []))
            refine own_st (fun t k => XS.iconst X81.here hx rfl (hb hby at_395) k) ?_
            refine own_st (fun t k => XS.goto X81.here hx rfl (pc0 := 396) (pc' := 400) rfl (hb hby at_396) (by decide) (by decide) k) ?_
            show own_Go p e below G (T81.setTop (mkF m 400 #[iv x0, iv x1, iv x2, iv x3, iv 2, iv k0, iv y28, rv b1, own_dv (FP.l2d w0), .second, own_dv (FP.l2d w1), .second, own_dv (FP.l2d w2), .second, own_dv (FP.l2d w3), .second, iv e0', iv e1', iv e2', iv e3', rv b68, own_dv (18442240474082181120 : UInt64), .second, own_dv (18442240474082181120 : UInt64), .second, .unset] [(.int (1 : Int32))]))
            rw [hG]
            exact own_retZ X81 hx hlk (t := .boolean) hret (by simp) (hb hby at_400) ⟨rfl, N0⟩ (by decide) (by decide)
        · skip
          refine own_st (fun t k => XS.ifYes X69.here hx rfl (pc0 := 171) (pc' := 184) rfl (hb hby at_171) rfl ((if0 _ _).trans (flt c171_70).2.2.2) (by decide) (by decide) k) ?_
          show own_Go p e below G (T69.setTop (mkF m 184 #[iv x0, iv x1, iv x2, iv x3, iv 2, iv k0, iv y28, rv b1, own_dv (FP.l2d w0), .second, own_dv (FP.l2d w1), .second, own_dv (FP.l2d w2), .second, own_dv (FP.l2d w3), .second, iv e0', iv e1', iv e2', iv e3', rv b68, .unset, .unset, .unset, .unset, .unset] []))
          refine own_st (fun t k => XS.iload X69.here hx rfl (hb hby at_184) rfl  k) ?_
          refine own_st (fun t k => XS.iconst X69.here hx rfl (hb hby at_186) k) ?_
          show own_Go p e below G (T69.setTop (mkF m 187 #[iv x0, iv x1, iv x2, iv x3, iv 2, iv k0, iv y28, rv b1, own_dv (FP.l2d w0), .second, own_dv (FP.l2d w1), .second, own_dv (FP.l2d w2), .second, own_dv (FP.l2d w3), .second, iv e0', iv e1', iv e2', iv e3', rv b68, .unset, .unset, .unset, .unset, .unset] [(.int (1 : Int32)), (.int k0)]))
          refine own_st (fun t k => XS.icmpYes X69.here hx rfl (pc0 := 187) (pc' := 200) rfl (hb hby at_187) rfl (flt (fun q => c171_70 (Int32.lt_trans (by decide) q))).2.2.2 (by decide) (by decide) k) ?_
          show own_Go p e below G (T69.setTop (mkF m 200 #[iv x0, iv x1, iv x2, iv x3, iv 2, iv k0, iv y28, rv b1, own_dv (FP.l2d w0), .second, own_dv (FP.l2d w1), .second, own_dv (FP.l2d w2), .second, own_dv (FP.l2d w3), .second, iv e0', iv e1', iv e2', iv e3', rv b68, .unset, .unset, .unset, .unset, .unset] []))
          refine own_st (fun t k => XS.iload X69.here hx rfl (hb hby at_200) rfl  k) ?_
          refine own_st (fun t k => XS.iconst X69.here hx rfl (hb hby at_202) k) ?_
          show own_Go p e below G (T69.setTop (mkF m 203 #[iv x0, iv x1, iv x2, iv x3, iv 2, iv k0, iv y28, rv b1, own_dv (FP.l2d w0), .second, own_dv (FP.l2d w1), .second, own_dv (FP.l2d w2), .second, own_dv (FP.l2d w3), .second, iv e0', iv e1', iv e2', iv e3', rv b68, .unset, .unset, .unset, .unset, .unset] [(.int (2 : Int32)), (.int k0)]))
          refine own_st (fun t k => XS.icmpYes X69.here hx rfl (pc0 := 203) (pc' := 216) rfl (hb hby at_203) rfl (flt (fun q => c171_70 (Int32.lt_trans (by decide) q))).2.2.2 (by decide) (by decide) k) ?_
          show own_Go p e below G (T69.setTop (mkF m 216 #[iv x0, iv x1, iv x2, iv x3, iv 2, iv k0, iv y28, rv b1, own_dv (FP.l2d w0), .second, own_dv (FP.l2d w1), .second, own_dv (FP.l2d w2), .second, own_dv (FP.l2d w3), .second, iv e0', iv e1', iv e2', iv e3', rv b68, .unset, .unset, .unset, .unset, .unset] []))
          refine own_st (fun t k => XS.iload X69.here hx rfl (hb hby at_216) rfl  k) ?_
          refine own_st (fun t k => XS.iconst X69.here hx rfl (hb hby at_218) k) ?_
          show own_Go p e below G (T69.setTop (mkF m 219 #[iv x0, iv x1, iv x2, iv x3, iv 2, iv k0, iv y28, rv b1, own_dv (FP.l2d w0), .second, own_dv (FP.l2d w1), .second, own_dv (FP.l2d w2), .second, own_dv (FP.l2d w3), .second, iv e0', iv e1', iv e2', iv e3', rv b68, .unset, .unset, .unset, .unset, .unset] [(.int (3 : Int32)), (.int k0)]))
          refine own_st (fun t k => XS.icmpYes X69.here hx rfl (pc0 := 219) (pc' := 232) rfl (hb hby at_219) rfl (flt (fun q => c171_70 (Int32.lt_trans (by decide) q))).2.2.2 (by decide) (by decide) k) ?_
          show own_Go p e below G (T69.setTop (mkF m 232 #[iv x0, iv x1, iv x2, iv x3, iv 2, iv k0, iv y28, rv b1, own_dv (FP.l2d w0), .second, own_dv (FP.l2d w1), .second, own_dv (FP.l2d w2), .second, own_dv (FP.l2d w3), .second, iv e0', iv e1', iv e2', iv e3', rv b68, .unset, .unset, .unset, .unset, .unset] []))
          refine own_st (fun t k => XS.aload X69.here hx rfl (hb hby at_232) rfl rfl  k) ?_
          show own_Go p e below G (T69.setTop (mkF m 234 #[iv x0, iv x1, iv x2, iv x3, iv 2, iv k0, iv y28, rv b1, own_dv (FP.l2d w0), .second, own_dv (FP.l2d w1), .second, own_dv (FP.l2d w2), .second, own_dv (FP.l2d w3), .second, iv e0', iv e1', iv e2', iv e3', rv b68, .unset, .unset, .unset, .unset, .unset] [(.ref b68)]))
          obtain ⟨v82, T82, L82, X82, Q82, st82⟩ := own_callV X69 hx hZ (y := (⟨"com/example/thinleaf/thinleaf/prune/Nearest", "least", "()D"⟩ : MethodName)) (z := (⟨"com/example/thinleaf/thinleaf/prune/Nearest", "least", "()D"⟩ : MethodName)) hown (hw _ (List.mem_of_getElem? (i := 17) rfl)) (hw _ (List.mem_of_getElem? (i := 18) rfl)) (notFace_of_selects (args := #[]) (mvT hZ (hw _ (List.mem_of_getElem? (i := 20) rfl)))) (hw _ (List.mem_of_getElem? (i := 20) rfl)) (hw _ (List.mem_of_getElem? (i := 19) rfl)) (hw _ (List.mem_of_getElem? (i := 3) rfl)) (hw _ (List.mem_of_getElem? (i := 21) rfl)) (by decide) (W := 0) (rmL20 l Z a0 hw b68 bn bc kn kc pv   T69.heap n0 NB0) (by decide) (by decide) rfl (NB0).1 (g := (mkF m 234 #[iv x0, iv x1, iv x2, iv x3, iv 2, iv k0, iv y28, rv b1, own_dv (FP.l2d w0), .second, own_dv (FP.l2d w1), .second, own_dv (FP.l2d w2), .second, own_dv (FP.l2d w3), .second, iv e0', iv e1', iv e2', iv e3', rv b68, .unset, .unset, .unset, .unset, .unset] [(.ref b68)])) rfl (by rw [hml]; rfl) (argsL := []) (rest := []) own_pd4 rfl rfl (by show 2 * 0 + _ ≤ _; exact Nat.le_of_eq rfl) (hb hby at_234) rfl (by decide) (by decide)
          obtain ⟨rfl, rfl, e82⟩ := Q82
          simp only [List.append_nil, Nat.add_zero] at X82
          refine own_st st82 ?_
          show own_Go p e below G (T82.setTop (mkF m 237 #[iv x0, iv x1, iv x2, iv x3, iv 2, iv k0, iv y28, rv b1, own_dv (FP.l2d w0), .second, own_dv (FP.l2d w1), .second, own_dv (FP.l2d w2), .second, own_dv (FP.l2d w3), .second, iv e0', iv e1', iv e2', iv e3', rv b68, .unset, .unset, .unset, .unset, .unset] [(.double (18442240474082181120 : UInt64))]))
          refine own_st (fun t k => XS.dstore X82.here hx rfl (hb hby at_237) rfl (l' := #[iv x0, iv x1, iv x2, iv x3, iv 2, iv k0, iv y28, rv b1, own_dv (FP.l2d w0), .second, own_dv (FP.l2d w1), .second, own_dv (FP.l2d w2), .second, own_dv (FP.l2d w3), .second, iv e0', iv e1', iv e2', iv e3', rv b68, own_dv (18442240474082181120 : UInt64), .second, .unset, .unset, .unset]) rfl k) ?_
          show own_Go p e below G (T82.setTop (mkF m 239 #[iv x0, iv x1, iv x2, iv x3, iv 2, iv k0, iv y28, rv b1, own_dv (FP.l2d w0), .second, own_dv (FP.l2d w1), .second, own_dv (FP.l2d w2), .second, own_dv (FP.l2d w3), .second, iv e0', iv e1', iv e2', iv e3', rv b68, own_dv (18442240474082181120 : UInt64), .second, .unset, .unset, .unset] []))
          refine own_st (fun t k => XS.iload X82.here hx rfl (hb hby at_239) rfl  k) ?_
          show own_Go p e below G (T82.setTop (mkF m 241 #[iv x0, iv x1, iv x2, iv x3, iv 2, iv k0, iv y28, rv b1, own_dv (FP.l2d w0), .second, own_dv (FP.l2d w1), .second, own_dv (FP.l2d w2), .second, own_dv (FP.l2d w3), .second, iv e0', iv e1', iv e2', iv e3', rv b68, own_dv (18442240474082181120 : UInt64), .second, .unset, .unset, .unset] [(.int (2 : Int32))]))
          refine own_st (fun t k => XS.ifYes X82.here hx rfl (pc0 := 241) (pc' := 252) rfl (hb hby at_241) rfl ((if0 _ _).trans (feq (by decide)).2) (by decide) (by decide) k) ?_
          show own_Go p e below G (T82.setTop (mkF m 252 #[iv x0, iv x1, iv x2, iv x3, iv 2, iv k0, iv y28, rv b1, own_dv (FP.l2d w0), .second, own_dv (FP.l2d w1), .second, own_dv (FP.l2d w2), .second, own_dv (FP.l2d w3), .second, iv e0', iv e1', iv e2', iv e3', rv b68, own_dv (18442240474082181120 : UInt64), .second, .unset, .unset, .unset] []))
          refine own_st (fun t k => XS.iload X82.here hx rfl (hb hby at_252) rfl  k) ?_
          refine own_st (fun t k => XS.iload X82.here hx rfl (hb hby at_254) rfl  k) ?_
          show own_Go p e below G (T82.setTop (mkF m 256 #[iv x0, iv x1, iv x2, iv x3, iv 2, iv k0, iv y28, rv b1, own_dv (FP.l2d w0), .second, own_dv (FP.l2d w1), .second, own_dv (FP.l2d w2), .second, own_dv (FP.l2d w3), .second, iv e0', iv e1', iv e2', iv e3', rv b68, own_dv (18442240474082181120 : UInt64), .second, .unset, .unset, .unset] [(.int (2 : Int32)), (.int k0)]))
          refine own_st (fun t k => XS.icmpNo X82.here hx rfl (hb hby at_256) rfl (tlt (by have q := c171_70; rw [Int32.lt_iff_toInt_lt] at q ⊢; have z1 : ((0 : Int32)).toInt = 0 := rfl; have z2 : ((2 : Int32)).toInt = 2 := rfl; omega)).2.1 k) ?_
          show own_Go p e below G (T82.setTop (mkF m 259 #[iv x0, iv x1, iv x2, iv x3, iv 2, iv k0, iv y28, rv b1, own_dv (FP.l2d w0), .second, own_dv (FP.l2d w1), .second, own_dv (FP.l2d w2), .second, own_dv (FP.l2d w3), .second, iv e0', iv e1', iv e2', iv e3', rv b68, own_dv (18442240474082181120 : UInt64), .second, .unset, .unset, .unset] []))
          refine own_st (fun t k => X82.ldc2DoubleC hx hown (mvT hZ (hw _ (List.mem_of_getElem? (i := 41) rfl))) (g := (mkF m 259 #[iv x0, iv x1, iv x2, iv x3, iv 2, iv k0, iv y28, rv b1, own_dv (FP.l2d w0), .second, own_dv (FP.l2d w1), .second, own_dv (FP.l2d w2), .second, own_dv (FP.l2d w3), .second, iv e0', iv e1', iv e2', iv e3', rv b68, own_dv (18442240474082181120 : UInt64), .second, .unset, .unset, .unset] [])) rfl (hb hby at_259) t k) ?_
          show own_Go p e below G (T82.setTop (mkF m 262 #[iv x0, iv x1, iv x2, iv x3, iv 2, iv k0, iv y28, rv b1, own_dv (FP.l2d w0), .second, own_dv (FP.l2d w1), .second, own_dv (FP.l2d w2), .second, own_dv (FP.l2d w3), .second, iv e0', iv e1', iv e2', iv e3', rv b68, own_dv (18442240474082181120 : UInt64), .second, .unset, .unset, .unset] [(.double (18442240474082181120 : UInt64))]))
          refine own_st (fun t k => XS.dstore X82.here hx rfl (hb hby at_262) rfl (l' := #[iv x0, iv x1, iv x2, iv x3, iv 2, iv k0, iv y28, rv b1, own_dv (FP.l2d w0), .second, own_dv (FP.l2d w1), .second, own_dv (FP.l2d w2), .second, own_dv (FP.l2d w3), .second, iv e0', iv e1', iv e2', iv e3', rv b68, own_dv (18442240474082181120 : UInt64), .second, own_dv (18442240474082181120 : UInt64), .second, .unset]) rfl k) ?_
          refine own_st (fun t k => XS.goto X82.here hx rfl (pc0 := 264) (pc' := 387) rfl (hb hby at_264) (by decide) (by decide) k) ?_
          refine own_st (fun t k => XS.dload X82.here hx rfl (hb hby at_387) rfl  k) ?_
          show own_Go p e below G (T82.setTop (mkF m 389 #[iv x0, iv x1, iv x2, iv x3, iv 2, iv k0, iv y28, rv b1, own_dv (FP.l2d w0), .second, own_dv (FP.l2d w1), .second, own_dv (FP.l2d w2), .second, own_dv (FP.l2d w3), .second, iv e0', iv e1', iv e2', iv e3', rv b68, own_dv (18442240474082181120 : UInt64), .second, own_dv (18442240474082181120 : UInt64), .second, .unset] [(.double (18442240474082181120 : UInt64))]))
          refine own_st (fun t k => XS.dload X82.here hx rfl (hb hby at_389) rfl  k) ?_
          show own_Go p e below G (T82.setTop (mkF m 391 #[iv x0, iv x1, iv x2, iv x3, iv 2, iv k0, iv y28, rv b1, own_dv (FP.l2d w0), .second, own_dv (FP.l2d w1), .second, own_dv (FP.l2d w2), .second, own_dv (FP.l2d w3), .second, iv e0', iv e1', iv e2', iv e3', rv b68, own_dv (18442240474082181120 : UInt64), .second, own_dv (18442240474082181120 : UInt64), .second, .unset] [(.double (18442240474082181120 : UInt64)), (.double (18442240474082181120 : UInt64))]))
          refine own_st (fun t k => XS.dcmpS X82.here hx rfl (hb hby at_391) rfl (dcmpV_self (by decide +kernel) _) k) ?_
          show own_Go p e below G (T82.setTop (mkF m 392 #[iv x0, iv x1, iv x2, iv x3, iv 2, iv k0, iv y28, rv b1, own_dv (FP.l2d w0), .second, own_dv (FP.l2d w1), .second, own_dv (FP.l2d w2), .second, own_dv (FP.l2d w3), .second, iv e0', iv e1', iv e2', iv e3', rv b68, own_dv (18442240474082181120 : UInt64), .second, own_dv (18442240474082181120 : UInt64), .second, .unset] [(.int (0 : Int32))]))
          refine own_st (fun t k => XS.ifNo X82.here hx rfl (hb hby at_392) rfl ((if0 _ _).trans (teq (by decide)).2) k) ?_
          show own_Go p e below G (T82.setTop (mkF m 395 #[iv x0, iv x1, iv x2, iv x3, iv 2, iv k0, iv y28, rv b1, own_dv (FP.l2d w0), .second, own_dv (FP.l2d w1), .second, own_dv (FP.l2d w2), .second, own_dv (FP.l2d w3), .second, iv e0', iv e1', iv e2', iv e3', rv b68, own_dv (18442240474082181120 : UInt64), .second, own_dv (18442240474082181120 : UInt64), .second, .unset] []))
          refine own_st (fun t k => XS.iconst X82.here hx rfl (hb hby at_395) k) ?_
          refine own_st (fun t k => XS.goto X82.here hx rfl (pc0 := 396) (pc' := 400) rfl (hb hby at_396) (by decide) (by decide) k) ?_
          show own_Go p e below G (T82.setTop (mkF m 400 #[iv x0, iv x1, iv x2, iv x3, iv 2, iv k0, iv y28, rv b1, own_dv (FP.l2d w0), .second, own_dv (FP.l2d w1), .second, own_dv (FP.l2d w2), .second, own_dv (FP.l2d w3), .second, iv e0', iv e1', iv e2', iv e3', rv b68, own_dv (18442240474082181120 : UInt64), .second, own_dv (18442240474082181120 : UInt64), .second, .unset] [(.int (1 : Int32))]))
          rw [hG]
          exact own_retZ X82 hx hlk (t := .boolean) hret (by simp) (hb hby at_400) ⟨rfl, N0⟩ (by decide) (by decide)
      by_cases c155_83 : y28 = (0 : Int32)
      · skip
        refine own_st (fun t k => XS.ifYes X68.here hx rfl (pc0 := 155) (pc' := 162) rfl (hb hby at_155) rfl ((if0 _ _).trans (teq c155_83).1) (by decide) (by decide) k) ?_
        show own_Go p e below G (T68.setTop (mkF m 162 #[iv x0, iv x1, iv x2, iv x3, iv 2, iv k0, iv y28, rv b1, own_dv (FP.l2d w0), .second, own_dv (FP.l2d w1), .second, own_dv (FP.l2d w2), .second, own_dv (FP.l2d w3), .second, iv e0', iv e1', iv e2', iv e3', .unset, .unset, .unset, .unset, .unset, .unset] [(.int (2 : Int32)), (.ref b68), (.ref b68)]))
        refine own_st (fun t k => XS.aload X68.here hx rfl (hb hby at_162) rfl rfl  k) ?_
        show own_Go p e below G (T68.setTop (mkF m 164 #[iv x0, iv x1, iv x2, iv x3, iv 2, iv k0, iv y28, rv b1, own_dv (FP.l2d w0), .second, own_dv (FP.l2d w1), .second, own_dv (FP.l2d w2), .second, own_dv (FP.l2d w3), .second, iv e0', iv e1', iv e2', iv e3', .unset, .unset, .unset, .unset, .unset, .unset] [(.ref b1), (.int (2 : Int32)), (.ref b68), (.ref b68)]))
        exact J164 _ (Or.inr ⟨b1, _, _, _, _, _, rfl, V_b1, ninS ne_b1_b68 nin0⟩)
      · skip
        refine own_st (fun t k => XS.ifNo X68.here hx rfl (hb hby at_155) rfl ((if0 _ _).trans (feq c155_83).1) k) ?_
        show own_Go p e below G (T68.setTop (mkF m 158 #[iv x0, iv x1, iv x2, iv x3, iv 2, iv k0, iv y28, rv b1, own_dv (FP.l2d w0), .second, own_dv (FP.l2d w1), .second, own_dv (FP.l2d w2), .second, own_dv (FP.l2d w3), .second, iv e0', iv e1', iv e2', iv e3', .unset, .unset, .unset, .unset, .unset, .unset] [(.int (2 : Int32)), (.ref b68), (.ref b68)]))
        refine own_st (fun t k => XS.aconstNull X68.here hx rfl (hb hby at_158) k) ?_
        refine own_st (fun t k => XS.goto X68.here hx rfl (pc0 := 159) (pc' := 164) rfl (hb hby at_159) (by decide) (by decide) k) ?_
        show own_Go p e below G (T68.setTop (mkF m 164 #[iv x0, iv x1, iv x2, iv x3, iv 2, iv k0, iv y28, rv b1, own_dv (FP.l2d w0), .second, own_dv (FP.l2d w1), .second, own_dv (FP.l2d w2), .second, own_dv (FP.l2d w3), .second, iv e0', iv e1', iv e2', iv e3', .unset, .unset, .unset, .unset, .unset, .unset] [.null, (.int (2 : Int32)), (.ref b68), (.ref b68)]))
        exact J164 _ (Or.inl rfl)
    · skip
      show own_Go p e below G (T5.setTop (mkF m 147 #[iv x0, iv x1, iv x2, iv x3, iv 3, iv k0, iv y28, rv b1, own_dv (FP.l2d w0), .second, own_dv (FP.l2d w1), .second, own_dv (FP.l2d w2), .second, own_dv (FP.l2d w3), .second, iv e0', iv e1', iv e2', iv e3', .unset, .unset, .unset, .unset, .unset, .unset] []))
      have J239 : ∀ (T : State) (locs : List Loc) (X : Stand p l e room_1 s m #[(.int x0), (.int x1), (.int x2), (.int x3)] below meth c T locs 4 14) (N0 : Fr n0 locs) (Z0 : n0 ≤ T.heap.size) (s20 : Slot) (g : Int64) (hgb : own_b g) (hkc : ¬ k0 < (3 : Int32)) (hg : g.toInt = own_nth (own_pad k0 0 w0) (own_pad k0 1 w1) (own_pad k0 2 w2) (own_pad k0 3 w3) 3), own_Go p e below G (T.setTop (mkF m 239 #[iv x0, iv x1, iv x2, iv x3, iv 3, iv k0, iv y28, rv b1, own_dv (FP.l2d w0), .second, own_dv (FP.l2d w1), .second, own_dv (FP.l2d w2), .second, own_dv (FP.l2d w3), .second, iv e0', iv e1', iv e2', iv e3', s20, .val (.double (FP.l2d g)), .second, .unset, .unset, .unset] [])) := by
        intro T locs X N0 Z0 s20 g hgb hkc hg
        refine own_st (fun t k => XS.iload X.here hx rfl (hb hby at_239) rfl  k) ?_
        show own_Go p e below G (T.setTop (mkF m 241 #[iv x0, iv x1, iv x2, iv x3, iv 3, iv k0, iv y28, rv b1, own_dv (FP.l2d w0), .second, own_dv (FP.l2d w1), .second, own_dv (FP.l2d w2), .second, own_dv (FP.l2d w3), .second, iv e0', iv e1', iv e2', iv e3', s20, own_dv (FP.l2d g), .second, .unset, .unset, .unset] [(.int (3 : Int32))]))
        refine own_st (fun t k => XS.ifYes X.here hx rfl (pc0 := 241) (pc' := 252) rfl (hb hby at_241) rfl ((if0 _ _).trans (feq (by decide)).2) (by decide) (by decide) k) ?_
        show own_Go p e below G (T.setTop (mkF m 252 #[iv x0, iv x1, iv x2, iv x3, iv 3, iv k0, iv y28, rv b1, own_dv (FP.l2d w0), .second, own_dv (FP.l2d w1), .second, own_dv (FP.l2d w2), .second, own_dv (FP.l2d w3), .second, iv e0', iv e1', iv e2', iv e3', s20, own_dv (FP.l2d g), .second, .unset, .unset, .unset] []))
        refine own_st (fun t k => XS.iload X.here hx rfl (hb hby at_252) rfl  k) ?_
        refine own_st (fun t k => XS.iload X.here hx rfl (hb hby at_254) rfl  k) ?_
        show own_Go p e below G (T.setTop (mkF m 256 #[iv x0, iv x1, iv x2, iv x3, iv 3, iv k0, iv y28, rv b1, own_dv (FP.l2d w0), .second, own_dv (FP.l2d w1), .second, own_dv (FP.l2d w2), .second, own_dv (FP.l2d w3), .second, iv e0', iv e1', iv e2', iv e3', s20, own_dv (FP.l2d g), .second, .unset, .unset, .unset] [(.int (3 : Int32)), (.int k0)]))
        refine own_st (fun t k => XS.icmpYes X.here hx rfl (pc0 := 256) (pc' := 267) rfl (hb hby at_256) rfl (flt hkc).2.1 (by decide) (by decide) k) ?_
        show own_Go p e below G (T.setTop (mkF m 267 #[iv x0, iv x1, iv x2, iv x3, iv 3, iv k0, iv y28, rv b1, own_dv (FP.l2d w0), .second, own_dv (FP.l2d w1), .second, own_dv (FP.l2d w2), .second, own_dv (FP.l2d w3), .second, iv e0', iv e1', iv e2', iv e3', s20, own_dv (FP.l2d g), .second, .unset, .unset, .unset] []))
        refine own_st (fun t k => XS.iconst X.here hx rfl (hb hby at_267) k) ?_
        show own_Go p e below G (T.setTop (mkF m 268 #[iv x0, iv x1, iv x2, iv x3, iv 3, iv k0, iv y28, rv b1, own_dv (FP.l2d w0), .second, own_dv (FP.l2d w1), .second, own_dv (FP.l2d w2), .second, own_dv (FP.l2d w3), .second, iv e0', iv e1', iv e2', iv e3', s20, own_dv (FP.l2d g), .second, .unset, .unset, .unset] [(.int (4 : Int32))]))
        obtain ⟨T84, h84, k84, X84, e84, E84, A84, st84⟩ := newP X hx hZ (hw _ (List.mem_of_getElem? (i := 12) rfl)) rfl (g := (mkF m 268 #[iv x0, iv x1, iv x2, iv x3, iv 3, iv k0, iv y28, rv b1, own_dv (FP.l2d w0), .second, own_dv (FP.l2d w1), .second, own_dv (FP.l2d w2), .second, own_dv (FP.l2d w3), .second, iv e0', iv e1', iv e2', iv e3', s20, own_dv (FP.l2d g), .second, .unset, .unset, .unset] [(.int (4 : Int32))])) rfl (hb hby at_268) rfl (by decide) (cap := 4) (by decide) (by decide) (by decide) (by decide)
        obtain ⟨b84, gb84⟩ : ∃ z, z = T.heap.size := ⟨_, rfl⟩
        rw [← gb84] at A84 st84
        have g_b84 : n0 ≤ b84 := Nat.le_trans Z0 (Nat.le_of_eq gb84.symm)
        replace Z0 := Nat.le_trans Z0 E84.1
        have V_b84 : Arv Z h84 b84 k84 .double (4 : Int32) [(.double (0 : UInt64)), (.double (0 : UInt64)), (.double (0 : UInt64)), (.double (0 : UInt64))] (.double (0 : UInt64)) := (Arv.new A84 (by decide)).pad (pad_rep [] (.double (0 : UInt64)) 4)
        refine own_st st84 ?_
        show own_Go p e below G (T84.setTop (mkF m 270 #[iv x0, iv x1, iv x2, iv x3, iv 3, iv k0, iv y28, rv b1, own_dv (FP.l2d w0), .second, own_dv (FP.l2d w1), .second, own_dv (FP.l2d w2), .second, own_dv (FP.l2d w3), .second, iv e0', iv e1', iv e2', iv e3', s20, own_dv (FP.l2d g), .second, .unset, .unset, .unset] [(.ref b84)]))
        refine own_st (fun t k => XS.astore X84.here hx rfl (hb hby at_270) rfl rfl (l' := #[iv x0, iv x1, iv x2, iv x3, iv 3, iv k0, iv y28, rv b1, own_dv (FP.l2d w0), .second, own_dv (FP.l2d w1), .second, own_dv (FP.l2d w2), .second, own_dv (FP.l2d w3), .second, iv e0', iv e1', iv e2', iv e3', s20, own_dv (FP.l2d g), .second, .unset, .unset, rv b84]) rfl k) ?_
        refine own_st (fun t k => XS.aload X84.here hx rfl (hb hby at_272) rfl rfl  k) ?_
        refine own_st (fun t k => XS.iconst X84.here hx rfl (hb hby at_274) k) ?_
        show own_Go p e below G (T84.setTop (mkF m 275 #[iv x0, iv x1, iv x2, iv x3, iv 3, iv k0, iv y28, rv b1, own_dv (FP.l2d w0), .second, own_dv (FP.l2d w1), .second, own_dv (FP.l2d w2), .second, own_dv (FP.l2d w3), .second, iv e0', iv e1', iv e2', iv e3', s20, own_dv (FP.l2d g), .second, .unset, .unset, rv b84] [(.int (0 : Int32)), (.ref b84)]))
        refine own_st (fun t k => XS.iload X84.here hx rfl (hb hby at_275) rfl  k) ?_
        show own_Go p e below G (T84.setTop (mkF m 277 #[iv x0, iv x1, iv x2, iv x3, iv 3, iv k0, iv y28, rv b1, own_dv (FP.l2d w0), .second, own_dv (FP.l2d w1), .second, own_dv (FP.l2d w2), .second, own_dv (FP.l2d w3), .second, iv e0', iv e1', iv e2', iv e3', s20, own_dv (FP.l2d g), .second, .unset, .unset, rv b84] [(.int k0), (.int (0 : Int32)), (.ref b84)]))
        have J288 : ∀ (t0 : Int64) (hp0 : t0.toInt = own_pad k0 0 w0) (hb_t0 : own_b t0), own_Go p e below G (T84.setTop (mkF m 288 #[iv x0, iv x1, iv x2, iv x3, iv 3, iv k0, iv y28, rv b1, own_dv (FP.l2d w0), .second, own_dv (FP.l2d w1), .second, own_dv (FP.l2d w2), .second, own_dv (FP.l2d w3), .second, iv e0', iv e1', iv e2', iv e3', s20, own_dv (FP.l2d g), .second, .unset, .unset, rv b84] [(.double (FP.l2d t0)), (.int (0 : Int32)), (.ref b84)])) := by
          intro t0 hp0 hb_t0
          obtain ⟨cl85, Ar85, qa85, Sa85, Na85, Ha85, Ga85⟩ := V_b84
          have hin85 : ¬ ((0 : Int32) < 0 ∨ cl85.slots.size ≤ ((0 : Int32)).toNatClampNeg) := inb_of Sa85 ⟨by decide, by decide⟩
          obtain ⟨T85, h85, X85, e85, W85, st85⟩ := stD X84 hx hZ e84 Ar85 (j := (0 : Int32)) hin85 (g := (mkF m 288 #[iv x0, iv x1, iv x2, iv x3, iv 3, iv k0, iv y28, rv b1, own_dv (FP.l2d w0), .second, own_dv (FP.l2d w1), .second, own_dv (FP.l2d w2), .second, own_dv (FP.l2d w3), .second, iv e0', iv e1', iv e2', iv e3', s20, own_dv (FP.l2d g), .second, .unset, .unset, rv b84] [(.double (FP.l2d t0)), (.int (0 : Int32)), (.ref b84)])) rfl rfl (hb hby at_288)
          have V_b84 : Arv Z h85 b84 k84 .double (4 : Int32) [(.double (FP.l2d t0)), (.double (0 : UInt64)), (.double (0 : UInt64)), (.double (0 : UInt64))] (.double (0 : UInt64)) := Arv.set Ar85 qa85 Sa85 Na85 Ha85 Ga85 rfl W85 0 rfl (Nat.le_of_ble_eq_true rfl)
          replace Z0 := Nat.le_trans Z0 (Keep.of_wr W85).1
          replace N0 := Fr.snoc X85 N0 g_b84
          refine own_st st85 ?_
          show own_Go p e below G (T85.setTop (mkF m 289 #[iv x0, iv x1, iv x2, iv x3, iv 3, iv k0, iv y28, rv b1, own_dv (FP.l2d w0), .second, own_dv (FP.l2d w1), .second, own_dv (FP.l2d w2), .second, own_dv (FP.l2d w3), .second, iv e0', iv e1', iv e2', iv e3', s20, own_dv (FP.l2d g), .second, .unset, .unset, rv b84] []))
          refine own_st (fun t k => XS.aload X85.here hx rfl (hb hby at_289) rfl rfl  k) ?_
          refine own_st (fun t k => XS.iconst X85.here hx rfl (hb hby at_291) k) ?_
          refine own_st (fun t k => XS.iload X85.here hx rfl (hb hby at_292) rfl  k) ?_
          show own_Go p e below G (T85.setTop (mkF m 294 #[iv x0, iv x1, iv x2, iv x3, iv 3, iv k0, iv y28, rv b1, own_dv (FP.l2d w0), .second, own_dv (FP.l2d w1), .second, own_dv (FP.l2d w2), .second, own_dv (FP.l2d w3), .second, iv e0', iv e1', iv e2', iv e3', s20, own_dv (FP.l2d g), .second, .unset, .unset, rv b84] [(.int k0), (.int (1 : Int32)), (.ref b84)]))
          refine own_st (fun t k => XS.iconst X85.here hx rfl (hb hby at_294) k) ?_
          show own_Go p e below G (T85.setTop (mkF m 295 #[iv x0, iv x1, iv x2, iv x3, iv 3, iv k0, iv y28, rv b1, own_dv (FP.l2d w0), .second, own_dv (FP.l2d w1), .second, own_dv (FP.l2d w2), .second, own_dv (FP.l2d w3), .second, iv e0', iv e1', iv e2', iv e3', s20, own_dv (FP.l2d g), .second, .unset, .unset, rv b84] [(.int (1 : Int32)), (.int k0), (.int (1 : Int32)), (.ref b84)]))
          have J306 : ∀ (t1 : Int64) (hp1 : t1.toInt = own_pad k0 1 w1) (hb_t1 : own_b t1), own_Go p e below G (T85.setTop (mkF m 306 #[iv x0, iv x1, iv x2, iv x3, iv 3, iv k0, iv y28, rv b1, own_dv (FP.l2d w0), .second, own_dv (FP.l2d w1), .second, own_dv (FP.l2d w2), .second, own_dv (FP.l2d w3), .second, iv e0', iv e1', iv e2', iv e3', s20, own_dv (FP.l2d g), .second, .unset, .unset, rv b84] [(.double (FP.l2d t1)), (.int (1 : Int32)), (.ref b84)])) := by
            intro t1 hp1 hb_t1
            obtain ⟨cl86, Ar86, qa86, Sa86, Na86, Ha86, Ga86⟩ := V_b84
            have hin86 : ¬ ((1 : Int32) < 0 ∨ cl86.slots.size ≤ ((1 : Int32)).toNatClampNeg) := inb_of Sa86 ⟨by decide, by decide⟩
            obtain ⟨T86, h86, X86, e86, W86, st86⟩ := stD X85 hx hZ e85 Ar86 (j := (1 : Int32)) hin86 (g := (mkF m 306 #[iv x0, iv x1, iv x2, iv x3, iv 3, iv k0, iv y28, rv b1, own_dv (FP.l2d w0), .second, own_dv (FP.l2d w1), .second, own_dv (FP.l2d w2), .second, own_dv (FP.l2d w3), .second, iv e0', iv e1', iv e2', iv e3', s20, own_dv (FP.l2d g), .second, .unset, .unset, rv b84] [(.double (FP.l2d t1)), (.int (1 : Int32)), (.ref b84)])) rfl rfl (hb hby at_306)
            have V_b84 : Arv Z h86 b84 k84 .double (4 : Int32) [(.double (FP.l2d t0)), (.double (FP.l2d t1)), (.double (0 : UInt64)), (.double (0 : UInt64))] (.double (0 : UInt64)) := Arv.set Ar86 qa86 Sa86 Na86 Ha86 Ga86 rfl W86 1 rfl (Nat.le_of_ble_eq_true rfl)
            replace Z0 := Nat.le_trans Z0 (Keep.of_wr W86).1
            replace N0 := Fr.snoc X86 N0 g_b84
            refine own_st st86 ?_
            show own_Go p e below G (T86.setTop (mkF m 307 #[iv x0, iv x1, iv x2, iv x3, iv 3, iv k0, iv y28, rv b1, own_dv (FP.l2d w0), .second, own_dv (FP.l2d w1), .second, own_dv (FP.l2d w2), .second, own_dv (FP.l2d w3), .second, iv e0', iv e1', iv e2', iv e3', s20, own_dv (FP.l2d g), .second, .unset, .unset, rv b84] []))
            refine own_st (fun t k => XS.aload X86.here hx rfl (hb hby at_307) rfl rfl  k) ?_
            refine own_st (fun t k => XS.iconst X86.here hx rfl (hb hby at_309) k) ?_
            refine own_st (fun t k => XS.iload X86.here hx rfl (hb hby at_310) rfl  k) ?_
            show own_Go p e below G (T86.setTop (mkF m 312 #[iv x0, iv x1, iv x2, iv x3, iv 3, iv k0, iv y28, rv b1, own_dv (FP.l2d w0), .second, own_dv (FP.l2d w1), .second, own_dv (FP.l2d w2), .second, own_dv (FP.l2d w3), .second, iv e0', iv e1', iv e2', iv e3', s20, own_dv (FP.l2d g), .second, .unset, .unset, rv b84] [(.int k0), (.int (2 : Int32)), (.ref b84)]))
            refine own_st (fun t k => XS.iconst X86.here hx rfl (hb hby at_312) k) ?_
            show own_Go p e below G (T86.setTop (mkF m 313 #[iv x0, iv x1, iv x2, iv x3, iv 3, iv k0, iv y28, rv b1, own_dv (FP.l2d w0), .second, own_dv (FP.l2d w1), .second, own_dv (FP.l2d w2), .second, own_dv (FP.l2d w3), .second, iv e0', iv e1', iv e2', iv e3', s20, own_dv (FP.l2d g), .second, .unset, .unset, rv b84] [(.int (2 : Int32)), (.int k0), (.int (2 : Int32)), (.ref b84)]))
            have J324 : ∀ (t2 : Int64) (hp2 : t2.toInt = own_pad k0 2 w2) (hb_t2 : own_b t2), own_Go p e below G (T86.setTop (mkF m 324 #[iv x0, iv x1, iv x2, iv x3, iv 3, iv k0, iv y28, rv b1, own_dv (FP.l2d w0), .second, own_dv (FP.l2d w1), .second, own_dv (FP.l2d w2), .second, own_dv (FP.l2d w3), .second, iv e0', iv e1', iv e2', iv e3', s20, own_dv (FP.l2d g), .second, .unset, .unset, rv b84] [(.double (FP.l2d t2)), (.int (2 : Int32)), (.ref b84)])) := by
              intro t2 hp2 hb_t2
              obtain ⟨cl87, Ar87, qa87, Sa87, Na87, Ha87, Ga87⟩ := V_b84
              have hin87 : ¬ ((2 : Int32) < 0 ∨ cl87.slots.size ≤ ((2 : Int32)).toNatClampNeg) := inb_of Sa87 ⟨by decide, by decide⟩
              obtain ⟨T87, h87, X87, e87, W87, st87⟩ := stD X86 hx hZ e86 Ar87 (j := (2 : Int32)) hin87 (g := (mkF m 324 #[iv x0, iv x1, iv x2, iv x3, iv 3, iv k0, iv y28, rv b1, own_dv (FP.l2d w0), .second, own_dv (FP.l2d w1), .second, own_dv (FP.l2d w2), .second, own_dv (FP.l2d w3), .second, iv e0', iv e1', iv e2', iv e3', s20, own_dv (FP.l2d g), .second, .unset, .unset, rv b84] [(.double (FP.l2d t2)), (.int (2 : Int32)), (.ref b84)])) rfl rfl (hb hby at_324)
              have V_b84 : Arv Z h87 b84 k84 .double (4 : Int32) [(.double (FP.l2d t0)), (.double (FP.l2d t1)), (.double (FP.l2d t2)), (.double (0 : UInt64))] (.double (0 : UInt64)) := Arv.set Ar87 qa87 Sa87 Na87 Ha87 Ga87 rfl W87 2 rfl (Nat.le_of_ble_eq_true rfl)
              replace Z0 := Nat.le_trans Z0 (Keep.of_wr W87).1
              replace N0 := Fr.snoc X87 N0 g_b84
              refine own_st st87 ?_
              show own_Go p e below G (T87.setTop (mkF m 325 #[iv x0, iv x1, iv x2, iv x3, iv 3, iv k0, iv y28, rv b1, own_dv (FP.l2d w0), .second, own_dv (FP.l2d w1), .second, own_dv (FP.l2d w2), .second, own_dv (FP.l2d w3), .second, iv e0', iv e1', iv e2', iv e3', s20, own_dv (FP.l2d g), .second, .unset, .unset, rv b84] []))
              refine own_st (fun t k => XS.aload X87.here hx rfl (hb hby at_325) rfl rfl  k) ?_
              refine own_st (fun t k => XS.iconst X87.here hx rfl (hb hby at_327) k) ?_
              refine own_st (fun t k => XS.iload X87.here hx rfl (hb hby at_328) rfl  k) ?_
              show own_Go p e below G (T87.setTop (mkF m 330 #[iv x0, iv x1, iv x2, iv x3, iv 3, iv k0, iv y28, rv b1, own_dv (FP.l2d w0), .second, own_dv (FP.l2d w1), .second, own_dv (FP.l2d w2), .second, own_dv (FP.l2d w3), .second, iv e0', iv e1', iv e2', iv e3', s20, own_dv (FP.l2d g), .second, .unset, .unset, rv b84] [(.int k0), (.int (3 : Int32)), (.ref b84)]))
              refine own_st (fun t k => XS.iconst X87.here hx rfl (hb hby at_330) k) ?_
              show own_Go p e below G (T87.setTop (mkF m 331 #[iv x0, iv x1, iv x2, iv x3, iv 3, iv k0, iv y28, rv b1, own_dv (FP.l2d w0), .second, own_dv (FP.l2d w1), .second, own_dv (FP.l2d w2), .second, own_dv (FP.l2d w3), .second, iv e0', iv e1', iv e2', iv e3', s20, own_dv (FP.l2d g), .second, .unset, .unset, rv b84] [(.int (3 : Int32)), (.int k0), (.int (3 : Int32)), (.ref b84)]))
              have J342 : ∀ (t3 : Int64) (hp3 : t3.toInt = own_pad k0 3 w3) (hb_t3 : own_b t3), own_Go p e below G (T87.setTop (mkF m 342 #[iv x0, iv x1, iv x2, iv x3, iv 3, iv k0, iv y28, rv b1, own_dv (FP.l2d w0), .second, own_dv (FP.l2d w1), .second, own_dv (FP.l2d w2), .second, own_dv (FP.l2d w3), .second, iv e0', iv e1', iv e2', iv e3', s20, own_dv (FP.l2d g), .second, .unset, .unset, rv b84] [(.double (FP.l2d t3)), (.int (3 : Int32)), (.ref b84)])) := by
                intro t3 hp3 hb_t3
                obtain ⟨cl88, Ar88, qa88, Sa88, Na88, Ha88, Ga88⟩ := V_b84
                have hin88 : ¬ ((3 : Int32) < 0 ∨ cl88.slots.size ≤ ((3 : Int32)).toNatClampNeg) := inb_of Sa88 ⟨by decide, by decide⟩
                obtain ⟨T88, h88, X88, e88, W88, st88⟩ := stD X87 hx hZ e87 Ar88 (j := (3 : Int32)) hin88 (g := (mkF m 342 #[iv x0, iv x1, iv x2, iv x3, iv 3, iv k0, iv y28, rv b1, own_dv (FP.l2d w0), .second, own_dv (FP.l2d w1), .second, own_dv (FP.l2d w2), .second, own_dv (FP.l2d w3), .second, iv e0', iv e1', iv e2', iv e3', s20, own_dv (FP.l2d g), .second, .unset, .unset, rv b84] [(.double (FP.l2d t3)), (.int (3 : Int32)), (.ref b84)])) rfl rfl (hb hby at_342)
                have V_b84 : Arv Z h88 b84 k84 .double (4 : Int32) [(.double (FP.l2d t0)), (.double (FP.l2d t1)), (.double (FP.l2d t2)), (.double (FP.l2d t3))] (.double (0 : UInt64)) := Arv.set Ar88 qa88 Sa88 Na88 Ha88 Ga88 rfl W88 3 rfl (Nat.le_of_ble_eq_true rfl)
                replace Z0 := Nat.le_trans Z0 (Keep.of_wr W88).1
                replace N0 := Fr.snoc X88 N0 g_b84
                refine own_st st88 ?_
                show own_Go p e below G (T88.setTop (mkF m 343 #[iv x0, iv x1, iv x2, iv x3, iv 3, iv k0, iv y28, rv b1, own_dv (FP.l2d w0), .second, own_dv (FP.l2d w1), .second, own_dv (FP.l2d w2), .second, own_dv (FP.l2d w3), .second, iv e0', iv e1', iv e2', iv e3', s20, own_dv (FP.l2d g), .second, .unset, .unset, rv b84] []))
                refine own_st (fun t k => XS.aload X88.here hx rfl (hb hby at_343) rfl rfl  k) ?_
                refine own_st (fun t k => XS.iconst X88.here hx rfl (hb hby at_345) k) ?_
                refine own_st (fun t k => XS.iconst X88.here hx rfl (hb hby at_346) k) ?_
                show own_Go p e below G (T88.setTop (mkF m 347 #[iv x0, iv x1, iv x2, iv x3, iv 3, iv k0, iv y28, rv b1, own_dv (FP.l2d w0), .second, own_dv (FP.l2d w1), .second, own_dv (FP.l2d w2), .second, own_dv (FP.l2d w3), .second, iv e0', iv e1', iv e2', iv e3', s20, own_dv (FP.l2d g), .second, .unset, .unset, rv b84] [(.int (1 : Int32)), (.int (0 : Int32)), (.ref b84)]))
                obtain ⟨v89, T89, L89, X89, Q89, st89⟩ := own_callS X88 hx hZ (y := (⟨"com/example/thinleaf/thinleaf/prune/NearestLeastPinLaw", "cs", "([DII)V"⟩ : MethodName)) hown (hw _ (List.mem_of_getElem? (i := 36) rfl)) (hw _ (List.mem_of_getElem? (i := 37) rfl)) (hw _ (List.mem_of_getElem? (i := 38) rfl)) (hw _ (List.mem_of_getElem? (i := 39) rfl)) (by decide) (W := 0) (rmX01 l Z a0 hw b84 k84 t0 t1 t2 t3 h88 n0 Z0 g_b84 V_b84 hb_t0 hb_t1) (by decide) (by decide) e88 (g := (mkF m 347 #[iv x0, iv x1, iv x2, iv x3, iv 3, iv k0, iv y28, rv b1, own_dv (FP.l2d w0), .second, own_dv (FP.l2d w1), .second, own_dv (FP.l2d w2), .second, own_dv (FP.l2d w3), .second, iv e0', iv e1', iv e2', iv e3', s20, own_dv (FP.l2d g), .second, .unset, .unset, rv b84] [(.int (1 : Int32)), (.int (0 : Int32)), (.ref b84)])) rfl (by rw [hml]; rfl) (argsL := [(.ref b84), (.int (0 : Int32)), (.int (1 : Int32))]) (rest := []) own_pd5 rfl rfl (by show 2 * 0 + _ ≤ _; exact Nat.le_of_eq rfl) (hb hby at_347) rfl (by decide) (by decide)
                obtain ⟨rfl, Nq89, Zq89, u89_0, u89_1, Vq89, hb_u89_0, hb_u89_1, hx_u89_0, hx_u89_1⟩ := Q89
                replace N0 := Fr.app N0 Nq89
                replace Z0 := Zq89
                replace V_b84 := Vq89
                refine own_st st89 ?_
                show own_Go p e below G (T89.setTop (mkF m 350 #[iv x0, iv x1, iv x2, iv x3, iv 3, iv k0, iv y28, rv b1, own_dv (FP.l2d w0), .second, own_dv (FP.l2d w1), .second, own_dv (FP.l2d w2), .second, own_dv (FP.l2d w3), .second, iv e0', iv e1', iv e2', iv e3', s20, own_dv (FP.l2d g), .second, .unset, .unset, rv b84] []))
                refine own_st (fun t k => XS.aload X89.here hx rfl (hb hby at_350) rfl rfl  k) ?_
                refine own_st (fun t k => XS.iconst X89.here hx rfl (hb hby at_352) k) ?_
                refine own_st (fun t k => XS.iconst X89.here hx rfl (hb hby at_353) k) ?_
                show own_Go p e below G (T89.setTop (mkF m 354 #[iv x0, iv x1, iv x2, iv x3, iv 3, iv k0, iv y28, rv b1, own_dv (FP.l2d w0), .second, own_dv (FP.l2d w1), .second, own_dv (FP.l2d w2), .second, own_dv (FP.l2d w3), .second, iv e0', iv e1', iv e2', iv e3', s20, own_dv (FP.l2d g), .second, .unset, .unset, rv b84] [(.int (3 : Int32)), (.int (2 : Int32)), (.ref b84)]))
                obtain ⟨v90, T90, L90, X90, Q90, st90⟩ := own_callS X89 hx hZ (y := (⟨"com/example/thinleaf/thinleaf/prune/NearestLeastPinLaw", "cs", "([DII)V"⟩ : MethodName)) hown (hw _ (List.mem_of_getElem? (i := 36) rfl)) (hw _ (List.mem_of_getElem? (i := 37) rfl)) (hw _ (List.mem_of_getElem? (i := 38) rfl)) (hw _ (List.mem_of_getElem? (i := 39) rfl)) (by decide) (W := 0) (rmX23 l Z a0 hw b84 k84 u89_0 u89_1 t2 t3 T89.heap n0 Z0 g_b84 V_b84 hb_t2 hb_t3) (by decide) (by decide) rfl (g := (mkF m 354 #[iv x0, iv x1, iv x2, iv x3, iv 3, iv k0, iv y28, rv b1, own_dv (FP.l2d w0), .second, own_dv (FP.l2d w1), .second, own_dv (FP.l2d w2), .second, own_dv (FP.l2d w3), .second, iv e0', iv e1', iv e2', iv e3', s20, own_dv (FP.l2d g), .second, .unset, .unset, rv b84] [(.int (3 : Int32)), (.int (2 : Int32)), (.ref b84)])) rfl (by rw [hml]; rfl) (argsL := [(.ref b84), (.int (2 : Int32)), (.int (3 : Int32))]) (rest := []) own_pd5 rfl rfl (by show 2 * 0 + _ ≤ _; exact Nat.le_of_eq rfl) (hb hby at_354) rfl (by decide) (by decide)
                obtain ⟨rfl, Nq90, Zq90, u90_2, u90_3, Vq90, hb_u90_2, hb_u90_3, hx_u90_2, hx_u90_3⟩ := Q90
                replace N0 := Fr.app N0 Nq90
                replace Z0 := Zq90
                replace V_b84 := Vq90
                refine own_st st90 ?_
                show own_Go p e below G (T90.setTop (mkF m 357 #[iv x0, iv x1, iv x2, iv x3, iv 3, iv k0, iv y28, rv b1, own_dv (FP.l2d w0), .second, own_dv (FP.l2d w1), .second, own_dv (FP.l2d w2), .second, own_dv (FP.l2d w3), .second, iv e0', iv e1', iv e2', iv e3', s20, own_dv (FP.l2d g), .second, .unset, .unset, rv b84] []))
                refine own_st (fun t k => XS.aload X90.here hx rfl (hb hby at_357) rfl rfl  k) ?_
                refine own_st (fun t k => XS.iconst X90.here hx rfl (hb hby at_359) k) ?_
                refine own_st (fun t k => XS.iconst X90.here hx rfl (hb hby at_360) k) ?_
                show own_Go p e below G (T90.setTop (mkF m 361 #[iv x0, iv x1, iv x2, iv x3, iv 3, iv k0, iv y28, rv b1, own_dv (FP.l2d w0), .second, own_dv (FP.l2d w1), .second, own_dv (FP.l2d w2), .second, own_dv (FP.l2d w3), .second, iv e0', iv e1', iv e2', iv e3', s20, own_dv (FP.l2d g), .second, .unset, .unset, rv b84] [(.int (2 : Int32)), (.int (0 : Int32)), (.ref b84)]))
                obtain ⟨v91, T91, L91, X91, Q91, st91⟩ := own_callS X90 hx hZ (y := (⟨"com/example/thinleaf/thinleaf/prune/NearestLeastPinLaw", "cs", "([DII)V"⟩ : MethodName)) hown (hw _ (List.mem_of_getElem? (i := 36) rfl)) (hw _ (List.mem_of_getElem? (i := 37) rfl)) (hw _ (List.mem_of_getElem? (i := 38) rfl)) (hw _ (List.mem_of_getElem? (i := 39) rfl)) (by decide) (W := 0) (rmX02 l Z a0 hw b84 k84 u89_0 u89_1 u90_2 u90_3 T90.heap n0 Z0 g_b84 V_b84 hb_u89_0 hb_u90_2) (by decide) (by decide) rfl (g := (mkF m 361 #[iv x0, iv x1, iv x2, iv x3, iv 3, iv k0, iv y28, rv b1, own_dv (FP.l2d w0), .second, own_dv (FP.l2d w1), .second, own_dv (FP.l2d w2), .second, own_dv (FP.l2d w3), .second, iv e0', iv e1', iv e2', iv e3', s20, own_dv (FP.l2d g), .second, .unset, .unset, rv b84] [(.int (2 : Int32)), (.int (0 : Int32)), (.ref b84)])) rfl (by rw [hml]; rfl) (argsL := [(.ref b84), (.int (0 : Int32)), (.int (2 : Int32))]) (rest := []) own_pd5 rfl rfl (by show 2 * 0 + _ ≤ _; exact Nat.le_of_eq rfl) (hb hby at_361) rfl (by decide) (by decide)
                obtain ⟨rfl, Nq91, Zq91, u91_0, u91_2, Vq91, hb_u91_0, hb_u91_2, hx_u91_0, hx_u91_2⟩ := Q91
                replace N0 := Fr.app N0 Nq91
                replace Z0 := Zq91
                replace V_b84 := Vq91
                refine own_st st91 ?_
                show own_Go p e below G (T91.setTop (mkF m 364 #[iv x0, iv x1, iv x2, iv x3, iv 3, iv k0, iv y28, rv b1, own_dv (FP.l2d w0), .second, own_dv (FP.l2d w1), .second, own_dv (FP.l2d w2), .second, own_dv (FP.l2d w3), .second, iv e0', iv e1', iv e2', iv e3', s20, own_dv (FP.l2d g), .second, .unset, .unset, rv b84] []))
                refine own_st (fun t k => XS.aload X91.here hx rfl (hb hby at_364) rfl rfl  k) ?_
                refine own_st (fun t k => XS.iconst X91.here hx rfl (hb hby at_366) k) ?_
                refine own_st (fun t k => XS.iconst X91.here hx rfl (hb hby at_367) k) ?_
                show own_Go p e below G (T91.setTop (mkF m 368 #[iv x0, iv x1, iv x2, iv x3, iv 3, iv k0, iv y28, rv b1, own_dv (FP.l2d w0), .second, own_dv (FP.l2d w1), .second, own_dv (FP.l2d w2), .second, own_dv (FP.l2d w3), .second, iv e0', iv e1', iv e2', iv e3', s20, own_dv (FP.l2d g), .second, .unset, .unset, rv b84] [(.int (3 : Int32)), (.int (1 : Int32)), (.ref b84)]))
                obtain ⟨v92, T92, L92, X92, Q92, st92⟩ := own_callS X91 hx hZ (y := (⟨"com/example/thinleaf/thinleaf/prune/NearestLeastPinLaw", "cs", "([DII)V"⟩ : MethodName)) hown (hw _ (List.mem_of_getElem? (i := 36) rfl)) (hw _ (List.mem_of_getElem? (i := 37) rfl)) (hw _ (List.mem_of_getElem? (i := 38) rfl)) (hw _ (List.mem_of_getElem? (i := 39) rfl)) (by decide) (W := 0) (rmX13 l Z a0 hw b84 k84 u91_0 u89_1 u91_2 u90_3 T91.heap n0 Z0 g_b84 V_b84 hb_u89_1 hb_u90_3) (by decide) (by decide) rfl (g := (mkF m 368 #[iv x0, iv x1, iv x2, iv x3, iv 3, iv k0, iv y28, rv b1, own_dv (FP.l2d w0), .second, own_dv (FP.l2d w1), .second, own_dv (FP.l2d w2), .second, own_dv (FP.l2d w3), .second, iv e0', iv e1', iv e2', iv e3', s20, own_dv (FP.l2d g), .second, .unset, .unset, rv b84] [(.int (3 : Int32)), (.int (1 : Int32)), (.ref b84)])) rfl (by rw [hml]; rfl) (argsL := [(.ref b84), (.int (1 : Int32)), (.int (3 : Int32))]) (rest := []) own_pd5 rfl rfl (by show 2 * 0 + _ ≤ _; exact Nat.le_of_eq rfl) (hb hby at_368) rfl (by decide) (by decide)
                obtain ⟨rfl, Nq92, Zq92, u92_1, u92_3, Vq92, hb_u92_1, hb_u92_3, hx_u92_1, hx_u92_3⟩ := Q92
                replace N0 := Fr.app N0 Nq92
                replace Z0 := Zq92
                replace V_b84 := Vq92
                refine own_st st92 ?_
                show own_Go p e below G (T92.setTop (mkF m 371 #[iv x0, iv x1, iv x2, iv x3, iv 3, iv k0, iv y28, rv b1, own_dv (FP.l2d w0), .second, own_dv (FP.l2d w1), .second, own_dv (FP.l2d w2), .second, own_dv (FP.l2d w3), .second, iv e0', iv e1', iv e2', iv e3', s20, own_dv (FP.l2d g), .second, .unset, .unset, rv b84] []))
                refine own_st (fun t k => XS.aload X92.here hx rfl (hb hby at_371) rfl rfl  k) ?_
                refine own_st (fun t k => XS.iconst X92.here hx rfl (hb hby at_373) k) ?_
                refine own_st (fun t k => XS.iconst X92.here hx rfl (hb hby at_374) k) ?_
                show own_Go p e below G (T92.setTop (mkF m 375 #[iv x0, iv x1, iv x2, iv x3, iv 3, iv k0, iv y28, rv b1, own_dv (FP.l2d w0), .second, own_dv (FP.l2d w1), .second, own_dv (FP.l2d w2), .second, own_dv (FP.l2d w3), .second, iv e0', iv e1', iv e2', iv e3', s20, own_dv (FP.l2d g), .second, .unset, .unset, rv b84] [(.int (2 : Int32)), (.int (1 : Int32)), (.ref b84)]))
                obtain ⟨v93, T93, L93, X93, Q93, st93⟩ := own_callS X92 hx hZ (y := (⟨"com/example/thinleaf/thinleaf/prune/NearestLeastPinLaw", "cs", "([DII)V"⟩ : MethodName)) hown (hw _ (List.mem_of_getElem? (i := 36) rfl)) (hw _ (List.mem_of_getElem? (i := 37) rfl)) (hw _ (List.mem_of_getElem? (i := 38) rfl)) (hw _ (List.mem_of_getElem? (i := 39) rfl)) (by decide) (W := 0) (rmX12 l Z a0 hw b84 k84 u91_0 u92_1 u91_2 u92_3 T92.heap n0 Z0 g_b84 V_b84 hb_u92_1 hb_u91_2) (by decide) (by decide) rfl (g := (mkF m 375 #[iv x0, iv x1, iv x2, iv x3, iv 3, iv k0, iv y28, rv b1, own_dv (FP.l2d w0), .second, own_dv (FP.l2d w1), .second, own_dv (FP.l2d w2), .second, own_dv (FP.l2d w3), .second, iv e0', iv e1', iv e2', iv e3', s20, own_dv (FP.l2d g), .second, .unset, .unset, rv b84] [(.int (2 : Int32)), (.int (1 : Int32)), (.ref b84)])) rfl (by rw [hml]; rfl) (argsL := [(.ref b84), (.int (1 : Int32)), (.int (2 : Int32))]) (rest := []) own_pd5 rfl rfl (by show 2 * 0 + _ ≤ _; exact Nat.le_of_eq rfl) (hb hby at_375) rfl (by decide) (by decide)
                obtain ⟨rfl, Nq93, Zq93, u93_1, u93_2, Vq93, hb_u93_1, hb_u93_2, hx_u93_1, hx_u93_2⟩ := Q93
                replace N0 := Fr.app N0 Nq93
                replace Z0 := Zq93
                replace V_b84 := Vq93
                refine own_st st93 ?_
                show own_Go p e below G (T93.setTop (mkF m 378 #[iv x0, iv x1, iv x2, iv x3, iv 3, iv k0, iv y28, rv b1, own_dv (FP.l2d w0), .second, own_dv (FP.l2d w1), .second, own_dv (FP.l2d w2), .second, own_dv (FP.l2d w3), .second, iv e0', iv e1', iv e2', iv e3', s20, own_dv (FP.l2d g), .second, .unset, .unset, rv b84] []))
                refine own_st (fun t k => XS.aload X93.here hx rfl (hb hby at_378) rfl rfl  k) ?_
                refine own_st (fun t k => XS.iload X93.here hx rfl (hb hby at_380) rfl  k) ?_
                refine own_st (fun t k => XS.iconst X93.here hx rfl (hb hby at_382) k) ?_
                show own_Go p e below G (T93.setTop (mkF m 383 #[iv x0, iv x1, iv x2, iv x3, iv 3, iv k0, iv y28, rv b1, own_dv (FP.l2d w0), .second, own_dv (FP.l2d w1), .second, own_dv (FP.l2d w2), .second, own_dv (FP.l2d w3), .second, iv e0', iv e1', iv e2', iv e3', s20, own_dv (FP.l2d g), .second, .unset, .unset, rv b84] [(.int (1 : Int32)), (.int (3 : Int32)), (.ref b84)]))
                refine own_st (fun t k => XS.isub X93.here hx rfl (hb hby at_383) rfl k) ?_
                show own_Go p e below G (T93.setTop (mkF m 384 #[iv x0, iv x1, iv x2, iv x3, iv 3, iv k0, iv y28, rv b1, own_dv (FP.l2d w0), .second, own_dv (FP.l2d w1), .second, own_dv (FP.l2d w2), .second, own_dv (FP.l2d w3), .second, iv e0', iv e1', iv e2', iv e3', s20, own_dv (FP.l2d g), .second, .unset, .unset, rv b84] [(.int (2 : Int32)), (.ref b84)]))
                have Vc94 := V_b84
                obtain ⟨cl94, Ar94, -, Sa94, -, Ha94, -⟩ := Vc94
                have hin94 : ¬ ((2 : Int32) < 0 ∨ cl94.slots.size ≤ ((2 : Int32)).toNatClampNeg) := inb_of Sa94 ⟨by decide, by decide⟩
                refine own_st (fun t k => X93.daload hx (j := (2 : Int32)) (v := (.double (FP.l2d u93_2))) (by exact Ar94.1) (State.isArrayOf_alike hZ.alike Ar94.2.1) Ar94.2.2 hin94 (Ha94.at hin94 rfl) (g := (mkF m 384 #[iv x0, iv x1, iv x2, iv x3, iv 3, iv k0, iv y28, rv b1, own_dv (FP.l2d w0), .second, own_dv (FP.l2d w1), .second, own_dv (FP.l2d w2), .second, own_dv (FP.l2d w3), .second, iv e0', iv e1', iv e2', iv e3', s20, own_dv (FP.l2d g), .second, .unset, .unset, rv b84] [(.int (2 : Int32)), (.ref b84)])) rfl rfl (hb hby at_384) t k) ?_
                show own_Go p e below G (T93.setTop (mkF m 385 #[iv x0, iv x1, iv x2, iv x3, iv 3, iv k0, iv y28, rv b1, own_dv (FP.l2d w0), .second, own_dv (FP.l2d w1), .second, own_dv (FP.l2d w2), .second, own_dv (FP.l2d w3), .second, iv e0', iv e1', iv e2', iv e3', s20, own_dv (FP.l2d g), .second, .unset, .unset, rv b84] [(.double (FP.l2d u93_2))]))
                refine own_st (fun t k => XS.dstore X93.here hx rfl (hb hby at_385) rfl (l' := #[iv x0, iv x1, iv x2, iv x3, iv 3, iv k0, iv y28, rv b1, own_dv (FP.l2d w0), .second, own_dv (FP.l2d w1), .second, own_dv (FP.l2d w2), .second, own_dv (FP.l2d w3), .second, iv e0', iv e1', iv e2', iv e3', s20, own_dv (FP.l2d g), .second, own_dv (FP.l2d u93_2), .second, rv b84]) rfl k) ?_
                refine own_st (fun t k => XS.dload X93.here hx rfl (hb hby at_387) rfl  k) ?_
                refine own_st (fun t k => XS.dload X93.here hx rfl (hb hby at_389) rfl  k) ?_
                show own_Go p e below G (T93.setTop (mkF m 391 #[iv x0, iv x1, iv x2, iv x3, iv 3, iv k0, iv y28, rv b1, own_dv (FP.l2d w0), .second, own_dv (FP.l2d w1), .second, own_dv (FP.l2d w2), .second, own_dv (FP.l2d w3), .second, iv e0', iv e1', iv e2', iv e3', s20, own_dv (FP.l2d g), .second, own_dv (FP.l2d u93_2), .second, rv b84] [(.double (FP.l2d u93_2)), (.double (FP.l2d g))]))
                refine own_st (fun t k => XS.dcmpS X93.here hx rfl (hb hby at_391) rfl (dcmpV_w (own_b53 hgb) (own_b53 hb_u93_2) _) k) ?_
                show own_Go p e below G (T93.setTop (mkF m 392 #[iv x0, iv x1, iv x2, iv x3, iv 3, iv k0, iv y28, rv b1, own_dv (FP.l2d w0), .second, own_dv (FP.l2d w1), .second, own_dv (FP.l2d w2), .second, own_dv (FP.l2d w3), .second, iv e0', iv e1', iv e2', iv e3', s20, own_dv (FP.l2d g), .second, own_dv (FP.l2d u93_2), .second, rv b84] [(.int (lcmpW g u93_2))]))
                refine own_st (fun t k => XS.ifNo X93.here hx rfl (hb hby at_392) rfl ((if0 _ _).trans (teq ((lw_eq _ _).2 (Int64.toInt_inj.mp (by simp only [own_nth, ← hp0, ← hp1, ← hp2, ← hp3] at hg; omega)))).2) k) ?_
                show own_Go p e below G (T93.setTop (mkF m 395 #[iv x0, iv x1, iv x2, iv x3, iv 3, iv k0, iv y28, rv b1, own_dv (FP.l2d w0), .second, own_dv (FP.l2d w1), .second, own_dv (FP.l2d w2), .second, own_dv (FP.l2d w3), .second, iv e0', iv e1', iv e2', iv e3', s20, own_dv (FP.l2d g), .second, own_dv (FP.l2d u93_2), .second, rv b84] []))
                refine own_st (fun t k => XS.iconst X93.here hx rfl (hb hby at_395) k) ?_
                refine own_st (fun t k => XS.goto X93.here hx rfl (pc0 := 396) (pc' := 400) rfl (hb hby at_396) (by decide) (by decide) k) ?_
                show own_Go p e below G (T93.setTop (mkF m 400 #[iv x0, iv x1, iv x2, iv x3, iv 3, iv k0, iv y28, rv b1, own_dv (FP.l2d w0), .second, own_dv (FP.l2d w1), .second, own_dv (FP.l2d w2), .second, own_dv (FP.l2d w3), .second, iv e0', iv e1', iv e2', iv e3', s20, own_dv (FP.l2d g), .second, own_dv (FP.l2d u93_2), .second, rv b84] [(.int (1 : Int32))]))
                rw [hG]
                exact own_retZ X93 hx hlk (t := .boolean) hret (by simp) (hb hby at_400) ⟨rfl, N0⟩ (by decide) (by decide)
              by_cases c331_95 : (3 : Int32) < k0
              · skip
                refine own_st (fun t k => XS.icmpNo X87.here hx rfl (hb hby at_331) rfl (tlt c331_95).2.2.2 k) ?_
                show own_Go p e below G (T87.setTop (mkF m 334 #[iv x0, iv x1, iv x2, iv x3, iv 3, iv k0, iv y28, rv b1, own_dv (FP.l2d w0), .second, own_dv (FP.l2d w1), .second, own_dv (FP.l2d w2), .second, own_dv (FP.l2d w3), .second, iv e0', iv e1', iv e2', iv e3', s20, own_dv (FP.l2d g), .second, .unset, .unset, rv b84] [(.int (3 : Int32)), (.ref b84)]))
                refine own_st (fun t k => XS.dload X87.here hx rfl (hb hby at_334) rfl  k) ?_
                refine own_st (fun t k => XS.goto X87.here hx rfl (pc0 := 336) (pc' := 342) rfl (hb hby at_336) (by decide) (by decide) k) ?_
                show own_Go p e below G (T87.setTop (mkF m 342 #[iv x0, iv x1, iv x2, iv x3, iv 3, iv k0, iv y28, rv b1, own_dv (FP.l2d w0), .second, own_dv (FP.l2d w1), .second, own_dv (FP.l2d w2), .second, own_dv (FP.l2d w3), .second, iv e0', iv e1', iv e2', iv e3', s20, own_dv (FP.l2d g), .second, .unset, .unset, rv b84] [(.double (FP.l2d w3)), (.int (3 : Int32)), (.ref b84)]))
                have hlt : (3 : Int) < k0.toInt := by have q := c331_95; rw [Int32.lt_iff_toInt_lt] at q; have z : ((3 : Int32)).toInt = 3 := rfl; omega
                exact J342 w3 (by unfold own_pad; rw [if_pos hlt]) (own_wb hw3)
              · skip
                refine own_st (fun t k => XS.icmpYes X87.here hx rfl (pc0 := 331) (pc' := 339) rfl (hb hby at_331) rfl (flt c331_95).2.2.2 (by decide) (by decide) k) ?_
                show own_Go p e below G (T87.setTop (mkF m 339 #[iv x0, iv x1, iv x2, iv x3, iv 3, iv k0, iv y28, rv b1, own_dv (FP.l2d w0), .second, own_dv (FP.l2d w1), .second, own_dv (FP.l2d w2), .second, own_dv (FP.l2d w3), .second, iv e0', iv e1', iv e2', iv e3', s20, own_dv (FP.l2d g), .second, .unset, .unset, rv b84] [(.int (3 : Int32)), (.ref b84)]))
                refine own_st (fun t k => X87.ldc2DoubleC hx hown (mvT hZ (hw _ (List.mem_of_getElem? (i := 35) rfl))) (g := (mkF m 339 #[iv x0, iv x1, iv x2, iv x3, iv 3, iv k0, iv y28, rv b1, own_dv (FP.l2d w0), .second, own_dv (FP.l2d w1), .second, own_dv (FP.l2d w2), .second, own_dv (FP.l2d w3), .second, iv e0', iv e1', iv e2', iv e3', s20, own_dv (FP.l2d g), .second, .unset, .unset, rv b84] [(.int (3 : Int32)), (.ref b84)])) rfl (hb hby at_339) t k) ?_
                show own_Go p e below G (T87.setTop (mkF m 342 #[iv x0, iv x1, iv x2, iv x3, iv 3, iv k0, iv y28, rv b1, own_dv (FP.l2d w0), .second, own_dv (FP.l2d w1), .second, own_dv (FP.l2d w2), .second, own_dv (FP.l2d w3), .second, iv e0', iv e1', iv e2', iv e3', s20, own_dv (FP.l2d g), .second, .unset, .unset, rv b84] [(.double (13860109328209412096 : UInt64)), (.int (3 : Int32)), (.ref b84)]))
                rw [own_m100]
                have hlt : ¬ (3 : Int) < k0.toInt := by have q := c331_95; rw [Int32.lt_iff_toInt_lt] at q; have z : ((3 : Int32)).toInt = 3 := rfl; omega
                exact J342 (-100) (by unfold own_pad; rw [if_neg hlt]; decide) (by unfold own_b; decide)
            by_cases c313_96 : (2 : Int32) < k0
            · skip
              refine own_st (fun t k => XS.icmpNo X86.here hx rfl (hb hby at_313) rfl (tlt c313_96).2.2.2 k) ?_
              show own_Go p e below G (T86.setTop (mkF m 316 #[iv x0, iv x1, iv x2, iv x3, iv 3, iv k0, iv y28, rv b1, own_dv (FP.l2d w0), .second, own_dv (FP.l2d w1), .second, own_dv (FP.l2d w2), .second, own_dv (FP.l2d w3), .second, iv e0', iv e1', iv e2', iv e3', s20, own_dv (FP.l2d g), .second, .unset, .unset, rv b84] [(.int (2 : Int32)), (.ref b84)]))
              refine own_st (fun t k => XS.dload X86.here hx rfl (hb hby at_316) rfl  k) ?_
              refine own_st (fun t k => XS.goto X86.here hx rfl (pc0 := 318) (pc' := 324) rfl (hb hby at_318) (by decide) (by decide) k) ?_
              show own_Go p e below G (T86.setTop (mkF m 324 #[iv x0, iv x1, iv x2, iv x3, iv 3, iv k0, iv y28, rv b1, own_dv (FP.l2d w0), .second, own_dv (FP.l2d w1), .second, own_dv (FP.l2d w2), .second, own_dv (FP.l2d w3), .second, iv e0', iv e1', iv e2', iv e3', s20, own_dv (FP.l2d g), .second, .unset, .unset, rv b84] [(.double (FP.l2d w2)), (.int (2 : Int32)), (.ref b84)]))
              have hlt : (2 : Int) < k0.toInt := by have q := c313_96; rw [Int32.lt_iff_toInt_lt] at q; have z : ((2 : Int32)).toInt = 2 := rfl; omega
              exact J324 w2 (by unfold own_pad; rw [if_pos hlt]) (own_wb hw2)
            · skip
              refine own_st (fun t k => XS.icmpYes X86.here hx rfl (pc0 := 313) (pc' := 321) rfl (hb hby at_313) rfl (flt c313_96).2.2.2 (by decide) (by decide) k) ?_
              show own_Go p e below G (T86.setTop (mkF m 321 #[iv x0, iv x1, iv x2, iv x3, iv 3, iv k0, iv y28, rv b1, own_dv (FP.l2d w0), .second, own_dv (FP.l2d w1), .second, own_dv (FP.l2d w2), .second, own_dv (FP.l2d w3), .second, iv e0', iv e1', iv e2', iv e3', s20, own_dv (FP.l2d g), .second, .unset, .unset, rv b84] [(.int (2 : Int32)), (.ref b84)]))
              refine own_st (fun t k => X86.ldc2DoubleC hx hown (mvT hZ (hw _ (List.mem_of_getElem? (i := 35) rfl))) (g := (mkF m 321 #[iv x0, iv x1, iv x2, iv x3, iv 3, iv k0, iv y28, rv b1, own_dv (FP.l2d w0), .second, own_dv (FP.l2d w1), .second, own_dv (FP.l2d w2), .second, own_dv (FP.l2d w3), .second, iv e0', iv e1', iv e2', iv e3', s20, own_dv (FP.l2d g), .second, .unset, .unset, rv b84] [(.int (2 : Int32)), (.ref b84)])) rfl (hb hby at_321) t k) ?_
              show own_Go p e below G (T86.setTop (mkF m 324 #[iv x0, iv x1, iv x2, iv x3, iv 3, iv k0, iv y28, rv b1, own_dv (FP.l2d w0), .second, own_dv (FP.l2d w1), .second, own_dv (FP.l2d w2), .second, own_dv (FP.l2d w3), .second, iv e0', iv e1', iv e2', iv e3', s20, own_dv (FP.l2d g), .second, .unset, .unset, rv b84] [(.double (13860109328209412096 : UInt64)), (.int (2 : Int32)), (.ref b84)]))
              rw [own_m100]
              have hlt : ¬ (2 : Int) < k0.toInt := by have q := c313_96; rw [Int32.lt_iff_toInt_lt] at q; have z : ((2 : Int32)).toInt = 2 := rfl; omega
              exact J324 (-100) (by unfold own_pad; rw [if_neg hlt]; decide) (by unfold own_b; decide)
          by_cases c295_97 : (1 : Int32) < k0
          · skip
            refine own_st (fun t k => XS.icmpNo X85.here hx rfl (hb hby at_295) rfl (tlt c295_97).2.2.2 k) ?_
            show own_Go p e below G (T85.setTop (mkF m 298 #[iv x0, iv x1, iv x2, iv x3, iv 3, iv k0, iv y28, rv b1, own_dv (FP.l2d w0), .second, own_dv (FP.l2d w1), .second, own_dv (FP.l2d w2), .second, own_dv (FP.l2d w3), .second, iv e0', iv e1', iv e2', iv e3', s20, own_dv (FP.l2d g), .second, .unset, .unset, rv b84] [(.int (1 : Int32)), (.ref b84)]))
            refine own_st (fun t k => XS.dload X85.here hx rfl (hb hby at_298) rfl  k) ?_
            refine own_st (fun t k => XS.goto X85.here hx rfl (pc0 := 300) (pc' := 306) rfl (hb hby at_300) (by decide) (by decide) k) ?_
            show own_Go p e below G (T85.setTop (mkF m 306 #[iv x0, iv x1, iv x2, iv x3, iv 3, iv k0, iv y28, rv b1, own_dv (FP.l2d w0), .second, own_dv (FP.l2d w1), .second, own_dv (FP.l2d w2), .second, own_dv (FP.l2d w3), .second, iv e0', iv e1', iv e2', iv e3', s20, own_dv (FP.l2d g), .second, .unset, .unset, rv b84] [(.double (FP.l2d w1)), (.int (1 : Int32)), (.ref b84)]))
            have hlt : (1 : Int) < k0.toInt := by have q := c295_97; rw [Int32.lt_iff_toInt_lt] at q; have z : ((1 : Int32)).toInt = 1 := rfl; omega
            exact J306 w1 (by unfold own_pad; rw [if_pos hlt]) (own_wb hw1)
          · skip
            refine own_st (fun t k => XS.icmpYes X85.here hx rfl (pc0 := 295) (pc' := 303) rfl (hb hby at_295) rfl (flt c295_97).2.2.2 (by decide) (by decide) k) ?_
            show own_Go p e below G (T85.setTop (mkF m 303 #[iv x0, iv x1, iv x2, iv x3, iv 3, iv k0, iv y28, rv b1, own_dv (FP.l2d w0), .second, own_dv (FP.l2d w1), .second, own_dv (FP.l2d w2), .second, own_dv (FP.l2d w3), .second, iv e0', iv e1', iv e2', iv e3', s20, own_dv (FP.l2d g), .second, .unset, .unset, rv b84] [(.int (1 : Int32)), (.ref b84)]))
            refine own_st (fun t k => X85.ldc2DoubleC hx hown (mvT hZ (hw _ (List.mem_of_getElem? (i := 35) rfl))) (g := (mkF m 303 #[iv x0, iv x1, iv x2, iv x3, iv 3, iv k0, iv y28, rv b1, own_dv (FP.l2d w0), .second, own_dv (FP.l2d w1), .second, own_dv (FP.l2d w2), .second, own_dv (FP.l2d w3), .second, iv e0', iv e1', iv e2', iv e3', s20, own_dv (FP.l2d g), .second, .unset, .unset, rv b84] [(.int (1 : Int32)), (.ref b84)])) rfl (hb hby at_303) t k) ?_
            show own_Go p e below G (T85.setTop (mkF m 306 #[iv x0, iv x1, iv x2, iv x3, iv 3, iv k0, iv y28, rv b1, own_dv (FP.l2d w0), .second, own_dv (FP.l2d w1), .second, own_dv (FP.l2d w2), .second, own_dv (FP.l2d w3), .second, iv e0', iv e1', iv e2', iv e3', s20, own_dv (FP.l2d g), .second, .unset, .unset, rv b84] [(.double (13860109328209412096 : UInt64)), (.int (1 : Int32)), (.ref b84)]))
            rw [own_m100]
            have hlt : ¬ (1 : Int) < k0.toInt := by have q := c295_97; rw [Int32.lt_iff_toInt_lt] at q; have z : ((1 : Int32)).toInt = 1 := rfl; omega
            exact J306 (-100) (by unfold own_pad; rw [if_neg hlt]; decide) (by unfold own_b; decide)
        by_cases c277_98 : (0 : Int32) < k0
        · skip
          refine own_st (fun t k => XS.ifNo X84.here hx rfl (hb hby at_277) rfl ((if0 _ _).trans (tlt c277_98).2.2.2) k) ?_
          show own_Go p e below G (T84.setTop (mkF m 280 #[iv x0, iv x1, iv x2, iv x3, iv 3, iv k0, iv y28, rv b1, own_dv (FP.l2d w0), .second, own_dv (FP.l2d w1), .second, own_dv (FP.l2d w2), .second, own_dv (FP.l2d w3), .second, iv e0', iv e1', iv e2', iv e3', s20, own_dv (FP.l2d g), .second, .unset, .unset, rv b84] [(.int (0 : Int32)), (.ref b84)]))
          refine own_st (fun t k => XS.dload X84.here hx rfl (hb hby at_280) rfl  k) ?_
          refine own_st (fun t k => XS.goto X84.here hx rfl (pc0 := 282) (pc' := 288) rfl (hb hby at_282) (by decide) (by decide) k) ?_
          show own_Go p e below G (T84.setTop (mkF m 288 #[iv x0, iv x1, iv x2, iv x3, iv 3, iv k0, iv y28, rv b1, own_dv (FP.l2d w0), .second, own_dv (FP.l2d w1), .second, own_dv (FP.l2d w2), .second, own_dv (FP.l2d w3), .second, iv e0', iv e1', iv e2', iv e3', s20, own_dv (FP.l2d g), .second, .unset, .unset, rv b84] [(.double (FP.l2d w0)), (.int (0 : Int32)), (.ref b84)]))
          have hlt : (0 : Int) < k0.toInt := by have q := c277_98; rw [Int32.lt_iff_toInt_lt] at q; have z : ((0 : Int32)).toInt = 0 := rfl; omega
          exact J288 w0 (by unfold own_pad; rw [if_pos hlt]) (own_wb hw0)
        · skip
          refine own_st (fun t k => XS.ifYes X84.here hx rfl (pc0 := 277) (pc' := 285) rfl (hb hby at_277) rfl ((if0 _ _).trans (flt c277_98).2.2.2) (by decide) (by decide) k) ?_
          show own_Go p e below G (T84.setTop (mkF m 285 #[iv x0, iv x1, iv x2, iv x3, iv 3, iv k0, iv y28, rv b1, own_dv (FP.l2d w0), .second, own_dv (FP.l2d w1), .second, own_dv (FP.l2d w2), .second, own_dv (FP.l2d w3), .second, iv e0', iv e1', iv e2', iv e3', s20, own_dv (FP.l2d g), .second, .unset, .unset, rv b84] [(.int (0 : Int32)), (.ref b84)]))
          refine own_st (fun t k => X84.ldc2DoubleC hx hown (mvT hZ (hw _ (List.mem_of_getElem? (i := 35) rfl))) (g := (mkF m 285 #[iv x0, iv x1, iv x2, iv x3, iv 3, iv k0, iv y28, rv b1, own_dv (FP.l2d w0), .second, own_dv (FP.l2d w1), .second, own_dv (FP.l2d w2), .second, own_dv (FP.l2d w3), .second, iv e0', iv e1', iv e2', iv e3', s20, own_dv (FP.l2d g), .second, .unset, .unset, rv b84] [(.int (0 : Int32)), (.ref b84)])) rfl (hb hby at_285) t k) ?_
          show own_Go p e below G (T84.setTop (mkF m 288 #[iv x0, iv x1, iv x2, iv x3, iv 3, iv k0, iv y28, rv b1, own_dv (FP.l2d w0), .second, own_dv (FP.l2d w1), .second, own_dv (FP.l2d w2), .second, own_dv (FP.l2d w3), .second, iv e0', iv e1', iv e2', iv e3', s20, own_dv (FP.l2d g), .second, .unset, .unset, rv b84] [(.double (13860109328209412096 : UInt64)), (.int (0 : Int32)), (.ref b84)]))
          rw [own_m100]
          have hlt : ¬ (0 : Int) < k0.toInt := by have q := c277_98; rw [Int32.lt_iff_toInt_lt] at q; have z : ((0 : Int32)).toInt = 0 := rfl; omega
          exact J288 (-100) (by unfold own_pad; rw [if_neg hlt]; decide) (by unfold own_b; decide)
      obtain ⟨T99, h99, X99, e99, E99, A99, D99, -, st99⟩ := newO X5 hx hZ hown (hw _ (List.mem_of_getElem? (i := 1) rfl)) (hw _ (List.mem_of_getElem? (i := 2) rfl)) (hw _ (List.mem_of_getElem? (i := 3) rfl)) e5 (g := (mkF m 147 #[iv x0, iv x1, iv x2, iv x3, iv 3, iv k0, iv y28, rv b1, own_dv (FP.l2d w0), .second, own_dv (FP.l2d w1), .second, own_dv (FP.l2d w2), .second, own_dv (FP.l2d w3), .second, iv e0', iv e1', iv e2', iv e3', .unset, .unset, .unset, .unset, .unset, .unset] [])) rfl (hb hby at_147) (by decide) (by decide)
      obtain ⟨b99, gb99⟩ : ∃ z, z = h5.size := ⟨_, rfl⟩
      rw [← gb99] at A99 D99 st99
      have g_b99 : n0 ≤ b99 := Nat.le_trans Z0 (Nat.le_of_eq gb99.symm)
      have ne_b1_b99 : b1 ≠ b99 := Nat.ne_of_lt (Nat.lt_of_lt_of_le V_b1.lt (Nat.le_of_eq gb99.symm))
      replace Z0 := Nat.le_trans Z0 E99.1
      replace V_b1 := V_b1.ext E99
      have E_b99 := A99
      have F_numbers_b99 : Fld Z h99 b99 "com/example/thinleaf/thinleaf/prune/Nearest" "numbers" "[I" .null := D99 (Or.inr (hw _ (List.mem_of_getElem? (i := 11) rfl))) (ty := (.array .int)) (by decide)
      have F_cosines_b99 : Fld Z h99 b99 "com/example/thinleaf/thinleaf/prune/Nearest" "cosines" "[D" .null := D99 (Or.inr (hw _ (List.mem_of_getElem? (i := 14) rfl))) (ty := (.array .double)) (by decide)
      have F_places_b99 : Fld Z h99 b99 "com/example/thinleaf/thinleaf/prune/Nearest" "places" "[I" .null := D99 (Or.inr (hw _ (List.mem_of_getElem? (i := 16) rfl))) (ty := (.array .int)) (by decide)
      have F_size_b99 : Fld Z h99 b99 "com/example/thinleaf/thinleaf/prune/Nearest" "size" "I" (.int (0 : Int32)) := D99 (Or.inl (hw _ (List.mem_of_getElem? (i := 23) rfl))) (ty := .int) (by decide)
      refine own_st st99 ?_
      show own_Go p e below G (T99.setTop (mkF m 150 #[iv x0, iv x1, iv x2, iv x3, iv 3, iv k0, iv y28, rv b1, own_dv (FP.l2d w0), .second, own_dv (FP.l2d w1), .second, own_dv (FP.l2d w2), .second, own_dv (FP.l2d w3), .second, iv e0', iv e1', iv e2', iv e3', .unset, .unset, .unset, .unset, .unset, .unset] [(.ref b99)]))
      refine own_st (fun t k => XS.dup X99.here hx rfl (hb hby at_150) rfl rfl k) ?_
      refine own_st (fun t k => XS.iload X99.here hx rfl (hb hby at_151) rfl  k) ?_
      refine own_st (fun t k => XS.iload X99.here hx rfl (hb hby at_153) rfl  k) ?_
      show own_Go p e below G (T99.setTop (mkF m 155 #[iv x0, iv x1, iv x2, iv x3, iv 3, iv k0, iv y28, rv b1, own_dv (FP.l2d w0), .second, own_dv (FP.l2d w1), .second, own_dv (FP.l2d w2), .second, own_dv (FP.l2d w3), .second, iv e0', iv e1', iv e2', iv e3', .unset, .unset, .unset, .unset, .unset, .unset] [(.int y28), (.int (3 : Int32)), (.ref b99), (.ref b99)]))
      have J164 : ∀ (pv : Value) (Pl : own_Pl Z h99 pv [b99]), own_Go p e below G (T99.setTop (mkF m 164 #[iv x0, iv x1, iv x2, iv x3, iv 3, iv k0, iv y28, rv b1, own_dv (FP.l2d w0), .second, own_dv (FP.l2d w1), .second, own_dv (FP.l2d w2), .second, own_dv (FP.l2d w3), .second, iv e0', iv e1', iv e2', iv e3', .unset, .unset, .unset, .unset, .unset, .unset] [pv, (.int (3 : Int32)), (.ref b99), (.ref b99)])) := by
        intro pv Pl
        obtain ⟨v100, T100, L100, X100, Q100, st100⟩ := own_callC X99 hx hZ (y := (⟨"com/example/thinleaf/thinleaf/prune/Nearest", "<init>", "(I[I)V"⟩ : MethodName)) rfl hown (hw _ (List.mem_of_getElem? (i := 4) rfl)) (hw _ (List.mem_of_getElem? (i := 5) rfl)) (hw _ (List.mem_of_getElem? (i := 3) rfl)) (hw _ (List.mem_of_getElem? (i := 6) rfl)) (by decide) (W := 1) (rmC3 l Z a0 hw b99 pv h99 n0 Z0 g_b99 Pl E_b99 F_numbers_b99 F_cosines_b99 F_places_b99 F_size_b99) (by decide) (by decide) e99 (g := (mkF m 164 #[iv x0, iv x1, iv x2, iv x3, iv 3, iv k0, iv y28, rv b1, own_dv (FP.l2d w0), .second, own_dv (FP.l2d w1), .second, own_dv (FP.l2d w2), .second, own_dv (FP.l2d w3), .second, iv e0', iv e1', iv e2', iv e3', .unset, .unset, .unset, .unset, .unset, .unset] [pv, (.int (3 : Int32)), (.ref b99), (.ref b99)])) rfl (by rw [hml]; rfl) (a := b99) (argsL := [(.int (3 : Int32)), pv]) (rest := [(.ref b99)]) own_pd2 rfl rfl (by show 2 * 0 + _ ≤ _; exact Nat.le_of_eq rfl) (hb hby at_164) rfl (by decide) (by decide)
        obtain ⟨rfl, Nq, bn, bc, kn, kc, NB0⟩ := Q100
        replace N0 := Fr.app N0 Nq
        refine own_st st100 ?_
        show own_Go p e below G (T100.setTop (mkF m 167 #[iv x0, iv x1, iv x2, iv x3, iv 3, iv k0, iv y28, rv b1, own_dv (FP.l2d w0), .second, own_dv (FP.l2d w1), .second, own_dv (FP.l2d w2), .second, own_dv (FP.l2d w3), .second, iv e0', iv e1', iv e2', iv e3', .unset, .unset, .unset, .unset, .unset, .unset] [(.ref b99)]))
        refine own_st (fun t k => XS.astore X100.here hx rfl (hb hby at_167) rfl rfl (l' := #[iv x0, iv x1, iv x2, iv x3, iv 3, iv k0, iv y28, rv b1, own_dv (FP.l2d w0), .second, own_dv (FP.l2d w1), .second, own_dv (FP.l2d w2), .second, own_dv (FP.l2d w3), .second, iv e0', iv e1', iv e2', iv e3', rv b99, .unset, .unset, .unset, .unset, .unset]) rfl k) ?_
        refine own_st (fun t k => XS.iload X100.here hx rfl (hb hby at_169) rfl  k) ?_
        show own_Go p e below G (T100.setTop (mkF m 171 #[iv x0, iv x1, iv x2, iv x3, iv 3, iv k0, iv y28, rv b1, own_dv (FP.l2d w0), .second, own_dv (FP.l2d w1), .second, own_dv (FP.l2d w2), .second, own_dv (FP.l2d w3), .second, iv e0', iv e1', iv e2', iv e3', rv b99, .unset, .unset, .unset, .unset, .unset] [(.int k0)]))
        by_cases c171_101 : (0 : Int32) < k0
        · skip
          refine own_st (fun t k => XS.ifNo X100.here hx rfl (hb hby at_171) rfl ((if0 _ _).trans (tlt c171_101).2.2.2) k) ?_
          show own_Go p e below G (T100.setTop (mkF m 174 #[iv x0, iv x1, iv x2, iv x3, iv 3, iv k0, iv y28, rv b1, own_dv (FP.l2d w0), .second, own_dv (FP.l2d w1), .second, own_dv (FP.l2d w2), .second, own_dv (FP.l2d w3), .second, iv e0', iv e1', iv e2', iv e3', rv b99, .unset, .unset, .unset, .unset, .unset] []))
          refine own_st (fun t k => XS.aload X100.here hx rfl (hb hby at_174) rfl rfl  k) ?_
          refine own_st (fun t k => XS.iload X100.here hx rfl (hb hby at_176) rfl  k) ?_
          refine own_st (fun t k => XS.dload X100.here hx rfl (hb hby at_178) rfl  k) ?_
          show own_Go p e below G (T100.setTop (mkF m 180 #[iv x0, iv x1, iv x2, iv x3, iv 3, iv k0, iv y28, rv b1, own_dv (FP.l2d w0), .second, own_dv (FP.l2d w1), .second, own_dv (FP.l2d w2), .second, own_dv (FP.l2d w3), .second, iv e0', iv e1', iv e2', iv e3', rv b99, .unset, .unset, .unset, .unset, .unset] [(.double (FP.l2d w0)), (.int e0'), (.ref b99)]))
          obtain ⟨v102, T102, L102, X102, Q102, st102⟩ := own_callV X100 hx hZ (y := (⟨"com/example/thinleaf/thinleaf/prune/Nearest", "offer", "(ID)Z"⟩ : MethodName)) (z := (⟨"com/example/thinleaf/thinleaf/prune/Nearest", "offer", "(ID)Z"⟩ : MethodName)) hown (hw _ (List.mem_of_getElem? (i := 26) rfl)) (hw _ (List.mem_of_getElem? (i := 27) rfl)) (notFace_of_selects (args := #[]) (mvT hZ (hw _ (List.mem_of_getElem? (i := 29) rfl)))) (hw _ (List.mem_of_getElem? (i := 29) rfl)) (hw _ (List.mem_of_getElem? (i := 28) rfl)) (hw _ (List.mem_of_getElem? (i := 3) rfl)) (hw _ (List.mem_of_getElem? (i := 30) rfl)) (by decide) (W := 0) (rmO30 l Z a0 hw b99 bn bc kn kc pv e0' w0   T100.heap n0 NB0  hd0 (own_wb hw0)) (by decide) (by decide) rfl (NB0).1 (g := (mkF m 180 #[iv x0, iv x1, iv x2, iv x3, iv 3, iv k0, iv y28, rv b1, own_dv (FP.l2d w0), .second, own_dv (FP.l2d w1), .second, own_dv (FP.l2d w2), .second, own_dv (FP.l2d w3), .second, iv e0', iv e1', iv e2', iv e3', rv b99, .unset, .unset, .unset, .unset, .unset] [(.double (FP.l2d w0)), (.int e0'), (.ref b99)])) rfl (by rw [hml]; rfl) (argsL := [(.int e0'), (.double (FP.l2d w0))]) (rest := []) own_pd3 rfl rfl (by show 2 * 0 + _ ≤ _; exact Nat.le_of_eq rfl) (hb hby at_180) rfl (by decide) (by decide)
          obtain ⟨⟨z102, rfl⟩, Nq102, m0_0, d0_0, NB1, hm_m0_0, hb_d0_0, hR0⟩ := Q102
          replace N0 := Fr.app N0 Nq102
          refine own_st st102 ?_
          show own_Go p e below G (T102.setTop (mkF m 183 #[iv x0, iv x1, iv x2, iv x3, iv 3, iv k0, iv y28, rv b1, own_dv (FP.l2d w0), .second, own_dv (FP.l2d w1), .second, own_dv (FP.l2d w2), .second, own_dv (FP.l2d w3), .second, iv e0', iv e1', iv e2', iv e3', rv b99, .unset, .unset, .unset, .unset, .unset] [(.int z102)]))
          refine own_st (fun t k => XS.pop X102.here hx rfl (hb hby at_183) rfl rfl k) ?_
          refine own_st (fun t k => XS.iload X102.here hx rfl (hb hby at_184) rfl  k) ?_
          refine own_st (fun t k => XS.iconst X102.here hx rfl (hb hby at_186) k) ?_
          show own_Go p e below G (T102.setTop (mkF m 187 #[iv x0, iv x1, iv x2, iv x3, iv 3, iv k0, iv y28, rv b1, own_dv (FP.l2d w0), .second, own_dv (FP.l2d w1), .second, own_dv (FP.l2d w2), .second, own_dv (FP.l2d w3), .second, iv e0', iv e1', iv e2', iv e3', rv b99, .unset, .unset, .unset, .unset, .unset] [(.int (1 : Int32)), (.int k0)]))
          by_cases c187_103 : (1 : Int32) < k0
          · skip
            refine own_st (fun t k => XS.icmpNo X102.here hx rfl (hb hby at_187) rfl (tlt c187_103).2.2.2 k) ?_
            show own_Go p e below G (T102.setTop (mkF m 190 #[iv x0, iv x1, iv x2, iv x3, iv 3, iv k0, iv y28, rv b1, own_dv (FP.l2d w0), .second, own_dv (FP.l2d w1), .second, own_dv (FP.l2d w2), .second, own_dv (FP.l2d w3), .second, iv e0', iv e1', iv e2', iv e3', rv b99, .unset, .unset, .unset, .unset, .unset] []))
            refine own_st (fun t k => XS.aload X102.here hx rfl (hb hby at_190) rfl rfl  k) ?_
            refine own_st (fun t k => XS.iload X102.here hx rfl (hb hby at_192) rfl  k) ?_
            refine own_st (fun t k => XS.dload X102.here hx rfl (hb hby at_194) rfl  k) ?_
            show own_Go p e below G (T102.setTop (mkF m 196 #[iv x0, iv x1, iv x2, iv x3, iv 3, iv k0, iv y28, rv b1, own_dv (FP.l2d w0), .second, own_dv (FP.l2d w1), .second, own_dv (FP.l2d w2), .second, own_dv (FP.l2d w3), .second, iv e0', iv e1', iv e2', iv e3', rv b99, .unset, .unset, .unset, .unset, .unset] [(.double (FP.l2d w1)), (.int e1'), (.ref b99)]))
            obtain ⟨v104, T104, L104, X104, Q104, st104⟩ := own_callV X102 hx hZ (y := (⟨"com/example/thinleaf/thinleaf/prune/Nearest", "offer", "(ID)Z"⟩ : MethodName)) (z := (⟨"com/example/thinleaf/thinleaf/prune/Nearest", "offer", "(ID)Z"⟩ : MethodName)) hown (hw _ (List.mem_of_getElem? (i := 26) rfl)) (hw _ (List.mem_of_getElem? (i := 27) rfl)) (notFace_of_selects (args := #[]) (mvT hZ (hw _ (List.mem_of_getElem? (i := 29) rfl)))) (hw _ (List.mem_of_getElem? (i := 29) rfl)) (hw _ (List.mem_of_getElem? (i := 28) rfl)) (hw _ (List.mem_of_getElem? (i := 3) rfl)) (hw _ (List.mem_of_getElem? (i := 30) rfl)) (by decide) (W := 0) (rmO31 l Z a0 hw b99 bn bc kn kc pv e1' w1 m0_0 d0_0 T102.heap n0 NB1 hm_m0_0 hb_d0_0 hd1 (own_wb hw1)) (by decide) (by decide) rfl (NB1).1 (g := (mkF m 196 #[iv x0, iv x1, iv x2, iv x3, iv 3, iv k0, iv y28, rv b1, own_dv (FP.l2d w0), .second, own_dv (FP.l2d w1), .second, own_dv (FP.l2d w2), .second, own_dv (FP.l2d w3), .second, iv e0', iv e1', iv e2', iv e3', rv b99, .unset, .unset, .unset, .unset, .unset] [(.double (FP.l2d w1)), (.int e1'), (.ref b99)])) rfl (by rw [hml]; rfl) (argsL := [(.int e1'), (.double (FP.l2d w1))]) (rest := []) own_pd3 rfl rfl (by show 2 * 0 + _ ≤ _; exact Nat.le_of_eq rfl) (hb hby at_196) rfl (by decide) (by decide)
            obtain ⟨⟨z104, rfl⟩, Nq104, m1_0, m1_1, d1_0, d1_1, NB2, hm_m1_0, hb_d1_0, hm_m1_1, hb_d1_1, hR1⟩ := Q104
            replace N0 := Fr.app N0 Nq104
            refine own_st st104 ?_
            show own_Go p e below G (T104.setTop (mkF m 199 #[iv x0, iv x1, iv x2, iv x3, iv 3, iv k0, iv y28, rv b1, own_dv (FP.l2d w0), .second, own_dv (FP.l2d w1), .second, own_dv (FP.l2d w2), .second, own_dv (FP.l2d w3), .second, iv e0', iv e1', iv e2', iv e3', rv b99, .unset, .unset, .unset, .unset, .unset] [(.int z104)]))
            refine own_st (fun t k => XS.pop X104.here hx rfl (hb hby at_199) rfl rfl k) ?_
            refine own_st (fun t k => XS.iload X104.here hx rfl (hb hby at_200) rfl  k) ?_
            refine own_st (fun t k => XS.iconst X104.here hx rfl (hb hby at_202) k) ?_
            show own_Go p e below G (T104.setTop (mkF m 203 #[iv x0, iv x1, iv x2, iv x3, iv 3, iv k0, iv y28, rv b1, own_dv (FP.l2d w0), .second, own_dv (FP.l2d w1), .second, own_dv (FP.l2d w2), .second, own_dv (FP.l2d w3), .second, iv e0', iv e1', iv e2', iv e3', rv b99, .unset, .unset, .unset, .unset, .unset] [(.int (2 : Int32)), (.int k0)]))
            by_cases c203_105 : (2 : Int32) < k0
            · skip
              refine own_st (fun t k => XS.icmpNo X104.here hx rfl (hb hby at_203) rfl (tlt c203_105).2.2.2 k) ?_
              show own_Go p e below G (T104.setTop (mkF m 206 #[iv x0, iv x1, iv x2, iv x3, iv 3, iv k0, iv y28, rv b1, own_dv (FP.l2d w0), .second, own_dv (FP.l2d w1), .second, own_dv (FP.l2d w2), .second, own_dv (FP.l2d w3), .second, iv e0', iv e1', iv e2', iv e3', rv b99, .unset, .unset, .unset, .unset, .unset] []))
              refine own_st (fun t k => XS.aload X104.here hx rfl (hb hby at_206) rfl rfl  k) ?_
              refine own_st (fun t k => XS.iload X104.here hx rfl (hb hby at_208) rfl  k) ?_
              refine own_st (fun t k => XS.dload X104.here hx rfl (hb hby at_210) rfl  k) ?_
              show own_Go p e below G (T104.setTop (mkF m 212 #[iv x0, iv x1, iv x2, iv x3, iv 3, iv k0, iv y28, rv b1, own_dv (FP.l2d w0), .second, own_dv (FP.l2d w1), .second, own_dv (FP.l2d w2), .second, own_dv (FP.l2d w3), .second, iv e0', iv e1', iv e2', iv e3', rv b99, .unset, .unset, .unset, .unset, .unset] [(.double (FP.l2d w2)), (.int e2'), (.ref b99)]))
              obtain ⟨v106, T106, L106, X106, Q106, st106⟩ := own_callV X104 hx hZ (y := (⟨"com/example/thinleaf/thinleaf/prune/Nearest", "offer", "(ID)Z"⟩ : MethodName)) (z := (⟨"com/example/thinleaf/thinleaf/prune/Nearest", "offer", "(ID)Z"⟩ : MethodName)) hown (hw _ (List.mem_of_getElem? (i := 26) rfl)) (hw _ (List.mem_of_getElem? (i := 27) rfl)) (notFace_of_selects (args := #[]) (mvT hZ (hw _ (List.mem_of_getElem? (i := 29) rfl)))) (hw _ (List.mem_of_getElem? (i := 29) rfl)) (hw _ (List.mem_of_getElem? (i := 28) rfl)) (hw _ (List.mem_of_getElem? (i := 3) rfl)) (hw _ (List.mem_of_getElem? (i := 30) rfl)) (by decide) (W := 0) (rmO32 l Z a0 hw b99 bn bc kn kc pv e2' w2 m1_0 m1_1 d1_0 d1_1 T104.heap n0 NB2 hm_m1_0 hb_d1_0 hm_m1_1 hb_d1_1 hd2 (own_wb hw2)) (by decide) (by decide) rfl (NB2).1 (g := (mkF m 212 #[iv x0, iv x1, iv x2, iv x3, iv 3, iv k0, iv y28, rv b1, own_dv (FP.l2d w0), .second, own_dv (FP.l2d w1), .second, own_dv (FP.l2d w2), .second, own_dv (FP.l2d w3), .second, iv e0', iv e1', iv e2', iv e3', rv b99, .unset, .unset, .unset, .unset, .unset] [(.double (FP.l2d w2)), (.int e2'), (.ref b99)])) rfl (by rw [hml]; rfl) (argsL := [(.int e2'), (.double (FP.l2d w2))]) (rest := []) own_pd3 rfl rfl (by show 2 * 0 + _ ≤ _; exact Nat.le_of_eq rfl) (hb hby at_212) rfl (by decide) (by decide)
              obtain ⟨⟨z106, rfl⟩, Nq106, m2_0, m2_1, m2_2, d2_0, d2_1, d2_2, NB3, hm_m2_0, hb_d2_0, hm_m2_1, hb_d2_1, hm_m2_2, hb_d2_2, hR2⟩ := Q106
              replace N0 := Fr.app N0 Nq106
              refine own_st st106 ?_
              show own_Go p e below G (T106.setTop (mkF m 215 #[iv x0, iv x1, iv x2, iv x3, iv 3, iv k0, iv y28, rv b1, own_dv (FP.l2d w0), .second, own_dv (FP.l2d w1), .second, own_dv (FP.l2d w2), .second, own_dv (FP.l2d w3), .second, iv e0', iv e1', iv e2', iv e3', rv b99, .unset, .unset, .unset, .unset, .unset] [(.int z106)]))
              refine own_st (fun t k => XS.pop X106.here hx rfl (hb hby at_215) rfl rfl k) ?_
              refine own_st (fun t k => XS.iload X106.here hx rfl (hb hby at_216) rfl  k) ?_
              refine own_st (fun t k => XS.iconst X106.here hx rfl (hb hby at_218) k) ?_
              show own_Go p e below G (T106.setTop (mkF m 219 #[iv x0, iv x1, iv x2, iv x3, iv 3, iv k0, iv y28, rv b1, own_dv (FP.l2d w0), .second, own_dv (FP.l2d w1), .second, own_dv (FP.l2d w2), .second, own_dv (FP.l2d w3), .second, iv e0', iv e1', iv e2', iv e3', rv b99, .unset, .unset, .unset, .unset, .unset] [(.int (3 : Int32)), (.int k0)]))
              by_cases c219_107 : (3 : Int32) < k0
              · skip
                refine own_st (fun t k => XS.icmpNo X106.here hx rfl (hb hby at_219) rfl (tlt c219_107).2.2.2 k) ?_
                show own_Go p e below G (T106.setTop (mkF m 222 #[iv x0, iv x1, iv x2, iv x3, iv 3, iv k0, iv y28, rv b1, own_dv (FP.l2d w0), .second, own_dv (FP.l2d w1), .second, own_dv (FP.l2d w2), .second, own_dv (FP.l2d w3), .second, iv e0', iv e1', iv e2', iv e3', rv b99, .unset, .unset, .unset, .unset, .unset] []))
                refine own_st (fun t k => XS.aload X106.here hx rfl (hb hby at_222) rfl rfl  k) ?_
                refine own_st (fun t k => XS.iload X106.here hx rfl (hb hby at_224) rfl  k) ?_
                refine own_st (fun t k => XS.dload X106.here hx rfl (hb hby at_226) rfl  k) ?_
                show own_Go p e below G (T106.setTop (mkF m 228 #[iv x0, iv x1, iv x2, iv x3, iv 3, iv k0, iv y28, rv b1, own_dv (FP.l2d w0), .second, own_dv (FP.l2d w1), .second, own_dv (FP.l2d w2), .second, own_dv (FP.l2d w3), .second, iv e0', iv e1', iv e2', iv e3', rv b99, .unset, .unset, .unset, .unset, .unset] [(.double (FP.l2d w3)), (.int e3'), (.ref b99)]))
                obtain ⟨v108, T108, L108, X108, Q108, st108⟩ := own_callV X106 hx hZ (y := (⟨"com/example/thinleaf/thinleaf/prune/Nearest", "offer", "(ID)Z"⟩ : MethodName)) (z := (⟨"com/example/thinleaf/thinleaf/prune/Nearest", "offer", "(ID)Z"⟩ : MethodName)) hown (hw _ (List.mem_of_getElem? (i := 26) rfl)) (hw _ (List.mem_of_getElem? (i := 27) rfl)) (notFace_of_selects (args := #[]) (mvT hZ (hw _ (List.mem_of_getElem? (i := 29) rfl)))) (hw _ (List.mem_of_getElem? (i := 29) rfl)) (hw _ (List.mem_of_getElem? (i := 28) rfl)) (hw _ (List.mem_of_getElem? (i := 3) rfl)) (hw _ (List.mem_of_getElem? (i := 30) rfl)) (by decide) (W := 0) (rmO33 l Z a0 hw b99 bn bc kn kc pv e3' w3 m2_0 m2_1 m2_2 d2_0 d2_1 d2_2 T106.heap n0 NB3 hm_m2_0 hb_d2_0 hm_m2_1 hb_d2_1 hm_m2_2 hb_d2_2 hd3 (own_wb hw3)) (by decide) (by decide) rfl (NB3).1 (g := (mkF m 228 #[iv x0, iv x1, iv x2, iv x3, iv 3, iv k0, iv y28, rv b1, own_dv (FP.l2d w0), .second, own_dv (FP.l2d w1), .second, own_dv (FP.l2d w2), .second, own_dv (FP.l2d w3), .second, iv e0', iv e1', iv e2', iv e3', rv b99, .unset, .unset, .unset, .unset, .unset] [(.double (FP.l2d w3)), (.int e3'), (.ref b99)])) rfl (by rw [hml]; rfl) (argsL := [(.int e3'), (.double (FP.l2d w3))]) (rest := []) own_pd3 rfl rfl (by show 2 * 0 + _ ≤ _; exact Nat.le_of_eq rfl) (hb hby at_228) rfl (by decide) (by decide)
                obtain ⟨⟨z108, rfl⟩, Nq108, m3_0, m3_1, m3_2, d3_0, d3_1, d3_2, NB4, hm_m3_0, hb_d3_0, hm_m3_1, hb_d3_1, hm_m3_2, hb_d3_2, hR3⟩ := Q108
                replace N0 := Fr.app N0 Nq108
                refine own_st st108 ?_
                show own_Go p e below G (T108.setTop (mkF m 231 #[iv x0, iv x1, iv x2, iv x3, iv 3, iv k0, iv y28, rv b1, own_dv (FP.l2d w0), .second, own_dv (FP.l2d w1), .second, own_dv (FP.l2d w2), .second, own_dv (FP.l2d w3), .second, iv e0', iv e1', iv e2', iv e3', rv b99, .unset, .unset, .unset, .unset, .unset] [(.int z108)]))
                refine own_st (fun t k => XS.pop X108.here hx rfl (hb hby at_231) rfl rfl k) ?_
                refine own_st (fun t k => XS.aload X108.here hx rfl (hb hby at_232) rfl rfl  k) ?_
                show own_Go p e below G (T108.setTop (mkF m 234 #[iv x0, iv x1, iv x2, iv x3, iv 3, iv k0, iv y28, rv b1, own_dv (FP.l2d w0), .second, own_dv (FP.l2d w1), .second, own_dv (FP.l2d w2), .second, own_dv (FP.l2d w3), .second, iv e0', iv e1', iv e2', iv e3', rv b99, .unset, .unset, .unset, .unset, .unset] [(.ref b99)]))
                obtain ⟨v109, T109, L109, X109, Q109, st109⟩ := own_callV X108 hx hZ (y := (⟨"com/example/thinleaf/thinleaf/prune/Nearest", "least", "()D"⟩ : MethodName)) (z := (⟨"com/example/thinleaf/thinleaf/prune/Nearest", "least", "()D"⟩ : MethodName)) hown (hw _ (List.mem_of_getElem? (i := 17) rfl)) (hw _ (List.mem_of_getElem? (i := 18) rfl)) (notFace_of_selects (args := #[]) (mvT hZ (hw _ (List.mem_of_getElem? (i := 20) rfl)))) (hw _ (List.mem_of_getElem? (i := 20) rfl)) (hw _ (List.mem_of_getElem? (i := 19) rfl)) (hw _ (List.mem_of_getElem? (i := 3) rfl)) (hw _ (List.mem_of_getElem? (i := 21) rfl)) (by decide) (W := 0) (rmL33 l Z a0 hw b99 bn bc kn kc pv m3_0 m3_1 m3_2 d3_0 d3_1 d3_2 T108.heap n0 NB4) (by decide) (by decide) rfl (NB4).1 (g := (mkF m 234 #[iv x0, iv x1, iv x2, iv x3, iv 3, iv k0, iv y28, rv b1, own_dv (FP.l2d w0), .second, own_dv (FP.l2d w1), .second, own_dv (FP.l2d w2), .second, own_dv (FP.l2d w3), .second, iv e0', iv e1', iv e2', iv e3', rv b99, .unset, .unset, .unset, .unset, .unset] [(.ref b99)])) rfl (by rw [hml]; rfl) (argsL := []) (rest := []) own_pd4 rfl rfl (by show 2 * 0 + _ ≤ _; exact Nat.le_of_eq rfl) (hb hby at_234) rfl (by decide) (by decide)
                obtain ⟨rfl, rfl, e109⟩ := Q109
                simp only [List.append_nil, Nat.add_zero] at X109
                refine own_st st109 ?_
                show own_Go p e below G (T109.setTop (mkF m 237 #[iv x0, iv x1, iv x2, iv x3, iv 3, iv k0, iv y28, rv b1, own_dv (FP.l2d w0), .second, own_dv (FP.l2d w1), .second, own_dv (FP.l2d w2), .second, own_dv (FP.l2d w3), .second, iv e0', iv e1', iv e2', iv e3', rv b99, .unset, .unset, .unset, .unset, .unset] [(.double (FP.l2d d3_0))]))
                refine own_st (fun t k => XS.dstore X109.here hx rfl (hb hby at_237) rfl (l' := #[iv x0, iv x1, iv x2, iv x3, iv 3, iv k0, iv y28, rv b1, own_dv (FP.l2d w0), .second, own_dv (FP.l2d w1), .second, own_dv (FP.l2d w2), .second, own_dv (FP.l2d w3), .second, iv e0', iv e1', iv e2', iv e3', rv b99, own_dv (FP.l2d d3_0), .second, .unset, .unset, .unset]) rfl k) ?_
                show own_Go p e below G (T109.setTop (mkF m 239 #[iv x0, iv x1, iv x2, iv x3, iv 3, iv k0, iv y28, rv b1, own_dv (FP.l2d w0), .second, own_dv (FP.l2d w1), .second, own_dv (FP.l2d w2), .second, own_dv (FP.l2d w3), .second, iv e0', iv e1', iv e2', iv e3', rv b99, own_dv (FP.l2d d3_0), .second, .unset, .unset, .unset] []))
                have hkl : k0.toInt = 4 := by
                  have c171_101' := c171_101
                  rw [Int32.lt_iff_toInt_lt] at c171_101'
                  have zz0 : ((0 : Int32)).toInt = 0 := rfl
                  have c187_103' := c187_103
                  rw [Int32.lt_iff_toInt_lt] at c187_103'
                  have zz1 : ((1 : Int32)).toInt = 1 := rfl
                  have c203_105' := c203_105
                  rw [Int32.lt_iff_toInt_lt] at c203_105'
                  have zz2 : ((2 : Int32)).toInt = 2 := rfl
                  have c219_107' := c219_107
                  rw [Int32.lt_iff_toInt_lt] at c219_107'
                  have zz3 : ((3 : Int32)).toInt = 3 := rfl
                  omega
                have pd0 : own_pad k0 0 w0 = w0.toInt := if_pos (by omega)
                have pd1 : own_pad k0 1 w1 = w1.toInt := if_pos (by omega)
                have pd2 : own_pad k0 2 w2 = w2.toInt := if_pos (by omega)
                have pd3 : own_pad k0 3 w3 = w3.toInt := if_pos (by omega)
                unfold own_R30 at hR0
                unfold own_R31 at hR1
                unfold own_R32 at hR2
                unfold own_R33 at hR3
                simp only [own_S1, own_S2, own_S3] at hR3
                exact J239 _ _ X109 N0 (by rw [e109]; exact (NB4).2.2.2.2.2.2.2.2.2.2.2.2.2.2) _ d3_0 hb_d3_0 (by rw [Int32.lt_iff_toInt_lt, show ((3 : Int32)).toInt = 3 from rfl]; omega) (by rw [pd0, pd1, pd2, pd3]; simp only [own_nth]; simp only [← Int64.toInt_inj] at hR0 hR1 hR2 hR3; omega)
              · skip
                refine own_st (fun t k => XS.icmpYes X106.here hx rfl (pc0 := 219) (pc' := 232) rfl (hb hby at_219) rfl (flt c219_107).2.2.2 (by decide) (by decide) k) ?_
                show own_Go p e below G (T106.setTop (mkF m 232 #[iv x0, iv x1, iv x2, iv x3, iv 3, iv k0, iv y28, rv b1, own_dv (FP.l2d w0), .second, own_dv (FP.l2d w1), .second, own_dv (FP.l2d w2), .second, own_dv (FP.l2d w3), .second, iv e0', iv e1', iv e2', iv e3', rv b99, .unset, .unset, .unset, .unset, .unset] []))
                refine own_st (fun t k => XS.aload X106.here hx rfl (hb hby at_232) rfl rfl  k) ?_
                show own_Go p e below G (T106.setTop (mkF m 234 #[iv x0, iv x1, iv x2, iv x3, iv 3, iv k0, iv y28, rv b1, own_dv (FP.l2d w0), .second, own_dv (FP.l2d w1), .second, own_dv (FP.l2d w2), .second, own_dv (FP.l2d w3), .second, iv e0', iv e1', iv e2', iv e3', rv b99, .unset, .unset, .unset, .unset, .unset] [(.ref b99)]))
                obtain ⟨v110, T110, L110, X110, Q110, st110⟩ := own_callV X106 hx hZ (y := (⟨"com/example/thinleaf/thinleaf/prune/Nearest", "least", "()D"⟩ : MethodName)) (z := (⟨"com/example/thinleaf/thinleaf/prune/Nearest", "least", "()D"⟩ : MethodName)) hown (hw _ (List.mem_of_getElem? (i := 17) rfl)) (hw _ (List.mem_of_getElem? (i := 18) rfl)) (notFace_of_selects (args := #[]) (mvT hZ (hw _ (List.mem_of_getElem? (i := 20) rfl)))) (hw _ (List.mem_of_getElem? (i := 20) rfl)) (hw _ (List.mem_of_getElem? (i := 19) rfl)) (hw _ (List.mem_of_getElem? (i := 3) rfl)) (hw _ (List.mem_of_getElem? (i := 21) rfl)) (by decide) (W := 0) (rmL33 l Z a0 hw b99 bn bc kn kc pv m2_0 m2_1 m2_2 d2_0 d2_1 d2_2 T106.heap n0 NB3) (by decide) (by decide) rfl (NB3).1 (g := (mkF m 234 #[iv x0, iv x1, iv x2, iv x3, iv 3, iv k0, iv y28, rv b1, own_dv (FP.l2d w0), .second, own_dv (FP.l2d w1), .second, own_dv (FP.l2d w2), .second, own_dv (FP.l2d w3), .second, iv e0', iv e1', iv e2', iv e3', rv b99, .unset, .unset, .unset, .unset, .unset] [(.ref b99)])) rfl (by rw [hml]; rfl) (argsL := []) (rest := []) own_pd4 rfl rfl (by show 2 * 0 + _ ≤ _; exact Nat.le_of_eq rfl) (hb hby at_234) rfl (by decide) (by decide)
                obtain ⟨rfl, rfl, e110⟩ := Q110
                simp only [List.append_nil, Nat.add_zero] at X110
                refine own_st st110 ?_
                show own_Go p e below G (T110.setTop (mkF m 237 #[iv x0, iv x1, iv x2, iv x3, iv 3, iv k0, iv y28, rv b1, own_dv (FP.l2d w0), .second, own_dv (FP.l2d w1), .second, own_dv (FP.l2d w2), .second, own_dv (FP.l2d w3), .second, iv e0', iv e1', iv e2', iv e3', rv b99, .unset, .unset, .unset, .unset, .unset] [(.double (FP.l2d d2_0))]))
                refine own_st (fun t k => XS.dstore X110.here hx rfl (hb hby at_237) rfl (l' := #[iv x0, iv x1, iv x2, iv x3, iv 3, iv k0, iv y28, rv b1, own_dv (FP.l2d w0), .second, own_dv (FP.l2d w1), .second, own_dv (FP.l2d w2), .second, own_dv (FP.l2d w3), .second, iv e0', iv e1', iv e2', iv e3', rv b99, own_dv (FP.l2d d2_0), .second, .unset, .unset, .unset]) rfl k) ?_
                show own_Go p e below G (T110.setTop (mkF m 239 #[iv x0, iv x1, iv x2, iv x3, iv 3, iv k0, iv y28, rv b1, own_dv (FP.l2d w0), .second, own_dv (FP.l2d w1), .second, own_dv (FP.l2d w2), .second, own_dv (FP.l2d w3), .second, iv e0', iv e1', iv e2', iv e3', rv b99, own_dv (FP.l2d d2_0), .second, .unset, .unset, .unset] []))
                have hkl : k0.toInt = 3 := by
                  have c171_101' := c171_101
                  rw [Int32.lt_iff_toInt_lt] at c171_101'
                  have zz0 : ((0 : Int32)).toInt = 0 := rfl
                  have c187_103' := c187_103
                  rw [Int32.lt_iff_toInt_lt] at c187_103'
                  have zz1 : ((1 : Int32)).toInt = 1 := rfl
                  have c203_105' := c203_105
                  rw [Int32.lt_iff_toInt_lt] at c203_105'
                  have zz2 : ((2 : Int32)).toInt = 2 := rfl
                  have c219_107' := c219_107
                  rw [Int32.lt_iff_toInt_lt] at c219_107'
                  have zz3 : ((3 : Int32)).toInt = 3 := rfl
                  omega
                have pd0 : own_pad k0 0 w0 = w0.toInt := if_pos (by omega)
                have pd1 : own_pad k0 1 w1 = w1.toInt := if_pos (by omega)
                have pd2 : own_pad k0 2 w2 = w2.toInt := if_pos (by omega)
                have pd3 : own_pad k0 3 w3 = -100 := if_neg (by omega)
                unfold own_R30 at hR0
                unfold own_R31 at hR1
                unfold own_R32 at hR2
                exact J239 _ _ X110 N0 (by rw [e110]; exact (NB3).2.2.2.2.2.2.2.2.2.2.2.2.2.2) _ d2_0 hb_d2_0 (by rw [Int32.lt_iff_toInt_lt, show ((3 : Int32)).toInt = 3 from rfl]; omega) (by rw [pd0, pd1, pd2, pd3]; simp only [own_nth]; simp only [← Int64.toInt_inj] at hR0 hR1 hR2; omega)
            · skip
              refine own_st (fun t k => XS.icmpYes X104.here hx rfl (pc0 := 203) (pc' := 216) rfl (hb hby at_203) rfl (flt c203_105).2.2.2 (by decide) (by decide) k) ?_
              show own_Go p e below G (T104.setTop (mkF m 216 #[iv x0, iv x1, iv x2, iv x3, iv 3, iv k0, iv y28, rv b1, own_dv (FP.l2d w0), .second, own_dv (FP.l2d w1), .second, own_dv (FP.l2d w2), .second, own_dv (FP.l2d w3), .second, iv e0', iv e1', iv e2', iv e3', rv b99, .unset, .unset, .unset, .unset, .unset] []))
              refine own_st (fun t k => XS.iload X104.here hx rfl (hb hby at_216) rfl  k) ?_
              refine own_st (fun t k => XS.iconst X104.here hx rfl (hb hby at_218) k) ?_
              show own_Go p e below G (T104.setTop (mkF m 219 #[iv x0, iv x1, iv x2, iv x3, iv 3, iv k0, iv y28, rv b1, own_dv (FP.l2d w0), .second, own_dv (FP.l2d w1), .second, own_dv (FP.l2d w2), .second, own_dv (FP.l2d w3), .second, iv e0', iv e1', iv e2', iv e3', rv b99, .unset, .unset, .unset, .unset, .unset] [(.int (3 : Int32)), (.int k0)]))
              refine own_st (fun t k => XS.icmpYes X104.here hx rfl (pc0 := 219) (pc' := 232) rfl (hb hby at_219) rfl (flt (fun q => c203_105 (Int32.lt_trans (by decide) q))).2.2.2 (by decide) (by decide) k) ?_
              show own_Go p e below G (T104.setTop (mkF m 232 #[iv x0, iv x1, iv x2, iv x3, iv 3, iv k0, iv y28, rv b1, own_dv (FP.l2d w0), .second, own_dv (FP.l2d w1), .second, own_dv (FP.l2d w2), .second, own_dv (FP.l2d w3), .second, iv e0', iv e1', iv e2', iv e3', rv b99, .unset, .unset, .unset, .unset, .unset] []))
              refine own_st (fun t k => XS.aload X104.here hx rfl (hb hby at_232) rfl rfl  k) ?_
              show own_Go p e below G (T104.setTop (mkF m 234 #[iv x0, iv x1, iv x2, iv x3, iv 3, iv k0, iv y28, rv b1, own_dv (FP.l2d w0), .second, own_dv (FP.l2d w1), .second, own_dv (FP.l2d w2), .second, own_dv (FP.l2d w3), .second, iv e0', iv e1', iv e2', iv e3', rv b99, .unset, .unset, .unset, .unset, .unset] [(.ref b99)]))
              obtain ⟨v111, T111, L111, X111, Q111, st111⟩ := own_callV X104 hx hZ (y := (⟨"com/example/thinleaf/thinleaf/prune/Nearest", "least", "()D"⟩ : MethodName)) (z := (⟨"com/example/thinleaf/thinleaf/prune/Nearest", "least", "()D"⟩ : MethodName)) hown (hw _ (List.mem_of_getElem? (i := 17) rfl)) (hw _ (List.mem_of_getElem? (i := 18) rfl)) (notFace_of_selects (args := #[]) (mvT hZ (hw _ (List.mem_of_getElem? (i := 20) rfl)))) (hw _ (List.mem_of_getElem? (i := 20) rfl)) (hw _ (List.mem_of_getElem? (i := 19) rfl)) (hw _ (List.mem_of_getElem? (i := 3) rfl)) (hw _ (List.mem_of_getElem? (i := 21) rfl)) (by decide) (W := 0) (rmL32 l Z a0 hw b99 bn bc kn kc pv m1_0 m1_1 d1_0 d1_1 T104.heap n0 NB2) (by decide) (by decide) rfl (NB2).1 (g := (mkF m 234 #[iv x0, iv x1, iv x2, iv x3, iv 3, iv k0, iv y28, rv b1, own_dv (FP.l2d w0), .second, own_dv (FP.l2d w1), .second, own_dv (FP.l2d w2), .second, own_dv (FP.l2d w3), .second, iv e0', iv e1', iv e2', iv e3', rv b99, .unset, .unset, .unset, .unset, .unset] [(.ref b99)])) rfl (by rw [hml]; rfl) (argsL := []) (rest := []) own_pd4 rfl rfl (by show 2 * 0 + _ ≤ _; exact Nat.le_of_eq rfl) (hb hby at_234) rfl (by decide) (by decide)
              obtain ⟨rfl, rfl, e111⟩ := Q111
              simp only [List.append_nil, Nat.add_zero] at X111
              refine own_st st111 ?_
              show own_Go p e below G (T111.setTop (mkF m 237 #[iv x0, iv x1, iv x2, iv x3, iv 3, iv k0, iv y28, rv b1, own_dv (FP.l2d w0), .second, own_dv (FP.l2d w1), .second, own_dv (FP.l2d w2), .second, own_dv (FP.l2d w3), .second, iv e0', iv e1', iv e2', iv e3', rv b99, .unset, .unset, .unset, .unset, .unset] [(.double (18442240474082181120 : UInt64))]))
              refine own_st (fun t k => XS.dstore X111.here hx rfl (hb hby at_237) rfl (l' := #[iv x0, iv x1, iv x2, iv x3, iv 3, iv k0, iv y28, rv b1, own_dv (FP.l2d w0), .second, own_dv (FP.l2d w1), .second, own_dv (FP.l2d w2), .second, own_dv (FP.l2d w3), .second, iv e0', iv e1', iv e2', iv e3', rv b99, own_dv (18442240474082181120 : UInt64), .second, .unset, .unset, .unset]) rfl k) ?_
              show own_Go p e below G (T111.setTop (mkF m 239 #[iv x0, iv x1, iv x2, iv x3, iv 3, iv k0, iv y28, rv b1, own_dv (FP.l2d w0), .second, own_dv (FP.l2d w1), .second, own_dv (FP.l2d w2), .second, own_dv (FP.l2d w3), .second, iv e0', iv e1', iv e2', iv e3', rv b99, own_dv (18442240474082181120 : UInt64), .second, .unset, .unset, .unset] []))
              refine own_st (fun t k => XS.iload X111.here hx rfl (hb hby at_239) rfl  k) ?_
              show own_Go p e below G (T111.setTop (mkF m 241 #[iv x0, iv x1, iv x2, iv x3, iv 3, iv k0, iv y28, rv b1, own_dv (FP.l2d w0), .second, own_dv (FP.l2d w1), .second, own_dv (FP.l2d w2), .second, own_dv (FP.l2d w3), .second, iv e0', iv e1', iv e2', iv e3', rv b99, own_dv (18442240474082181120 : UInt64), .second, .unset, .unset, .unset] [(.int (3 : Int32))]))
              refine own_st (fun t k => XS.ifYes X111.here hx rfl (pc0 := 241) (pc' := 252) rfl (hb hby at_241) rfl ((if0 _ _).trans (feq (by decide)).2) (by decide) (by decide) k) ?_
              show own_Go p e below G (T111.setTop (mkF m 252 #[iv x0, iv x1, iv x2, iv x3, iv 3, iv k0, iv y28, rv b1, own_dv (FP.l2d w0), .second, own_dv (FP.l2d w1), .second, own_dv (FP.l2d w2), .second, own_dv (FP.l2d w3), .second, iv e0', iv e1', iv e2', iv e3', rv b99, own_dv (18442240474082181120 : UInt64), .second, .unset, .unset, .unset] []))
              refine own_st (fun t k => XS.iload X111.here hx rfl (hb hby at_252) rfl  k) ?_
              refine own_st (fun t k => XS.iload X111.here hx rfl (hb hby at_254) rfl  k) ?_
              show own_Go p e below G (T111.setTop (mkF m 256 #[iv x0, iv x1, iv x2, iv x3, iv 3, iv k0, iv y28, rv b1, own_dv (FP.l2d w0), .second, own_dv (FP.l2d w1), .second, own_dv (FP.l2d w2), .second, own_dv (FP.l2d w3), .second, iv e0', iv e1', iv e2', iv e3', rv b99, own_dv (18442240474082181120 : UInt64), .second, .unset, .unset, .unset] [(.int (3 : Int32)), (.int k0)]))
              refine own_st (fun t k => XS.icmpNo X111.here hx rfl (hb hby at_256) rfl (tlt (by have q := c203_105; rw [Int32.lt_iff_toInt_lt] at q ⊢; have z1 : ((2 : Int32)).toInt = 2 := rfl; have z2 : ((3 : Int32)).toInt = 3 := rfl; omega)).2.1 k) ?_
              show own_Go p e below G (T111.setTop (mkF m 259 #[iv x0, iv x1, iv x2, iv x3, iv 3, iv k0, iv y28, rv b1, own_dv (FP.l2d w0), .second, own_dv (FP.l2d w1), .second, own_dv (FP.l2d w2), .second, own_dv (FP.l2d w3), .second, iv e0', iv e1', iv e2', iv e3', rv b99, own_dv (18442240474082181120 : UInt64), .second, .unset, .unset, .unset] []))
              refine own_st (fun t k => X111.ldc2DoubleC hx hown (mvT hZ (hw _ (List.mem_of_getElem? (i := 41) rfl))) (g := (mkF m 259 #[iv x0, iv x1, iv x2, iv x3, iv 3, iv k0, iv y28, rv b1, own_dv (FP.l2d w0), .second, own_dv (FP.l2d w1), .second, own_dv (FP.l2d w2), .second, own_dv (FP.l2d w3), .second, iv e0', iv e1', iv e2', iv e3', rv b99, own_dv (18442240474082181120 : UInt64), .second, .unset, .unset, .unset] [])) rfl (hb hby at_259) t k) ?_
              show own_Go p e below G (T111.setTop (mkF m 262 #[iv x0, iv x1, iv x2, iv x3, iv 3, iv k0, iv y28, rv b1, own_dv (FP.l2d w0), .second, own_dv (FP.l2d w1), .second, own_dv (FP.l2d w2), .second, own_dv (FP.l2d w3), .second, iv e0', iv e1', iv e2', iv e3', rv b99, own_dv (18442240474082181120 : UInt64), .second, .unset, .unset, .unset] [(.double (18442240474082181120 : UInt64))]))
              refine own_st (fun t k => XS.dstore X111.here hx rfl (hb hby at_262) rfl (l' := #[iv x0, iv x1, iv x2, iv x3, iv 3, iv k0, iv y28, rv b1, own_dv (FP.l2d w0), .second, own_dv (FP.l2d w1), .second, own_dv (FP.l2d w2), .second, own_dv (FP.l2d w3), .second, iv e0', iv e1', iv e2', iv e3', rv b99, own_dv (18442240474082181120 : UInt64), .second, own_dv (18442240474082181120 : UInt64), .second, .unset]) rfl k) ?_
              refine own_st (fun t k => XS.goto X111.here hx rfl (pc0 := 264) (pc' := 387) rfl (hb hby at_264) (by decide) (by decide) k) ?_
              refine own_st (fun t k => XS.dload X111.here hx rfl (hb hby at_387) rfl  k) ?_
              show own_Go p e below G (T111.setTop (mkF m 389 #[iv x0, iv x1, iv x2, iv x3, iv 3, iv k0, iv y28, rv b1, own_dv (FP.l2d w0), .second, own_dv (FP.l2d w1), .second, own_dv (FP.l2d w2), .second, own_dv (FP.l2d w3), .second, iv e0', iv e1', iv e2', iv e3', rv b99, own_dv (18442240474082181120 : UInt64), .second, own_dv (18442240474082181120 : UInt64), .second, .unset] [(.double (18442240474082181120 : UInt64))]))
              refine own_st (fun t k => XS.dload X111.here hx rfl (hb hby at_389) rfl  k) ?_
              show own_Go p e below G (T111.setTop (mkF m 391 #[iv x0, iv x1, iv x2, iv x3, iv 3, iv k0, iv y28, rv b1, own_dv (FP.l2d w0), .second, own_dv (FP.l2d w1), .second, own_dv (FP.l2d w2), .second, own_dv (FP.l2d w3), .second, iv e0', iv e1', iv e2', iv e3', rv b99, own_dv (18442240474082181120 : UInt64), .second, own_dv (18442240474082181120 : UInt64), .second, .unset] [(.double (18442240474082181120 : UInt64)), (.double (18442240474082181120 : UInt64))]))
              refine own_st (fun t k => XS.dcmpS X111.here hx rfl (hb hby at_391) rfl (dcmpV_self (by decide +kernel) _) k) ?_
              show own_Go p e below G (T111.setTop (mkF m 392 #[iv x0, iv x1, iv x2, iv x3, iv 3, iv k0, iv y28, rv b1, own_dv (FP.l2d w0), .second, own_dv (FP.l2d w1), .second, own_dv (FP.l2d w2), .second, own_dv (FP.l2d w3), .second, iv e0', iv e1', iv e2', iv e3', rv b99, own_dv (18442240474082181120 : UInt64), .second, own_dv (18442240474082181120 : UInt64), .second, .unset] [(.int (0 : Int32))]))
              refine own_st (fun t k => XS.ifNo X111.here hx rfl (hb hby at_392) rfl ((if0 _ _).trans (teq (by decide)).2) k) ?_
              show own_Go p e below G (T111.setTop (mkF m 395 #[iv x0, iv x1, iv x2, iv x3, iv 3, iv k0, iv y28, rv b1, own_dv (FP.l2d w0), .second, own_dv (FP.l2d w1), .second, own_dv (FP.l2d w2), .second, own_dv (FP.l2d w3), .second, iv e0', iv e1', iv e2', iv e3', rv b99, own_dv (18442240474082181120 : UInt64), .second, own_dv (18442240474082181120 : UInt64), .second, .unset] []))
              refine own_st (fun t k => XS.iconst X111.here hx rfl (hb hby at_395) k) ?_
              refine own_st (fun t k => XS.goto X111.here hx rfl (pc0 := 396) (pc' := 400) rfl (hb hby at_396) (by decide) (by decide) k) ?_
              show own_Go p e below G (T111.setTop (mkF m 400 #[iv x0, iv x1, iv x2, iv x3, iv 3, iv k0, iv y28, rv b1, own_dv (FP.l2d w0), .second, own_dv (FP.l2d w1), .second, own_dv (FP.l2d w2), .second, own_dv (FP.l2d w3), .second, iv e0', iv e1', iv e2', iv e3', rv b99, own_dv (18442240474082181120 : UInt64), .second, own_dv (18442240474082181120 : UInt64), .second, .unset] [(.int (1 : Int32))]))
              rw [hG]
              exact own_retZ X111 hx hlk (t := .boolean) hret (by simp) (hb hby at_400) ⟨rfl, N0⟩ (by decide) (by decide)
          · skip
            refine own_st (fun t k => XS.icmpYes X102.here hx rfl (pc0 := 187) (pc' := 200) rfl (hb hby at_187) rfl (flt c187_103).2.2.2 (by decide) (by decide) k) ?_
            show own_Go p e below G (T102.setTop (mkF m 200 #[iv x0, iv x1, iv x2, iv x3, iv 3, iv k0, iv y28, rv b1, own_dv (FP.l2d w0), .second, own_dv (FP.l2d w1), .second, own_dv (FP.l2d w2), .second, own_dv (FP.l2d w3), .second, iv e0', iv e1', iv e2', iv e3', rv b99, .unset, .unset, .unset, .unset, .unset] []))
            refine own_st (fun t k => XS.iload X102.here hx rfl (hb hby at_200) rfl  k) ?_
            refine own_st (fun t k => XS.iconst X102.here hx rfl (hb hby at_202) k) ?_
            show own_Go p e below G (T102.setTop (mkF m 203 #[iv x0, iv x1, iv x2, iv x3, iv 3, iv k0, iv y28, rv b1, own_dv (FP.l2d w0), .second, own_dv (FP.l2d w1), .second, own_dv (FP.l2d w2), .second, own_dv (FP.l2d w3), .second, iv e0', iv e1', iv e2', iv e3', rv b99, .unset, .unset, .unset, .unset, .unset] [(.int (2 : Int32)), (.int k0)]))
            refine own_st (fun t k => XS.icmpYes X102.here hx rfl (pc0 := 203) (pc' := 216) rfl (hb hby at_203) rfl (flt (fun q => c187_103 (Int32.lt_trans (by decide) q))).2.2.2 (by decide) (by decide) k) ?_
            show own_Go p e below G (T102.setTop (mkF m 216 #[iv x0, iv x1, iv x2, iv x3, iv 3, iv k0, iv y28, rv b1, own_dv (FP.l2d w0), .second, own_dv (FP.l2d w1), .second, own_dv (FP.l2d w2), .second, own_dv (FP.l2d w3), .second, iv e0', iv e1', iv e2', iv e3', rv b99, .unset, .unset, .unset, .unset, .unset] []))
            refine own_st (fun t k => XS.iload X102.here hx rfl (hb hby at_216) rfl  k) ?_
            refine own_st (fun t k => XS.iconst X102.here hx rfl (hb hby at_218) k) ?_
            show own_Go p e below G (T102.setTop (mkF m 219 #[iv x0, iv x1, iv x2, iv x3, iv 3, iv k0, iv y28, rv b1, own_dv (FP.l2d w0), .second, own_dv (FP.l2d w1), .second, own_dv (FP.l2d w2), .second, own_dv (FP.l2d w3), .second, iv e0', iv e1', iv e2', iv e3', rv b99, .unset, .unset, .unset, .unset, .unset] [(.int (3 : Int32)), (.int k0)]))
            refine own_st (fun t k => XS.icmpYes X102.here hx rfl (pc0 := 219) (pc' := 232) rfl (hb hby at_219) rfl (flt (fun q => c187_103 (Int32.lt_trans (by decide) q))).2.2.2 (by decide) (by decide) k) ?_
            show own_Go p e below G (T102.setTop (mkF m 232 #[iv x0, iv x1, iv x2, iv x3, iv 3, iv k0, iv y28, rv b1, own_dv (FP.l2d w0), .second, own_dv (FP.l2d w1), .second, own_dv (FP.l2d w2), .second, own_dv (FP.l2d w3), .second, iv e0', iv e1', iv e2', iv e3', rv b99, .unset, .unset, .unset, .unset, .unset] []))
            refine own_st (fun t k => XS.aload X102.here hx rfl (hb hby at_232) rfl rfl  k) ?_
            show own_Go p e below G (T102.setTop (mkF m 234 #[iv x0, iv x1, iv x2, iv x3, iv 3, iv k0, iv y28, rv b1, own_dv (FP.l2d w0), .second, own_dv (FP.l2d w1), .second, own_dv (FP.l2d w2), .second, own_dv (FP.l2d w3), .second, iv e0', iv e1', iv e2', iv e3', rv b99, .unset, .unset, .unset, .unset, .unset] [(.ref b99)]))
            obtain ⟨v112, T112, L112, X112, Q112, st112⟩ := own_callV X102 hx hZ (y := (⟨"com/example/thinleaf/thinleaf/prune/Nearest", "least", "()D"⟩ : MethodName)) (z := (⟨"com/example/thinleaf/thinleaf/prune/Nearest", "least", "()D"⟩ : MethodName)) hown (hw _ (List.mem_of_getElem? (i := 17) rfl)) (hw _ (List.mem_of_getElem? (i := 18) rfl)) (notFace_of_selects (args := #[]) (mvT hZ (hw _ (List.mem_of_getElem? (i := 20) rfl)))) (hw _ (List.mem_of_getElem? (i := 20) rfl)) (hw _ (List.mem_of_getElem? (i := 19) rfl)) (hw _ (List.mem_of_getElem? (i := 3) rfl)) (hw _ (List.mem_of_getElem? (i := 21) rfl)) (by decide) (W := 0) (rmL31 l Z a0 hw b99 bn bc kn kc pv m0_0 d0_0 T102.heap n0 NB1) (by decide) (by decide) rfl (NB1).1 (g := (mkF m 234 #[iv x0, iv x1, iv x2, iv x3, iv 3, iv k0, iv y28, rv b1, own_dv (FP.l2d w0), .second, own_dv (FP.l2d w1), .second, own_dv (FP.l2d w2), .second, own_dv (FP.l2d w3), .second, iv e0', iv e1', iv e2', iv e3', rv b99, .unset, .unset, .unset, .unset, .unset] [(.ref b99)])) rfl (by rw [hml]; rfl) (argsL := []) (rest := []) own_pd4 rfl rfl (by show 2 * 0 + _ ≤ _; exact Nat.le_of_eq rfl) (hb hby at_234) rfl (by decide) (by decide)
            obtain ⟨rfl, rfl, e112⟩ := Q112
            simp only [List.append_nil, Nat.add_zero] at X112
            refine own_st st112 ?_
            show own_Go p e below G (T112.setTop (mkF m 237 #[iv x0, iv x1, iv x2, iv x3, iv 3, iv k0, iv y28, rv b1, own_dv (FP.l2d w0), .second, own_dv (FP.l2d w1), .second, own_dv (FP.l2d w2), .second, own_dv (FP.l2d w3), .second, iv e0', iv e1', iv e2', iv e3', rv b99, .unset, .unset, .unset, .unset, .unset] [(.double (18442240474082181120 : UInt64))]))
            refine own_st (fun t k => XS.dstore X112.here hx rfl (hb hby at_237) rfl (l' := #[iv x0, iv x1, iv x2, iv x3, iv 3, iv k0, iv y28, rv b1, own_dv (FP.l2d w0), .second, own_dv (FP.l2d w1), .second, own_dv (FP.l2d w2), .second, own_dv (FP.l2d w3), .second, iv e0', iv e1', iv e2', iv e3', rv b99, own_dv (18442240474082181120 : UInt64), .second, .unset, .unset, .unset]) rfl k) ?_
            show own_Go p e below G (T112.setTop (mkF m 239 #[iv x0, iv x1, iv x2, iv x3, iv 3, iv k0, iv y28, rv b1, own_dv (FP.l2d w0), .second, own_dv (FP.l2d w1), .second, own_dv (FP.l2d w2), .second, own_dv (FP.l2d w3), .second, iv e0', iv e1', iv e2', iv e3', rv b99, own_dv (18442240474082181120 : UInt64), .second, .unset, .unset, .unset] []))
            refine own_st (fun t k => XS.iload X112.here hx rfl (hb hby at_239) rfl  k) ?_
            show own_Go p e below G (T112.setTop (mkF m 241 #[iv x0, iv x1, iv x2, iv x3, iv 3, iv k0, iv y28, rv b1, own_dv (FP.l2d w0), .second, own_dv (FP.l2d w1), .second, own_dv (FP.l2d w2), .second, own_dv (FP.l2d w3), .second, iv e0', iv e1', iv e2', iv e3', rv b99, own_dv (18442240474082181120 : UInt64), .second, .unset, .unset, .unset] [(.int (3 : Int32))]))
            refine own_st (fun t k => XS.ifYes X112.here hx rfl (pc0 := 241) (pc' := 252) rfl (hb hby at_241) rfl ((if0 _ _).trans (feq (by decide)).2) (by decide) (by decide) k) ?_
            show own_Go p e below G (T112.setTop (mkF m 252 #[iv x0, iv x1, iv x2, iv x3, iv 3, iv k0, iv y28, rv b1, own_dv (FP.l2d w0), .second, own_dv (FP.l2d w1), .second, own_dv (FP.l2d w2), .second, own_dv (FP.l2d w3), .second, iv e0', iv e1', iv e2', iv e3', rv b99, own_dv (18442240474082181120 : UInt64), .second, .unset, .unset, .unset] []))
            refine own_st (fun t k => XS.iload X112.here hx rfl (hb hby at_252) rfl  k) ?_
            refine own_st (fun t k => XS.iload X112.here hx rfl (hb hby at_254) rfl  k) ?_
            show own_Go p e below G (T112.setTop (mkF m 256 #[iv x0, iv x1, iv x2, iv x3, iv 3, iv k0, iv y28, rv b1, own_dv (FP.l2d w0), .second, own_dv (FP.l2d w1), .second, own_dv (FP.l2d w2), .second, own_dv (FP.l2d w3), .second, iv e0', iv e1', iv e2', iv e3', rv b99, own_dv (18442240474082181120 : UInt64), .second, .unset, .unset, .unset] [(.int (3 : Int32)), (.int k0)]))
            refine own_st (fun t k => XS.icmpNo X112.here hx rfl (hb hby at_256) rfl (tlt (by have q := c187_103; rw [Int32.lt_iff_toInt_lt] at q ⊢; have z1 : ((1 : Int32)).toInt = 1 := rfl; have z2 : ((3 : Int32)).toInt = 3 := rfl; omega)).2.1 k) ?_
            show own_Go p e below G (T112.setTop (mkF m 259 #[iv x0, iv x1, iv x2, iv x3, iv 3, iv k0, iv y28, rv b1, own_dv (FP.l2d w0), .second, own_dv (FP.l2d w1), .second, own_dv (FP.l2d w2), .second, own_dv (FP.l2d w3), .second, iv e0', iv e1', iv e2', iv e3', rv b99, own_dv (18442240474082181120 : UInt64), .second, .unset, .unset, .unset] []))
            refine own_st (fun t k => X112.ldc2DoubleC hx hown (mvT hZ (hw _ (List.mem_of_getElem? (i := 41) rfl))) (g := (mkF m 259 #[iv x0, iv x1, iv x2, iv x3, iv 3, iv k0, iv y28, rv b1, own_dv (FP.l2d w0), .second, own_dv (FP.l2d w1), .second, own_dv (FP.l2d w2), .second, own_dv (FP.l2d w3), .second, iv e0', iv e1', iv e2', iv e3', rv b99, own_dv (18442240474082181120 : UInt64), .second, .unset, .unset, .unset] [])) rfl (hb hby at_259) t k) ?_
            show own_Go p e below G (T112.setTop (mkF m 262 #[iv x0, iv x1, iv x2, iv x3, iv 3, iv k0, iv y28, rv b1, own_dv (FP.l2d w0), .second, own_dv (FP.l2d w1), .second, own_dv (FP.l2d w2), .second, own_dv (FP.l2d w3), .second, iv e0', iv e1', iv e2', iv e3', rv b99, own_dv (18442240474082181120 : UInt64), .second, .unset, .unset, .unset] [(.double (18442240474082181120 : UInt64))]))
            refine own_st (fun t k => XS.dstore X112.here hx rfl (hb hby at_262) rfl (l' := #[iv x0, iv x1, iv x2, iv x3, iv 3, iv k0, iv y28, rv b1, own_dv (FP.l2d w0), .second, own_dv (FP.l2d w1), .second, own_dv (FP.l2d w2), .second, own_dv (FP.l2d w3), .second, iv e0', iv e1', iv e2', iv e3', rv b99, own_dv (18442240474082181120 : UInt64), .second, own_dv (18442240474082181120 : UInt64), .second, .unset]) rfl k) ?_
            refine own_st (fun t k => XS.goto X112.here hx rfl (pc0 := 264) (pc' := 387) rfl (hb hby at_264) (by decide) (by decide) k) ?_
            refine own_st (fun t k => XS.dload X112.here hx rfl (hb hby at_387) rfl  k) ?_
            show own_Go p e below G (T112.setTop (mkF m 389 #[iv x0, iv x1, iv x2, iv x3, iv 3, iv k0, iv y28, rv b1, own_dv (FP.l2d w0), .second, own_dv (FP.l2d w1), .second, own_dv (FP.l2d w2), .second, own_dv (FP.l2d w3), .second, iv e0', iv e1', iv e2', iv e3', rv b99, own_dv (18442240474082181120 : UInt64), .second, own_dv (18442240474082181120 : UInt64), .second, .unset] [(.double (18442240474082181120 : UInt64))]))
            refine own_st (fun t k => XS.dload X112.here hx rfl (hb hby at_389) rfl  k) ?_
            show own_Go p e below G (T112.setTop (mkF m 391 #[iv x0, iv x1, iv x2, iv x3, iv 3, iv k0, iv y28, rv b1, own_dv (FP.l2d w0), .second, own_dv (FP.l2d w1), .second, own_dv (FP.l2d w2), .second, own_dv (FP.l2d w3), .second, iv e0', iv e1', iv e2', iv e3', rv b99, own_dv (18442240474082181120 : UInt64), .second, own_dv (18442240474082181120 : UInt64), .second, .unset] [(.double (18442240474082181120 : UInt64)), (.double (18442240474082181120 : UInt64))]))
            refine own_st (fun t k => XS.dcmpS X112.here hx rfl (hb hby at_391) rfl (dcmpV_self (by decide +kernel) _) k) ?_
            show own_Go p e below G (T112.setTop (mkF m 392 #[iv x0, iv x1, iv x2, iv x3, iv 3, iv k0, iv y28, rv b1, own_dv (FP.l2d w0), .second, own_dv (FP.l2d w1), .second, own_dv (FP.l2d w2), .second, own_dv (FP.l2d w3), .second, iv e0', iv e1', iv e2', iv e3', rv b99, own_dv (18442240474082181120 : UInt64), .second, own_dv (18442240474082181120 : UInt64), .second, .unset] [(.int (0 : Int32))]))
            refine own_st (fun t k => XS.ifNo X112.here hx rfl (hb hby at_392) rfl ((if0 _ _).trans (teq (by decide)).2) k) ?_
            show own_Go p e below G (T112.setTop (mkF m 395 #[iv x0, iv x1, iv x2, iv x3, iv 3, iv k0, iv y28, rv b1, own_dv (FP.l2d w0), .second, own_dv (FP.l2d w1), .second, own_dv (FP.l2d w2), .second, own_dv (FP.l2d w3), .second, iv e0', iv e1', iv e2', iv e3', rv b99, own_dv (18442240474082181120 : UInt64), .second, own_dv (18442240474082181120 : UInt64), .second, .unset] []))
            refine own_st (fun t k => XS.iconst X112.here hx rfl (hb hby at_395) k) ?_
            refine own_st (fun t k => XS.goto X112.here hx rfl (pc0 := 396) (pc' := 400) rfl (hb hby at_396) (by decide) (by decide) k) ?_
            show own_Go p e below G (T112.setTop (mkF m 400 #[iv x0, iv x1, iv x2, iv x3, iv 3, iv k0, iv y28, rv b1, own_dv (FP.l2d w0), .second, own_dv (FP.l2d w1), .second, own_dv (FP.l2d w2), .second, own_dv (FP.l2d w3), .second, iv e0', iv e1', iv e2', iv e3', rv b99, own_dv (18442240474082181120 : UInt64), .second, own_dv (18442240474082181120 : UInt64), .second, .unset] [(.int (1 : Int32))]))
            rw [hG]
            exact own_retZ X112 hx hlk (t := .boolean) hret (by simp) (hb hby at_400) ⟨rfl, N0⟩ (by decide) (by decide)
        · skip
          refine own_st (fun t k => XS.ifYes X100.here hx rfl (pc0 := 171) (pc' := 184) rfl (hb hby at_171) rfl ((if0 _ _).trans (flt c171_101).2.2.2) (by decide) (by decide) k) ?_
          show own_Go p e below G (T100.setTop (mkF m 184 #[iv x0, iv x1, iv x2, iv x3, iv 3, iv k0, iv y28, rv b1, own_dv (FP.l2d w0), .second, own_dv (FP.l2d w1), .second, own_dv (FP.l2d w2), .second, own_dv (FP.l2d w3), .second, iv e0', iv e1', iv e2', iv e3', rv b99, .unset, .unset, .unset, .unset, .unset] []))
          refine own_st (fun t k => XS.iload X100.here hx rfl (hb hby at_184) rfl  k) ?_
          refine own_st (fun t k => XS.iconst X100.here hx rfl (hb hby at_186) k) ?_
          show own_Go p e below G (T100.setTop (mkF m 187 #[iv x0, iv x1, iv x2, iv x3, iv 3, iv k0, iv y28, rv b1, own_dv (FP.l2d w0), .second, own_dv (FP.l2d w1), .second, own_dv (FP.l2d w2), .second, own_dv (FP.l2d w3), .second, iv e0', iv e1', iv e2', iv e3', rv b99, .unset, .unset, .unset, .unset, .unset] [(.int (1 : Int32)), (.int k0)]))
          refine own_st (fun t k => XS.icmpYes X100.here hx rfl (pc0 := 187) (pc' := 200) rfl (hb hby at_187) rfl (flt (fun q => c171_101 (Int32.lt_trans (by decide) q))).2.2.2 (by decide) (by decide) k) ?_
          show own_Go p e below G (T100.setTop (mkF m 200 #[iv x0, iv x1, iv x2, iv x3, iv 3, iv k0, iv y28, rv b1, own_dv (FP.l2d w0), .second, own_dv (FP.l2d w1), .second, own_dv (FP.l2d w2), .second, own_dv (FP.l2d w3), .second, iv e0', iv e1', iv e2', iv e3', rv b99, .unset, .unset, .unset, .unset, .unset] []))
          refine own_st (fun t k => XS.iload X100.here hx rfl (hb hby at_200) rfl  k) ?_
          refine own_st (fun t k => XS.iconst X100.here hx rfl (hb hby at_202) k) ?_
          show own_Go p e below G (T100.setTop (mkF m 203 #[iv x0, iv x1, iv x2, iv x3, iv 3, iv k0, iv y28, rv b1, own_dv (FP.l2d w0), .second, own_dv (FP.l2d w1), .second, own_dv (FP.l2d w2), .second, own_dv (FP.l2d w3), .second, iv e0', iv e1', iv e2', iv e3', rv b99, .unset, .unset, .unset, .unset, .unset] [(.int (2 : Int32)), (.int k0)]))
          refine own_st (fun t k => XS.icmpYes X100.here hx rfl (pc0 := 203) (pc' := 216) rfl (hb hby at_203) rfl (flt (fun q => c171_101 (Int32.lt_trans (by decide) q))).2.2.2 (by decide) (by decide) k) ?_
          show own_Go p e below G (T100.setTop (mkF m 216 #[iv x0, iv x1, iv x2, iv x3, iv 3, iv k0, iv y28, rv b1, own_dv (FP.l2d w0), .second, own_dv (FP.l2d w1), .second, own_dv (FP.l2d w2), .second, own_dv (FP.l2d w3), .second, iv e0', iv e1', iv e2', iv e3', rv b99, .unset, .unset, .unset, .unset, .unset] []))
          refine own_st (fun t k => XS.iload X100.here hx rfl (hb hby at_216) rfl  k) ?_
          refine own_st (fun t k => XS.iconst X100.here hx rfl (hb hby at_218) k) ?_
          show own_Go p e below G (T100.setTop (mkF m 219 #[iv x0, iv x1, iv x2, iv x3, iv 3, iv k0, iv y28, rv b1, own_dv (FP.l2d w0), .second, own_dv (FP.l2d w1), .second, own_dv (FP.l2d w2), .second, own_dv (FP.l2d w3), .second, iv e0', iv e1', iv e2', iv e3', rv b99, .unset, .unset, .unset, .unset, .unset] [(.int (3 : Int32)), (.int k0)]))
          refine own_st (fun t k => XS.icmpYes X100.here hx rfl (pc0 := 219) (pc' := 232) rfl (hb hby at_219) rfl (flt (fun q => c171_101 (Int32.lt_trans (by decide) q))).2.2.2 (by decide) (by decide) k) ?_
          show own_Go p e below G (T100.setTop (mkF m 232 #[iv x0, iv x1, iv x2, iv x3, iv 3, iv k0, iv y28, rv b1, own_dv (FP.l2d w0), .second, own_dv (FP.l2d w1), .second, own_dv (FP.l2d w2), .second, own_dv (FP.l2d w3), .second, iv e0', iv e1', iv e2', iv e3', rv b99, .unset, .unset, .unset, .unset, .unset] []))
          refine own_st (fun t k => XS.aload X100.here hx rfl (hb hby at_232) rfl rfl  k) ?_
          show own_Go p e below G (T100.setTop (mkF m 234 #[iv x0, iv x1, iv x2, iv x3, iv 3, iv k0, iv y28, rv b1, own_dv (FP.l2d w0), .second, own_dv (FP.l2d w1), .second, own_dv (FP.l2d w2), .second, own_dv (FP.l2d w3), .second, iv e0', iv e1', iv e2', iv e3', rv b99, .unset, .unset, .unset, .unset, .unset] [(.ref b99)]))
          obtain ⟨v113, T113, L113, X113, Q113, st113⟩ := own_callV X100 hx hZ (y := (⟨"com/example/thinleaf/thinleaf/prune/Nearest", "least", "()D"⟩ : MethodName)) (z := (⟨"com/example/thinleaf/thinleaf/prune/Nearest", "least", "()D"⟩ : MethodName)) hown (hw _ (List.mem_of_getElem? (i := 17) rfl)) (hw _ (List.mem_of_getElem? (i := 18) rfl)) (notFace_of_selects (args := #[]) (mvT hZ (hw _ (List.mem_of_getElem? (i := 20) rfl)))) (hw _ (List.mem_of_getElem? (i := 20) rfl)) (hw _ (List.mem_of_getElem? (i := 19) rfl)) (hw _ (List.mem_of_getElem? (i := 3) rfl)) (hw _ (List.mem_of_getElem? (i := 21) rfl)) (by decide) (W := 0) (rmL30 l Z a0 hw b99 bn bc kn kc pv   T100.heap n0 NB0) (by decide) (by decide) rfl (NB0).1 (g := (mkF m 234 #[iv x0, iv x1, iv x2, iv x3, iv 3, iv k0, iv y28, rv b1, own_dv (FP.l2d w0), .second, own_dv (FP.l2d w1), .second, own_dv (FP.l2d w2), .second, own_dv (FP.l2d w3), .second, iv e0', iv e1', iv e2', iv e3', rv b99, .unset, .unset, .unset, .unset, .unset] [(.ref b99)])) rfl (by rw [hml]; rfl) (argsL := []) (rest := []) own_pd4 rfl rfl (by show 2 * 0 + _ ≤ _; exact Nat.le_of_eq rfl) (hb hby at_234) rfl (by decide) (by decide)
          obtain ⟨rfl, rfl, e113⟩ := Q113
          simp only [List.append_nil, Nat.add_zero] at X113
          refine own_st st113 ?_
          show own_Go p e below G (T113.setTop (mkF m 237 #[iv x0, iv x1, iv x2, iv x3, iv 3, iv k0, iv y28, rv b1, own_dv (FP.l2d w0), .second, own_dv (FP.l2d w1), .second, own_dv (FP.l2d w2), .second, own_dv (FP.l2d w3), .second, iv e0', iv e1', iv e2', iv e3', rv b99, .unset, .unset, .unset, .unset, .unset] [(.double (18442240474082181120 : UInt64))]))
          refine own_st (fun t k => XS.dstore X113.here hx rfl (hb hby at_237) rfl (l' := #[iv x0, iv x1, iv x2, iv x3, iv 3, iv k0, iv y28, rv b1, own_dv (FP.l2d w0), .second, own_dv (FP.l2d w1), .second, own_dv (FP.l2d w2), .second, own_dv (FP.l2d w3), .second, iv e0', iv e1', iv e2', iv e3', rv b99, own_dv (18442240474082181120 : UInt64), .second, .unset, .unset, .unset]) rfl k) ?_
          show own_Go p e below G (T113.setTop (mkF m 239 #[iv x0, iv x1, iv x2, iv x3, iv 3, iv k0, iv y28, rv b1, own_dv (FP.l2d w0), .second, own_dv (FP.l2d w1), .second, own_dv (FP.l2d w2), .second, own_dv (FP.l2d w3), .second, iv e0', iv e1', iv e2', iv e3', rv b99, own_dv (18442240474082181120 : UInt64), .second, .unset, .unset, .unset] []))
          refine own_st (fun t k => XS.iload X113.here hx rfl (hb hby at_239) rfl  k) ?_
          show own_Go p e below G (T113.setTop (mkF m 241 #[iv x0, iv x1, iv x2, iv x3, iv 3, iv k0, iv y28, rv b1, own_dv (FP.l2d w0), .second, own_dv (FP.l2d w1), .second, own_dv (FP.l2d w2), .second, own_dv (FP.l2d w3), .second, iv e0', iv e1', iv e2', iv e3', rv b99, own_dv (18442240474082181120 : UInt64), .second, .unset, .unset, .unset] [(.int (3 : Int32))]))
          refine own_st (fun t k => XS.ifYes X113.here hx rfl (pc0 := 241) (pc' := 252) rfl (hb hby at_241) rfl ((if0 _ _).trans (feq (by decide)).2) (by decide) (by decide) k) ?_
          show own_Go p e below G (T113.setTop (mkF m 252 #[iv x0, iv x1, iv x2, iv x3, iv 3, iv k0, iv y28, rv b1, own_dv (FP.l2d w0), .second, own_dv (FP.l2d w1), .second, own_dv (FP.l2d w2), .second, own_dv (FP.l2d w3), .second, iv e0', iv e1', iv e2', iv e3', rv b99, own_dv (18442240474082181120 : UInt64), .second, .unset, .unset, .unset] []))
          refine own_st (fun t k => XS.iload X113.here hx rfl (hb hby at_252) rfl  k) ?_
          refine own_st (fun t k => XS.iload X113.here hx rfl (hb hby at_254) rfl  k) ?_
          show own_Go p e below G (T113.setTop (mkF m 256 #[iv x0, iv x1, iv x2, iv x3, iv 3, iv k0, iv y28, rv b1, own_dv (FP.l2d w0), .second, own_dv (FP.l2d w1), .second, own_dv (FP.l2d w2), .second, own_dv (FP.l2d w3), .second, iv e0', iv e1', iv e2', iv e3', rv b99, own_dv (18442240474082181120 : UInt64), .second, .unset, .unset, .unset] [(.int (3 : Int32)), (.int k0)]))
          refine own_st (fun t k => XS.icmpNo X113.here hx rfl (hb hby at_256) rfl (tlt (by have q := c171_101; rw [Int32.lt_iff_toInt_lt] at q ⊢; have z1 : ((0 : Int32)).toInt = 0 := rfl; have z2 : ((3 : Int32)).toInt = 3 := rfl; omega)).2.1 k) ?_
          show own_Go p e below G (T113.setTop (mkF m 259 #[iv x0, iv x1, iv x2, iv x3, iv 3, iv k0, iv y28, rv b1, own_dv (FP.l2d w0), .second, own_dv (FP.l2d w1), .second, own_dv (FP.l2d w2), .second, own_dv (FP.l2d w3), .second, iv e0', iv e1', iv e2', iv e3', rv b99, own_dv (18442240474082181120 : UInt64), .second, .unset, .unset, .unset] []))
          refine own_st (fun t k => X113.ldc2DoubleC hx hown (mvT hZ (hw _ (List.mem_of_getElem? (i := 41) rfl))) (g := (mkF m 259 #[iv x0, iv x1, iv x2, iv x3, iv 3, iv k0, iv y28, rv b1, own_dv (FP.l2d w0), .second, own_dv (FP.l2d w1), .second, own_dv (FP.l2d w2), .second, own_dv (FP.l2d w3), .second, iv e0', iv e1', iv e2', iv e3', rv b99, own_dv (18442240474082181120 : UInt64), .second, .unset, .unset, .unset] [])) rfl (hb hby at_259) t k) ?_
          show own_Go p e below G (T113.setTop (mkF m 262 #[iv x0, iv x1, iv x2, iv x3, iv 3, iv k0, iv y28, rv b1, own_dv (FP.l2d w0), .second, own_dv (FP.l2d w1), .second, own_dv (FP.l2d w2), .second, own_dv (FP.l2d w3), .second, iv e0', iv e1', iv e2', iv e3', rv b99, own_dv (18442240474082181120 : UInt64), .second, .unset, .unset, .unset] [(.double (18442240474082181120 : UInt64))]))
          refine own_st (fun t k => XS.dstore X113.here hx rfl (hb hby at_262) rfl (l' := #[iv x0, iv x1, iv x2, iv x3, iv 3, iv k0, iv y28, rv b1, own_dv (FP.l2d w0), .second, own_dv (FP.l2d w1), .second, own_dv (FP.l2d w2), .second, own_dv (FP.l2d w3), .second, iv e0', iv e1', iv e2', iv e3', rv b99, own_dv (18442240474082181120 : UInt64), .second, own_dv (18442240474082181120 : UInt64), .second, .unset]) rfl k) ?_
          refine own_st (fun t k => XS.goto X113.here hx rfl (pc0 := 264) (pc' := 387) rfl (hb hby at_264) (by decide) (by decide) k) ?_
          refine own_st (fun t k => XS.dload X113.here hx rfl (hb hby at_387) rfl  k) ?_
          show own_Go p e below G (T113.setTop (mkF m 389 #[iv x0, iv x1, iv x2, iv x3, iv 3, iv k0, iv y28, rv b1, own_dv (FP.l2d w0), .second, own_dv (FP.l2d w1), .second, own_dv (FP.l2d w2), .second, own_dv (FP.l2d w3), .second, iv e0', iv e1', iv e2', iv e3', rv b99, own_dv (18442240474082181120 : UInt64), .second, own_dv (18442240474082181120 : UInt64), .second, .unset] [(.double (18442240474082181120 : UInt64))]))
          refine own_st (fun t k => XS.dload X113.here hx rfl (hb hby at_389) rfl  k) ?_
          show own_Go p e below G (T113.setTop (mkF m 391 #[iv x0, iv x1, iv x2, iv x3, iv 3, iv k0, iv y28, rv b1, own_dv (FP.l2d w0), .second, own_dv (FP.l2d w1), .second, own_dv (FP.l2d w2), .second, own_dv (FP.l2d w3), .second, iv e0', iv e1', iv e2', iv e3', rv b99, own_dv (18442240474082181120 : UInt64), .second, own_dv (18442240474082181120 : UInt64), .second, .unset] [(.double (18442240474082181120 : UInt64)), (.double (18442240474082181120 : UInt64))]))
          refine own_st (fun t k => XS.dcmpS X113.here hx rfl (hb hby at_391) rfl (dcmpV_self (by decide +kernel) _) k) ?_
          show own_Go p e below G (T113.setTop (mkF m 392 #[iv x0, iv x1, iv x2, iv x3, iv 3, iv k0, iv y28, rv b1, own_dv (FP.l2d w0), .second, own_dv (FP.l2d w1), .second, own_dv (FP.l2d w2), .second, own_dv (FP.l2d w3), .second, iv e0', iv e1', iv e2', iv e3', rv b99, own_dv (18442240474082181120 : UInt64), .second, own_dv (18442240474082181120 : UInt64), .second, .unset] [(.int (0 : Int32))]))
          refine own_st (fun t k => XS.ifNo X113.here hx rfl (hb hby at_392) rfl ((if0 _ _).trans (teq (by decide)).2) k) ?_
          show own_Go p e below G (T113.setTop (mkF m 395 #[iv x0, iv x1, iv x2, iv x3, iv 3, iv k0, iv y28, rv b1, own_dv (FP.l2d w0), .second, own_dv (FP.l2d w1), .second, own_dv (FP.l2d w2), .second, own_dv (FP.l2d w3), .second, iv e0', iv e1', iv e2', iv e3', rv b99, own_dv (18442240474082181120 : UInt64), .second, own_dv (18442240474082181120 : UInt64), .second, .unset] []))
          refine own_st (fun t k => XS.iconst X113.here hx rfl (hb hby at_395) k) ?_
          refine own_st (fun t k => XS.goto X113.here hx rfl (pc0 := 396) (pc' := 400) rfl (hb hby at_396) (by decide) (by decide) k) ?_
          show own_Go p e below G (T113.setTop (mkF m 400 #[iv x0, iv x1, iv x2, iv x3, iv 3, iv k0, iv y28, rv b1, own_dv (FP.l2d w0), .second, own_dv (FP.l2d w1), .second, own_dv (FP.l2d w2), .second, own_dv (FP.l2d w3), .second, iv e0', iv e1', iv e2', iv e3', rv b99, own_dv (18442240474082181120 : UInt64), .second, own_dv (18442240474082181120 : UInt64), .second, .unset] [(.int (1 : Int32))]))
          rw [hG]
          exact own_retZ X113 hx hlk (t := .boolean) hret (by simp) (hb hby at_400) ⟨rfl, N0⟩ (by decide) (by decide)
      by_cases c155_114 : y28 = (0 : Int32)
      · skip
        refine own_st (fun t k => XS.ifYes X99.here hx rfl (pc0 := 155) (pc' := 162) rfl (hb hby at_155) rfl ((if0 _ _).trans (teq c155_114).1) (by decide) (by decide) k) ?_
        show own_Go p e below G (T99.setTop (mkF m 162 #[iv x0, iv x1, iv x2, iv x3, iv 3, iv k0, iv y28, rv b1, own_dv (FP.l2d w0), .second, own_dv (FP.l2d w1), .second, own_dv (FP.l2d w2), .second, own_dv (FP.l2d w3), .second, iv e0', iv e1', iv e2', iv e3', .unset, .unset, .unset, .unset, .unset, .unset] [(.int (3 : Int32)), (.ref b99), (.ref b99)]))
        refine own_st (fun t k => XS.aload X99.here hx rfl (hb hby at_162) rfl rfl  k) ?_
        show own_Go p e below G (T99.setTop (mkF m 164 #[iv x0, iv x1, iv x2, iv x3, iv 3, iv k0, iv y28, rv b1, own_dv (FP.l2d w0), .second, own_dv (FP.l2d w1), .second, own_dv (FP.l2d w2), .second, own_dv (FP.l2d w3), .second, iv e0', iv e1', iv e2', iv e3', .unset, .unset, .unset, .unset, .unset, .unset] [(.ref b1), (.int (3 : Int32)), (.ref b99), (.ref b99)]))
        exact J164 _ (Or.inr ⟨b1, _, _, _, _, _, rfl, V_b1, ninS ne_b1_b99 nin0⟩)
      · skip
        refine own_st (fun t k => XS.ifNo X99.here hx rfl (hb hby at_155) rfl ((if0 _ _).trans (feq c155_114).1) k) ?_
        show own_Go p e below G (T99.setTop (mkF m 158 #[iv x0, iv x1, iv x2, iv x3, iv 3, iv k0, iv y28, rv b1, own_dv (FP.l2d w0), .second, own_dv (FP.l2d w1), .second, own_dv (FP.l2d w2), .second, own_dv (FP.l2d w3), .second, iv e0', iv e1', iv e2', iv e3', .unset, .unset, .unset, .unset, .unset, .unset] [(.int (3 : Int32)), (.ref b99), (.ref b99)]))
        refine own_st (fun t k => XS.aconstNull X99.here hx rfl (hb hby at_158) k) ?_
        refine own_st (fun t k => XS.goto X99.here hx rfl (pc0 := 159) (pc' := 164) rfl (hb hby at_159) (by decide) (by decide) k) ?_
        show own_Go p e below G (T99.setTop (mkF m 164 #[iv x0, iv x1, iv x2, iv x3, iv 3, iv k0, iv y28, rv b1, own_dv (FP.l2d w0), .second, own_dv (FP.l2d w1), .second, own_dv (FP.l2d w2), .second, own_dv (FP.l2d w3), .second, iv e0', iv e1', iv e2', iv e3', .unset, .unset, .unset, .unset, .unset, .unset] [.null, (.int (3 : Int32)), (.ref b99), (.ref b99)]))
        exact J164 _ (Or.inl rfl)
  by_cases c20_115 : (((x0.toUInt32 >>> ((5 : Int32) &&& 31).toUInt32).toInt32) &&& (1 : Int32)) = (0 : Int32)
  · skip
    refine own_st (fun t k => XS.ifYes X0.here hx rfl (pc0 := 20) (pc' := 27) rfl (hb hby at_20) rfl ((if0 _ _).trans (teq c20_115).1) (by decide) (by decide) k) ?_
    show own_Go p e below G (s₁.setTop (mkF m 27 #[iv x0, iv x1, iv x2, iv x3, iv (x0 &&& (3 : Int32)), iv k0, .unset, .unset, .unset, .unset, .unset, .unset, .unset, .unset, .unset, .unset, .unset, .unset, .unset, .unset, .unset, .unset, .unset, .unset, .unset, .unset] []))
    refine own_st (fun t k => XS.iconst X0.here hx rfl (hb hby at_27) k) ?_
    show own_Go p e below G (s₁.setTop (mkF m 28 #[iv x0, iv x1, iv x2, iv x3, iv (x0 &&& (3 : Int32)), iv k0, .unset, .unset, .unset, .unset, .unset, .unset, .unset, .unset, .unset, .unset, .unset, .unset, .unset, .unset, .unset, .unset, .unset, .unset, .unset, .unset] [(.int (0 : Int32))]))
    exact J28 _
  · skip
    refine own_st (fun t k => XS.ifNo X0.here hx rfl (hb hby at_20) rfl ((if0 _ _).trans (feq c20_115).1) k) ?_
    show own_Go p e below G (s₁.setTop (mkF m 23 #[iv x0, iv x1, iv x2, iv x3, iv (x0 &&& (3 : Int32)), iv k0, .unset, .unset, .unset, .unset, .unset, .unset, .unset, .unset, .unset, .unset, .unset, .unset, .unset, .unset, .unset, .unset, .unset, .unset, .unset, .unset] []))
    refine own_st (fun t k => XS.iconst X0.here hx rfl (hb hby at_23) k) ?_
    refine own_st (fun t k => XS.goto X0.here hx rfl (pc0 := 24) (pc' := 28) rfl (hb hby at_24) (by decide) (by decide) k) ?_
    show own_Go p e below G (s₁.setTop (mkF m 28 #[iv x0, iv x1, iv x2, iv x3, iv (x0 &&& (3 : Int32)), iv k0, .unset, .unset, .unset, .unset, .unset, .unset, .unset, .unset, .unset, .unset, .unset, .unset, .unset, .unset, .unset, .unset, .unset, .unset, .unset, .unset] [(.int (1 : Int32))]))
    exact J28 _
set_option maxRecDepth 65536 in
set_option maxHeartbeats 40000000 in
theorem comes_1 {Post : Tables → Env → Array Value → State → Outcome → State → Prop} (hpost : ∀ tb e args s v u, (limb_1_1.after args s (.returned v) u = true ∧ limb_1_2.after args s (.returned v) u = true) → FrameEnd s (.returned v) u (Jvm.fieldLocs frame_1_writes args s ++ Jvm.arrayLocs frame_1_arrays args s ++ Jvm.staticLocs frame_1_statics s) 24 128 → Post tb e args s (.returned v) u) :
    ArmFor flags0 classFile x code maxLocals ret World_1 tables_1 room_1 Calls_1 rest_1 Pre_1 Post := by
  intro l hfl _ _ p e ha hc hk s m args below hf hA hF happ hP
  obtain ⟨hcalls, hrest, hpre⟩ := hP
  obtain ⟨-, -, -, hnamed, -, -, -, hat⟩ := (Spec.applies_iff hf).mp happ
  obtain ⟨hg, hn⟩ := and_e (Cond.before_iff.mp (show (Jvm.Cond.and given_1 narrow_1).before args s = true from hpre))
  obtain ⟨gc, gr0⟩ := and_e hg
  obtain ⟨gv0, gr1⟩ := and_e gr0
  obtain ⟨gv1, gr2⟩ := and_e gr1
  obtain ⟨gv2, gv3⟩ := and_e gr2
  obtain ⟨w0, w1, w2, w3, rfl⟩ : ∃ w0 w1 w2 w3 : Value, args = #[w0, w1, w2, w3] := by
    have hs : args.size = 4 := by simpa [Cond.value, given_1] using gc
    obtain ⟨L⟩ := args
    match L, hs with
    | [w0, w1, w2, w3], _ => exact ⟨w0, w1, w2, w3, rfl⟩
  have hw := fun d (hd : d ∈ tables_1) => atoms_spec (ws := Jvm.Cond.code x code maxLocals ret :: tables_1) hat d (List.mem_cons_of_mem _ hd)
  have hfit : Fit s := fun {y c} hc i hi => by
    obtain ⟨ha, rfl⟩ := Array.getElem?_eq_some_iff.mp hc
    have q := List.all_eq_true.mp ((Array.all_eq_true_iff_forall_mem.mp hF) _ (Array.getElem_mem ha)) i (List.mem_range.mpr hi)
    simpa [Array.getElem?_eq_getElem hi] using q
  obtain ⟨i0, ei0⟩ := is_v gv0
  obtain rfl : w0 = (.int i0) := Option.some.inj ei0
  obtain ⟨i1, ei1⟩ := is_v gv1
  obtain rfl : w1 = (.int i1) := Option.some.inj ei1
  obtain ⟨i2, ei2⟩ := is_v gv2
  obtain rfl : w2 = (.int i2) := Option.some.inj ei2
  obtain ⟨i3, ei3⟩ := is_v gv3
  obtain rfl : w3 = (.int i3) := Option.some.inj ei3
  obtain ⟨n, o, h1, h2, h3, _, L, rfl, ⟨rfl, N⟩, hq⟩ := rm0 l s _ hw tables_1 i0 i1 i2 i3 s.heap s.heap.size (Nat.le_refl _) p e ha hc hk s m _ below hf ((Spec.applies_iff_loose hf).mp happ).1 ⟨rfl, State.Warmed39.refl s, rfl⟩ trivial
  refine ⟨n, _, h1, h2, h3, hpost _ _ _ _ _ _ ⟨Cond.after_iff.mpr rfl, Cond.after_iff.mpr (eq_i res_at (Term.int_eval (1)) rfl)⟩ ⟨hq.1, hq.2.1, (hq.2.2.sift fun y hy => Or.inr (N y hy)).mono (by decide) (by decide)⟩⟩
theorem main_1_1 : Claimed_1_1 := comes_1 fun _ _ _ _ _ _ h hF => ⟨h.1, hF⟩
theorem main_1_2 : Claimed_1_2 := comes_1 fun _ _ _ _ _ _ h hF => ⟨h.2, hF⟩
end Jvm.Pilot.@@N@@
namespace Jvm.Pilot.@@N@@
open Jvm Jvm.ClassFile Sem Op Lib Jvm.Free Jvm.Stand Jvm.Pilot.@@N@@.Jvm.D
/-! MADE BY PROGRAM (witnessworld.py) out of the Statement's table words and the real class files: 11 classes; the members and pool entries that the words name. The judged class is class 1, her method 1. -/
namespace start1
open Jvm.ClassFile
def u (s : String) : CpInfo := .utf8 (stringToUtf16 s)
/-- a pool by its gaps: so many unusable entries, then the entry; so many at the end -/
def gap : Nat → List CpInfo → List CpInfo
  | 0, r => r
  | n + 1, r => .unusable :: gap n r
def poolList (es : List (Nat × CpInfo)) (last : Nat) : List CpInfo := es.foldr (fun e r => gap e.1 (e.2 :: r)) (gap last [])
def pool (es : List (Nat × CpInfo)) (last : Nat) : Array CpInfo := ⟨poolList es last⟩
def fileOf (pool : Array CpInfo) (this : Nat) (attrs : Array Attribute := #[]) (ms : Array MethodInfo := #[]) (fl : Nat := 33) (sup : Nat := 0) (ifs : Array Nat := #[]) (fds : Array FieldInfo := #[]) : ClassFile where
  minorVersion := 0
  majorVersion := 65
  constantPool := pool
  accessFlags := fl
  thisClass := this
  superClass := sup
  interfaces := ifs
  fields := fds
  methods := ms
  attributes := attrs
def plain (name : String) (sup : Option ClassId) : Class where
  name := name
  kind := .ordinary
  loader := none
  accessFlags := 33
  super := sup
  interfaces := #[]
  cf := none
  fields := #[]
  methods := #[]
  instanceTypes := #[]
  staticTypes := #[]
  resolved := #[]
  callSites := []
  init := .initialized
  statics := none
  mirror := none

def pool0 : Array CpInfo := pool [(5, u "<init>"), (0, u "()V"), (1, .class_ 10), (1, u "java/lang/Object")] 113

def k0c0 : Code := { maxStack := 0, maxLocals := 1, code := object_method_1_code, exceptionTable := #[], attributes := #[] }
def k0m0 : Method := { name := "<init>", desc := "()V", sig := { parameters := [], returnType := none }, accessFlags := 1, code := some k0c0 }
/-- java/lang/Object -/
def k0 : Class := { plain "java/lang/Object" none with
  accessFlags := 33
  interfaces := #[]
  cf := some (fileOf pool0 8 #[] #[{ accessFlags := 1, nameIndex := 5, descriptorIndex := 6, attributes := #[] }] 33 0 #[] #[])
  fields := #[]
  methods := #[k0m0]
  instanceTypes := #[]
  staticTypes := #[]
  resolved := Array.replicate 124 none
  statics := none }

def pool1 : Array CpInfo := pool [(2, .class_ 4), (1, u "java/lang/Object"), (0, u "<init>"), (0, u "()V"), (0, .class_ 8), (0, u "com/example/thinleaf/thinleaf/prune/Nearest"), (0, .methodref 7 10), (0, .nameAndType 5 11), (0, u "(I[I)V"), (0, .methodref 7 13), (0, .nameAndType 14 15), (0, u "offer"), (0, u "(ID)Z"), (0, .methodref 7 17), (0, .nameAndType 18 19), (0, u "least"), (0, u "()D"), (2, .double 9218868437227405312), (1, .double 18442240474082181120), (1, .double 13860109328209412096), (1, .methodref 29 30), (0, .class_ 31), (0, .nameAndType 32 33), (0, u "com/example/thinleaf/thinleaf/prune/NearestLeastPinLaw"), (0, u "cs"), (0, u "([DII)V"), (2, u "law"), (0, u "(IIII)Z")] 7

def k1m0 : Method := { name := "<init>", desc := "()V", sig := { parameters := [], returnType := none }, accessFlags := 1, code := none }
def k1c1 : Code := { maxStack := 5, maxLocals := 26, code := code, exceptionTable := #[], attributes := #[] }
def k1m1 : Method := { name := "law", desc := "(IIII)Z", sig := { parameters := [.int, .int, .int, .int], returnType := some .boolean }, accessFlags := 9, code := some k1c1 }
def k1c2 : Code := { maxStack := 4, maxLocals := 5, code := method_3_code, exceptionTable := #[], attributes := #[] }
def k1m2 : Method := { name := "cs", desc := "([DII)V", sig := { parameters := [(.array .double), .int, .int], returnType := none }, accessFlags := 10, code := some k1c2 }
/-- com/example/thinleaf/thinleaf/prune/NearestLeastPinLaw -/
def k1 : Class := { plain "com/example/thinleaf/thinleaf/prune/NearestLeastPinLaw" (some 0) with
  accessFlags := 49
  interfaces := #[]
  cf := some (fileOf pool1 29 #[] #[{ accessFlags := 1, nameIndex := 5, descriptorIndex := 6, attributes := #[] }, { accessFlags := 9, nameIndex := 36, descriptorIndex := 37, attributes := #[] }, { accessFlags := 10, nameIndex := 32, descriptorIndex := 33, attributes := #[] }] 49 2 #[] #[])
  fields := #[]
  methods := #[k1m0, k1m1, k1m2]
  instanceTypes := #[]
  staticTypes := #[]
  resolved := Array.replicate 45 none
  statics := none }

def pool2 : Array CpInfo := pool [(2, .class_ 4), (1, u "com/example/thinleaf/thinleaf/prune/Nearest"), (0, u "<init>"), (0, u "(I[I)V"), (0, .methodref 8 9), (0, .class_ 10), (0, .nameAndType 5 11), (0, u "java/lang/Object"), (0, u "()V"), (0, .fieldref 2 13), (0, .nameAndType 14 15), (0, u "numbers"), (0, u "[I"), (0, .fieldref 2 17), (0, .nameAndType 18 19), (0, u "cosines"), (0, u "[D"), (0, .fieldref 2 21), (0, .nameAndType 22 15), (0, u "places"), (0, .fieldref 2 24), (0, .nameAndType 25 26), (0, u "size"), (0, u "I"), (2, .double 18442240474082181120), (1, .double 9218868437227405312), (1, .methodref 2 34), (0, .nameAndType 35 36), (0, u "below"), (0, u "(IDID)Z"), (0, .methodref 2 38), (0, .nameAndType 39 40), (0, u "sink"), (0, u "(IDI)V"), (9, u "least"), (0, u "()D"), (1, u "offer"), (0, u "(ID)Z")] 3

def k2c0 : Code := { maxStack := 2, maxLocals := 3, code := prog_219_method_2_code, exceptionTable := #[], attributes := #[] }
def k2m0 : Method := { name := "<init>", desc := "(I[I)V", sig := { parameters := [.int, (.array .int)], returnType := none }, accessFlags := 0, code := some k2c0 }
def k2c1 : Code := { maxStack := 2, maxLocals := 3, code := prog_219_method_7_code, exceptionTable := #[], attributes := #[] }
def k2m1 : Method := { name := "least", desc := "()D", sig := { parameters := [], returnType := some .double }, accessFlags := 0, code := some k2c1 }
def k2c2 : Code := { maxStack := 7, maxLocals := 7, code := prog_219_method_8_code, exceptionTable := #[], attributes := #[] }
def k2m2 : Method := { name := "offer", desc := "(ID)Z", sig := { parameters := [.int, .double], returnType := some .boolean }, accessFlags := 0, code := some k2c2 }
def k2c3 : Code := { maxStack := 7, maxLocals := 7, code := prog_219_method_10_code, exceptionTable := #[], attributes := #[] }
def k2m3 : Method := { name := "sink", desc := "(IDI)V", sig := { parameters := [.int, .double, .int], returnType := none }, accessFlags := 2, code := some k2c3 }
def k2c4 : Code := { maxStack := 4, maxLocals := 7, code := prog_219_method_11_code, exceptionTable := #[], attributes := #[] }
def k2m4 : Method := { name := "below", desc := "(IDID)Z", sig := { parameters := [.int, .double, .int, .double], returnType := some .boolean }, accessFlags := 2, code := some k2c4 }
/-- com/example/thinleaf/thinleaf/prune/Nearest -/
def k2 : Class := { plain "com/example/thinleaf/thinleaf/prune/Nearest" (some 0) with
  accessFlags := 48
  interfaces := #[]
  cf := some (fileOf pool2 2 #[] #[{ accessFlags := 0, nameIndex := 5, descriptorIndex := 6, attributes := #[] }, { accessFlags := 0, nameIndex := 50, descriptorIndex := 51, attributes := #[] }, { accessFlags := 0, nameIndex := 53, descriptorIndex := 54, attributes := #[] }, { accessFlags := 2, nameIndex := 39, descriptorIndex := 40, attributes := #[] }, { accessFlags := 2, nameIndex := 35, descriptorIndex := 36, attributes := #[] }] 48 8 #[] #[{ accessFlags := 18, nameIndex := 14, descriptorIndex := 15, attributes := #[] }, { accessFlags := 18, nameIndex := 18, descriptorIndex := 19, attributes := #[] }, { accessFlags := 18, nameIndex := 22, descriptorIndex := 15, attributes := #[] }, { accessFlags := 2, nameIndex := 25, descriptorIndex := 26, attributes := #[] }])
  fields := #[{ name := "numbers", type := (.array .int), accessFlags := 18, slot := 0, constantValue := 0 }, { name := "cosines", type := (.array .double), accessFlags := 18, slot := 1, constantValue := 0 }, { name := "places", type := (.array .int), accessFlags := 18, slot := 2, constantValue := 0 }, { name := "size", type := .int, accessFlags := 2, slot := 3, constantValue := 0 }]
  methods := #[k2m0, k2m1, k2m2, k2m3, k2m4]
  instanceTypes := #[(.array .int), (.array .double), (.array .int), .int]
  staticTypes := #[]
  resolved := Array.replicate 58 none
  statics := none }

def pool3 : Array CpInfo := pool [(1, u "java/lang/Cloneable"), (0, .class_ 1), (0, u "java/lang/Object"), (0, .class_ 3)] 3

/-- java/lang/Cloneable -/
def k3 : Class := { plain "java/lang/Cloneable" (some 0) with
  accessFlags := 1537
  interfaces := #[]
  cf := some (fileOf pool3 2 #[] #[] 1537 4 #[] #[])
  fields := #[]
  methods := #[]
  instanceTypes := #[]
  staticTypes := #[]
  resolved := Array.replicate 8 none
  statics := none }

def pool4 : Array CpInfo := pool [(1, u "java/io/Serializable"), (0, .class_ 1), (0, u "java/lang/Object"), (0, .class_ 3)] 3

/-- java/io/Serializable -/
def k4 : Class := { plain "java/io/Serializable" (some 0) with
  accessFlags := 1537
  interfaces := #[]
  cf := some (fileOf pool4 2 #[] #[] 1537 4 #[] #[])
  fields := #[]
  methods := #[]
  instanceTypes := #[]
  staticTypes := #[]
  resolved := Array.replicate 8 none
  statics := none }

/-- the primitive byte -/
def k5 : Class := { plain "byte" none with kind := .primitive 'B', accessFlags := 0x411 }
/-- [B -/
def k6 : Class := { plain "[B" (some 0) with kind := .array 5 .byte, interfaces := #[3, 4], accessFlags := 1041 }

/-- the primitive double -/
def k7 : Class := { plain "double" none with kind := .primitive 'D', accessFlags := 0x411 }
/-- [D -/
def k8 : Class := { plain "[D" (some 0) with kind := .array 7 .double, interfaces := #[3, 4], accessFlags := 1041 }

/-- the primitive int -/
def k9 : Class := { plain "int" none with kind := .primitive 'I', accessFlags := 0x411 }
/-- [I -/
def k10 : Class := { plain "[I" (some 0) with kind := .array 9 .int, interfaces := #[3, 4], accessFlags := 1041 }

def heap : Heap := #[]
def classes : Array Class := #[k0, k1, k2, k3, k4, k5, k6, k7, k8, k9, k10]
def interned : List (Array UInt16 × Addr) := []
def slotsUsed : Nat := 0
def theMethod : MethodId := ⟨1, 1⟩
def args0 : Array Value := #[.int 5, .int 5, .int 5, .int 5]
def aboutOver (below : List Frame) : State where
  vm := { classes := classes, interned := interned.toArray }
  heap := heap
  slotsUsed := slotsUsed
  threads := #[{ frames := .invoking theMethod args0 :: below }]
def below0 : List Frame := [.native { method := ⟨0, 0⟩, args := #[] }]
def about1 : State := aboutOver below0
def p0 : Program := .bare "" "" ""
def e0 : Env := launch0.env 0 0 0
theorem w_frames : about1.frames = Frame.invoking theMethod args0 :: below0 := rfl
set_option maxRecDepth 65536 in
theorem w_args : argsFit about1.vm theMethod args0 = true := by decide +kernel
set_option maxRecDepth 65536 in
theorem w_heap : heapFits about1 = true := by decide +kernel
set_option maxRecDepth 65536 in
theorem w_runnable : about1.curStatus? = some .runnable := by decide +kernel
set_option maxRecDepth 65536 in
theorem w_alone : about1.alone = true := by decide +kernel
set_option maxRecDepth 65536 in
theorem w_named : about1.methodNamed? x = some theMethod := by decide +kernel
set_option maxRecDepth 65536 in
theorem w_hears : about1.hears theMethod below0 = true := by decide +kernel
set_option maxRecDepth 65536 in
theorem w_ripe : about1.ripe theMethod args0 below0 = true := by decide +kernel
theorem w_running : about1.status = .running := rfl
set_option maxRecDepth 65536 in
theorem w_room : about1.hasRoom e0.platform room_1 = true :=
  launch0.hasRoom_least _ room_1 (by decide +kernel) (by decide +kernel) (by decide +kernel) (by decide +kernel) (by decide +kernel) (by decide +kernel)
theorem allAtoms_all (ts : List Jvm.Cond) (a : Array Jvm.Value) (st : Jvm.State) : (allAtoms ts).before a st = ts.all (fun c => c.before a st) := by
  induction ts with
  | nil => rfl
  | cons c t ih =>
    show (Jvm.Cond.and c (allAtoms t)).before a st = _
    rw [Jvm.Cond.before_and, ih, List.all_cons]
def words1 : List Jvm.Cond := Jvm.Cond.code x code maxLocals ret :: tables_1
/-- a 'code' word, met by the world's own term for the bytes: nothing is compared byte by byte -/
theorem code_word {y : MethodName} {bytes : ByteArray} {mx : Nat} {rt : Option FieldType} {a : Array Value} {s : State} {m : MethodId} {meth : Method} {c : Code} (h1 : s.methodNamed? y = some m) (h2 : s.vm.method? m = some meth) (h3 : meth.code = some c) (h4 : c.code = bytes)
    (h5 : (c.maxLocals == mx && c.exceptionTable.isEmpty && decide (c.maxStack ≤ mostOperands) && decide (meth.sig.returnType = rt) && !meth.locks && decide (parseMethodDescriptor y.desc = some meth.sig)) = true) : (Jvm.Cond.code y bytes mx rt).before a s = true := by
  simp only [Bool.and_eq_true, beq_iff_eq, Bool.not_eq_true', decide_eq_true_eq] at h5
  obtain ⟨⟨⟨⟨⟨g1, g2⟩, g3⟩, g4⟩, g5⟩, g6⟩ := h5
  simp [Cond.before, Cond.holds, Cond.value, h1, h2, h3, h4, g1, g2, g3, g4, g5, g6]
def isCode : Jvm.Cond → Bool
  | .code _ _ _ _ => true
  | _ => false
theorem all_split {L : List Jvm.Cond} {P : Jvm.Cond → Bool} (h1 : L.all (fun c => isCode c || P c) = true) (h2 : ∀ c ∈ L.filter isCode, P c = true) : L.all P = true := by
  refine List.all_eq_true.mpr fun c hc => ?_
  have h := List.all_eq_true.mp h1 c hc
  rcases Bool.eq_false_or_eq_true (isCode c) with hi | hi
  · exact h2 c (List.mem_filter.mpr ⟨hc, hi⟩)
  · simpa [hi] using h
set_option maxRecDepth 65536 in
theorem w_c0 : (Jvm.Cond.code x code maxLocals ret).before args0 about1 = true := code_word (m := ⟨1, 1⟩) (meth := k1m1) (c := k1c1) (by decide +kernel) rfl rfl rfl (by decide +kernel)
set_option maxRecDepth 65536 in
theorem w_c1 : (Jvm.Cond.code ({ cls := "com/example/thinleaf/thinleaf/prune/Nearest", name := "<init>", desc := "(I[I)V" } : Jvm.MethodName) prog_219_method_2_code (3 : Nat) (Option.none : Option Jvm.ClassFile.FieldType)).before args0 about1 = true := code_word (m := ⟨2, 0⟩) (meth := k2m0) (c := k2c0) (by decide +kernel) rfl rfl rfl (by decide +kernel)
set_option maxRecDepth 65536 in
theorem w_c2 : (Jvm.Cond.code ({ cls := "java/lang/Object", name := "<init>", desc := "()V" } : Jvm.MethodName) object_method_1_code (1 : Nat) (Option.none : Option Jvm.ClassFile.FieldType)).before args0 about1 = true := code_word (m := ⟨0, 0⟩) (meth := k0m0) (c := k0c0) (by decide +kernel) rfl rfl rfl (by decide +kernel)
set_option maxRecDepth 65536 in
theorem w_c3 : (Jvm.Cond.code ({ cls := "com/example/thinleaf/thinleaf/prune/Nearest", name := "least", desc := "()D" } : Jvm.MethodName) prog_219_method_7_code (3 : Nat) (Option.some Jvm.ClassFile.FieldType.double)).before args0 about1 = true := code_word (m := ⟨2, 1⟩) (meth := k2m1) (c := k2c1) (by decide +kernel) rfl rfl rfl (by decide +kernel)
set_option maxRecDepth 65536 in
theorem w_c4 : (Jvm.Cond.code ({ cls := "com/example/thinleaf/thinleaf/prune/Nearest", name := "offer", desc := "(ID)Z" } : Jvm.MethodName) prog_219_method_8_code (7 : Nat) (Option.some Jvm.ClassFile.FieldType.boolean)).before args0 about1 = true := code_word (m := ⟨2, 2⟩) (meth := k2m2) (c := k2c2) (by decide +kernel) rfl rfl rfl (by decide +kernel)
set_option maxRecDepth 65536 in
theorem w_c5 : (Jvm.Cond.code ({ cls := "com/example/thinleaf/thinleaf/prune/Nearest", name := "below", desc := "(IDID)Z" } : Jvm.MethodName) prog_219_method_11_code (7 : Nat) (Option.some Jvm.ClassFile.FieldType.boolean)).before args0 about1 = true := code_word (m := ⟨2, 4⟩) (meth := k2m4) (c := k2c4) (by decide +kernel) rfl rfl rfl (by decide +kernel)
set_option maxRecDepth 65536 in
theorem w_c6 : (Jvm.Cond.code ({ cls := "com/example/thinleaf/thinleaf/prune/NearestLeastPinLaw", name := "cs", desc := "([DII)V" } : Jvm.MethodName) method_3_code (5 : Nat) (Option.none : Option Jvm.ClassFile.FieldType)).before args0 about1 = true := code_word (m := ⟨1, 2⟩) (meth := k1m2) (c := k1c2) (by decide +kernel) rfl rfl rfl (by decide +kernel)
set_option maxRecDepth 65536 in
theorem w_c7 : (Jvm.Cond.code ({ cls := "com/example/thinleaf/thinleaf/prune/Nearest", name := "sink", desc := "(IDI)V" } : Jvm.MethodName) prog_219_method_10_code (7 : Nat) (Option.none : Option Jvm.ClassFile.FieldType)).before args0 about1 = true := code_word (m := ⟨2, 3⟩) (meth := k2m3) (c := k2c3) (by decide +kernel) rfl rfl rfl (by decide +kernel)
def codes1 : List Jvm.Cond := [Jvm.Cond.code x code maxLocals ret, Jvm.Cond.code ({ cls := "com/example/thinleaf/thinleaf/prune/Nearest", name := "<init>", desc := "(I[I)V" } : Jvm.MethodName) prog_219_method_2_code (3 : Nat) (Option.none : Option Jvm.ClassFile.FieldType), Jvm.Cond.code ({ cls := "java/lang/Object", name := "<init>", desc := "()V" } : Jvm.MethodName) object_method_1_code (1 : Nat) (Option.none : Option Jvm.ClassFile.FieldType), Jvm.Cond.code ({ cls := "com/example/thinleaf/thinleaf/prune/Nearest", name := "least", desc := "()D" } : Jvm.MethodName) prog_219_method_7_code (3 : Nat) (Option.some Jvm.ClassFile.FieldType.double), Jvm.Cond.code ({ cls := "com/example/thinleaf/thinleaf/prune/Nearest", name := "offer", desc := "(ID)Z" } : Jvm.MethodName) prog_219_method_8_code (7 : Nat) (Option.some Jvm.ClassFile.FieldType.boolean), Jvm.Cond.code ({ cls := "com/example/thinleaf/thinleaf/prune/Nearest", name := "below", desc := "(IDID)Z" } : Jvm.MethodName) prog_219_method_11_code (7 : Nat) (Option.some Jvm.ClassFile.FieldType.boolean), Jvm.Cond.code ({ cls := "com/example/thinleaf/thinleaf/prune/NearestLeastPinLaw", name := "cs", desc := "([DII)V" } : Jvm.MethodName) method_3_code (5 : Nat) (Option.none : Option Jvm.ClassFile.FieldType), Jvm.Cond.code ({ cls := "com/example/thinleaf/thinleaf/prune/Nearest", name := "sink", desc := "(IDI)V" } : Jvm.MethodName) prog_219_method_10_code (7 : Nat) (Option.none : Option Jvm.ClassFile.FieldType)]
set_option maxRecDepth 65536 in
theorem codes_eq : words1.filter isCode = codes1 := rfl
theorem w_codes : ∀ c ∈ words1.filter isCode, c.before args0 about1 = true := by
  rw [codes_eq]
  intro c hc
  simp only [codes1, List.mem_cons, List.not_mem_nil, or_false] at hc
  rcases hc with rfl | rfl | rfl | rfl | rfl | rfl | rfl | rfl
  · exact w_c0
  · exact w_c1
  · exact w_c2
  · exact w_c3
  · exact w_c4
  · exact w_c5
  · exact w_c6
  · exact w_c7
set_option maxRecDepth 65536 in
theorem w_t1 : (words1.take 24).all (fun c => isCode c || c.before args0 about1) = true := by decide +kernel
set_option maxRecDepth 65536 in
theorem w_t2 : (words1.drop 24).all (fun c => isCode c || c.before args0 about1) = true := by decide +kernel
theorem w_tables : (allAtoms (Jvm.Cond.code x code maxLocals ret :: tables_1)).before args0 about1 = true := by
  rw [allAtoms_all]
  show words1.all (fun c => c.before args0 about1) = true
  refine all_split ?_ w_codes
  rw [← List.take_append_drop 24 words1, List.all_append, w_t1, w_t2]
  rfl
set_option maxRecDepth 65536 in
theorem w_case : (Jvm.Cond.and given_1 narrow_1).before args0 about1 = true := by decide +kernel
theorem w_applies : (headSpec (Jvm.Cond.code x code maxLocals ret :: tables_1) room_1).applies x e0.platform about1 = true :=
  (Spec.applies_iff w_frames).mpr ⟨w_running, w_runnable, w_alone, w_named, w_hears, w_ripe, w_room, w_tables⟩
theorem atStart : AtStart classFile x code maxLocals ret World_1 tables_1 room_1 Calls_1 rest_1 Pre_1 launch0 p0 e0 about1 theMethod args0 below0 :=
  ⟨lists_1, trivial, launch0.admits_env _ _ _, launch0.least_env, fairChoices_fair.cas, fairChoices_fair.clock, w_frames, w_args, w_heap, w_applies, trivial, trivial, w_case⟩
end start1
theorem witness_1 : WitnessClaimed_1 := ⟨start1.p0, start1.e0, start1.about1, start1.theMethod, start1.args0, start1.below0, start1.atStart⟩
end Jvm.Pilot.@@N@@
