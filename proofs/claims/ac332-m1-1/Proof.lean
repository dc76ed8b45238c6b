import JvmDerived
import JvmDerived.Pilot.@@N@@Statement
import JvmDerived.Pilot.@@N@@Code
set_option linter.unusedVariables false
set_option linter.unusedSimpArgs false
@@BLOCK:LamKit.lean.txt@@
namespace Jvm.RoadKit
open Sem ClassFile Op Lib Jvm.Stand Jvm.Free Jvm.LawKit
section New
variable {p : Program} {l : Launch} {e : Env} {R : Room} {s : State} {m : MethodId} {args : Array Value} {below : List Frame} {meth : Method} {c : Code} {T : State} {locs : List Loc} {cells slots : Nat}
theorem retI (X : Stand p l e R s m args below meth c T locs cells slots) (hx : p.tables.exec = Jvm.exec) {pc : Nat} {Ls : Array Slot} {z : Int32} {rest : List Value} (hret : meth.sig.returnType = some .int) (hd : decode c.code pc = .ok (.ireturn, 1)) {fs : List Frame}
    (hl : ∀ (f : JFrame) (acts : List Action), f.method = m → f.locked = none → f.entered = [] → (doReturn e (T.setTop f) acts (some (.int z))).1 = T.setFrames fs) : Steps p.tables e below (T.setTop (mkF m pc Ls (.int z :: rest))) (T.setFrames fs) := by
  have hm' : T.vm.method? m = some meth := X.method'
  have hn : narrow .int (.int z) = .int z := rfl
  show Steps p.tables e below (T.setTop { method := m, pc := pc, locals := Ls, stack := _ :: rest, locked := none }) _
  jvm_step X.here [X.here.top, hx, hd, hm', hret, hn]
  first | (intro acts; rw [hl _ acts rfl rfl rfl]) | rw [hl _ _ rfl rfl rfl]
  exact Steps.refl _
/-- where a run is to come: it has ended, returning, with Q of what it returned, its heap and what it wrote -/
def own_End (s : State) (below : List Frame) (Q : Option Value → Heap → List Loc → Prop) (cc nn : Nat) (t : State) (o : Outcome) : Prop :=
  t.status = .running ∧ Ended t below o ∧ ∃ v L, o = .returned v ∧ Q v t.heap L ∧ FrameEnd s o t L cc nn
/-- from A the run comes to such an end -/
def own_Go (p : Program) (e : Env) (below : List Frame) (G : State → Outcome → Prop) (A : State) : Prop := ∃ t o, Steps p.tables e below A t ∧ G t o
theorem own_st {G : State → Outcome → Prop} {A B : State} (h : ∀ t, Steps p.tables e below B t → Steps p.tables e below A t) (k : own_Go p e below G B) : own_Go p e below G A := by
  obtain ⟨t, o, h1, h2⟩ := k
  exact ⟨t, o, h t h1, h2⟩
theorem own_retZ (X : Stand p l e R s m args below meth c T locs cells slots) (hx : p.tables.exec = Jvm.exec) (hlk : meth.locks = false) {t : FieldType} (hret : meth.sig.returnType = some t) (ht : t = .boolean ∨ t = .byte ∨ t = .char ∨ t = .short)
    {pc : Nat} {Ls : Array Slot} {z : Int32} {rest : List Value} (hd : decode c.code pc = .ok (.ireturn, 1)) {Q : Option Value → Heap → List Loc → Prop} {cc nn : Nat} (hq : Q (some (.int (nar t z))) T.heap locs) (hc : cells ≤ cc) (hn : slots ≤ nn) :
    own_Go p e below (own_End s below Q cc nn) (T.setTop (mkF m pc Ls (.int z :: rest))) := by
  obtain ⟨fs, hr, hrun, hended, hW, hsame⟩ := X.leave (v := some (.int (nar t z))) (fun h => by rw [hret] at h; cases h) hlk
  exact ⟨_, _, retN X hx hret ht hd hr, hrun, hended, _, _, rfl, hq, ⟨_, rfl⟩, hW, hsame.mono hc hn⟩
theorem own_retI (X : Stand p l e R s m args below meth c T locs cells slots) (hx : p.tables.exec = Jvm.exec) (hlk : meth.locks = false) (hret : meth.sig.returnType = some .int)
    {pc : Nat} {Ls : Array Slot} {z : Int32} {rest : List Value} (hd : decode c.code pc = .ok (.ireturn, 1)) {Q : Option Value → Heap → List Loc → Prop} {cc nn : Nat} (hq : Q (some (.int z)) T.heap locs) (hc : cells ≤ cc) (hn : slots ≤ nn) :
    own_Go p e below (own_End s below Q cc nn) (T.setTop (mkF m pc Ls (.int z :: rest))) := by
  obtain ⟨fs, hr, hrun, hended, hW, hsame⟩ := X.leave (v := some (.int z)) (fun h => by rw [hret] at h; cases h) hlk
  exact ⟨_, _, retI X hx hret hd hr, hrun, hended, _, _, rfl, hq, ⟨_, rfl⟩, hW, hsame.mono hc hn⟩
theorem own_retA (X : Stand p l e R s m args below meth c T locs cells slots) (hx : p.tables.exec = Jvm.exec) (hlk : meth.locks = false) {ty : FieldType} (hret : meth.sig.returnType = some ty) (hty : ty.isReference = true)
    {pc : Nat} {Ls : Array Slot} {v : Value} (hv : v.isRef = true) {rest : List Value} (hd : decode c.code pc = .ok (.areturn, 1)) {Q : Option Value → Heap → List Loc → Prop} {cc nn : Nat} (hq : Q (some v) T.heap locs) (hc : cells ≤ cc) (hn : slots ≤ nn) :
    own_Go p e below (own_End s below Q cc nn) (T.setTop (mkF m pc Ls (v :: rest))) := by
  obtain ⟨fs, hr, hrun, hended, hW, hsame⟩ := X.leave (v := some v) (fun h => by rw [hret] at h; cases h) hlk
  refine ⟨_, _, ?_, hrun, hended, _, _, rfl, hq, ⟨_, rfl⟩, hW, hsame.mono hc hn⟩
  have hm' : T.vm.method? m = some meth := X.method'
  show Steps p.tables e below (T.setTop { method := m, pc := pc, locals := Ls, stack := _ :: rest, locked := none }) _
  jvm_step X.here [X.here.top, hx, hd, hm', hret, hv, hty]
  first | (intro acts; rw [hr _ acts rfl rfl rfl]) | rw [hr _ _ rfl rfl rfl]
  exact Steps.refl _
theorem own_retV (X : Stand p l e R s m args below meth c T locs cells slots) (hx : p.tables.exec = Jvm.exec) (hlk : meth.locks = false) (hret : meth.sig.returnType = none)
    {pc : Nat} {Ls : Array Slot} (hd : decode c.code pc = .ok (.return_, 1)) {Q : Option Value → Heap → List Loc → Prop} {cc nn : Nat} (hq : Q none T.heap locs) (hc : cells ≤ cc) (hn : slots ≤ nn) :
    own_Go p e below (own_End s below Q cc nn) (T.setTop (mkF m pc Ls [])) := by
  obtain ⟨fs, hr, hrun, hended, hW, hsame⟩ := X.leave (v := none) (fun _ => rfl) hlk
  exact ⟨_, _, X.returnOut hx hret hd hr, hrun, hended, _, _, rfl, hq, ⟨_, rfl⟩, hW, hsame.mono hc hn⟩
/-- a body's contract: called with these values over this heap it returns, with Q -/
def own_Met (l : Launch) (Z : State) (y : MethodName) (bytes : ByteArray) (maxL : Nat) (ret : Option FieldType) (ws : List Cond) (rm : Room) (as' : Array Value) (h0 : Heap) (Q : Option Value → Heap → List Loc → Prop) : Prop :=
  MetFree l y (head1 (Cond.code y bytes maxL ret :: ws) rm) (fun a U => a = as' ∧ Z.Warmed39 U.vm ∧ U.heap = h0) (fun _ _ _ _ _ => True) (fun _ U o U' => ∃ v L, o = .returned v ∧ Q v U'.heap L ∧ FrameEnd U o U' L rm.cells rm.slots)
theorem own_body {Z : State} {y : MethodName} {bytes : ByteArray} {maxL : Nat} {ret : Option FieldType} {ws : List Cond} {rm : Room} {as' : Array Value} {h0 : Heap} {Q : Option Value → Heap → List Loc → Prop} (hpl : plainFor y = true)
    (k : ∀ (p : Program) (e : Env) (s : State) (m : MethodId) (below : List Frame) (meth : Method) (c : Code) (s₁ : State), p.tables.exec = Jvm.exec → c.code = bytes → c.maxLocals = maxL → s.vm.findClass y.cls = some m.cls → meth.name = y.name → meth.sig.returnType = ret → meth.locks = false → Z.Warmed39 s.vm →
      Stand p l e rm s m as' below meth c s₁ [] 0 0 → s₁.heap = h0 → ∀ G, G = own_End s below Q rm.cells rm.slots → own_Go p e below G (s₁.setTop (entryFrame m as' maxL))) :
    own_Met l Z y bytes maxL ret ws rm as' h0 Q := by
  refine MetFree.of_bodySF hpl hisR ?_
  intro p e s m args below meth c s₁ Bd hml0 hP hK
  obtain ⟨rfl, hZ, hh⟩ := hP
  have e0 : s₁.heap = h0 := by rw [← hh, Bd.state]; rfl
  exact k p e s m below meth c s₁ Bd.exec Bd.bytes hml0 (findClass_of_methodNamed Bd.named) (name_of_methodNamed Bd.named Bd.method).1 Bd.returns Bd.notSynchronized hZ (Stand.of_body Bd) e0 _ rfl
section Calls
variable {Z : State} {a0 : Array Value} {h : Heap}
theorem own_callS (X : Stand p l e R s m args below meth c T locs cells slots) (hx : p.tables.exec = Jvm.exec) (hZ : Z.Warmed39 s.vm) {own : String} {index : Nat} {y : MethodName} {bytes : ByteArray} {maxL : Nat} {ret : Option FieldType} (hown : s.vm.findClass own = some m.cls)
    (w1 : (Cond.methodLink own index y).before a0 Z = true) (w2 : (Cond.static y).before a0 Z = true) (w3 : (Cond.initialized y.cls).before a0 Z = true) (w4 : (Cond.code y bytes maxL ret).before a0 Z = true)
    (hy : y.cls ≠ "java/lang/invoke/MethodHandle" ∧ y.cls ≠ "java/lang/invoke/VarHandle") {rm : Room} {as' : Array Value} {Q : Option Value → Heap → List Loc → Prop} {W : Nat} (hM : own_Met l Z y bytes maxL ret [] rm as' h Q)
    (hf : rm.frames + 1 ≤ R.frames) (hl : W + (maxL + 11) + rm.locals ≤ R.locals) (eT : T.heap = h) {g : JFrame} (hg : g.method = m) (hsize : g.locals.size = c.maxLocals) {argsL rest : List Value}
    {ps : List FieldType} {r : Option FieldType} (hd : parseMethodDescriptor y.desc = some ⟨ps, r⟩) (hlen : argsL.length = ps.length) (hstack : g.stack = argsL.reverse ++ rest) (hW : 2 * g.monitorRoom + (rest.map fun v => v.category).sum ≤ W)
    (hdg : decode c.code g.pc = .ok (.invokestatic index, 3)) (ha : argsL.toArray = as') (hc : cells + rm.cells ≤ R.cells) (hn : slots + rm.slots ≤ R.slots) :
    ∃ (v : Option Value) (T' : State) (L : List Loc), Stand p l e R s m args below meth c T' (locs ++ L) (cells + rm.cells) (slots + rm.slots) ∧ Q v T'.heap L ∧
      ∀ target, Steps p.tables e below (T'.setTop { g with pc := g.pc + 3, stack := v.toList ++ rest }) target → Steps p.tables e below (T.setTop g) target := by
  obtain ⟨v, vm1, ⟨T', L', k', n'⟩, -, X', ⟨Lc, hQ, l1, l2, l3⟩, st⟩ := Jvm.LawKit.callS X hx (y := y) hown (mvT hZ w1) (mvT hZ w2) (mvT hZ w3) (mvT hZ w4) hy (backOf (W := W) hM hZ w4 w3 hf hl) hg hsize (argsL := argsL) (rest := rest) (lenOf hd hlen) hstack hW hdg (fun _ _ => ⟨ha, eT, hc, hn⟩)
  dsimp only [Pt.U, Pt.locs, Pt.cells, Pt.slots] at X' l1 l2 l3 st hQ
  subst l1 l2 l3
  exact ⟨v, T', Lc, X', hQ, st⟩
theorem own_callC (X : Stand p l e R s m args below meth c T locs cells slots) (hx : p.tables.exec = Jvm.exec) (hZ : Z.Warmed39 s.vm) {own : String} {index : Nat} {y : MethodName} {bytes : ByteArray} {maxL : Nat} (hn1 : y.name = "<init>") (hown : s.vm.findClass own = some m.cls)
    (w1 : (Cond.methodLink own index y).before a0 Z = true) (w2 : (Cond.instanceMethod y).before a0 Z = true) (w3 : (Cond.initialized y.cls).before a0 Z = true) (w4 : (Cond.code y bytes maxL none).before a0 Z = true)
    (hy : y.cls ≠ "java/lang/invoke/MethodHandle" ∧ y.cls ≠ "java/lang/invoke/VarHandle") {rm : Room} {as' : Array Value} {Q : Option Value → Heap → List Loc → Prop} {W : Nat} (hM : own_Met l Z y bytes maxL none [] rm as' h Q)
    (hf : rm.frames + 1 ≤ R.frames) (hl : W + (maxL + 11) + rm.locals ≤ R.locals) (eT : T.heap = h) {g : JFrame} (hg : g.method = m) (hsize : g.locals.size = c.maxLocals) {a : Addr} {argsL rest : List Value}
    {ps : List FieldType} {r : Option FieldType} (hd : parseMethodDescriptor y.desc = some ⟨ps, r⟩) (hlen : argsL.length = ps.length) (hstack : g.stack = argsL.reverse ++ .ref a :: rest) (hW : 2 * g.monitorRoom + (rest.map fun v => v.category).sum ≤ W)
    (hdg : decode c.code g.pc = .ok (.invokespecial index, 3)) (ha : (.ref a :: argsL).toArray = as') (hc : cells + rm.cells ≤ R.cells) (hn : slots + rm.slots ≤ R.slots) :
    ∃ (v : Option Value) (T' : State) (L : List Loc), Stand p l e R s m args below meth c T' (locs ++ L) (cells + rm.cells) (slots + rm.slots) ∧ Q v T'.heap L ∧
      ∀ target, Steps p.tables e below (T'.setTop { g with pc := g.pc + 3, stack := v.toList ++ rest }) target → Steps p.tables e below (T.setTop g) target := by
  obtain ⟨v, vm1, ⟨T', L', k', n'⟩, -, X', ⟨Lc, hQ, l1, l2, l3⟩, st⟩ := X.specialBack hx (y := y) hn1 hown (mvT hZ w1) (mvT hZ w2) (mvT hZ w4) hy (backOf (W := W) hM hZ w4 w3 hf hl) hg hsize (Steps.refl _) (a := a) (argsL := argsL) (rest := rest) (lenOf hd hlen) hstack hW hdg (fun _ _ => ⟨ha, eT, hc, hn⟩)
  dsimp only [Pt.U, Pt.locs, Pt.cells, Pt.slots] at X' l1 l2 l3 st hQ
  subst l1 l2 l3
  exact ⟨v, T', Lc, X', hQ, fun t k => st.trans k⟩
theorem own_callV (X : Stand p l e R s m args below meth c T locs cells slots) (hx : p.tables.exec = Jvm.exec) (hZ : Z.Warmed39 s.vm) {own C : String} {index : Nat} {y z : MethodName} {bytes : ByteArray} {maxL : Nat} {ret : Option FieldType} (hown : s.vm.findClass own = some m.cls)
    (w1 : (Cond.methodLink own index y).before a0 Z = true) (w2 : (Cond.declares y).before a0 Z = true) (hnf : NotFace s y) (w5 : (Cond.selects C y z).before a0 Z = true) (w6 : (Cond.instanceMethod z).before a0 Z = true) (w3 : (Cond.initialized z.cls).before a0 Z = true) (w4 : (Cond.code z bytes maxL ret).before a0 Z = true)
    (hy : y.cls ≠ "java/lang/invoke/MethodHandle" ∧ y.cls ≠ "java/lang/invoke/VarHandle") {rm : Room} {as' : Array Value} {Q : Option Value → Heap → List Loc → Prop} {W : Nat} (hM : own_Met l Z z bytes maxL ret [] rm as' h Q)
    (hf : rm.frames + 1 ≤ R.frames) (hl : W + (maxL + 11) + rm.locals ≤ R.locals) (eT : T.heap = h) {a : Addr} (E : Exa Z h a C) {g : JFrame} (hg : g.method = m) (hsize : g.locals.size = c.maxLocals) {argsL rest : List Value}
    {ps : List FieldType} {r : Option FieldType} (hd : parseMethodDescriptor y.desc = some ⟨ps, r⟩) (hlen : argsL.length = ps.length) (hstack : g.stack = argsL.reverse ++ .ref a :: rest) (hW : 2 * g.monitorRoom + (rest.map fun v => v.category).sum ≤ W)
    (hdg : decode c.code g.pc = .ok (.invokevirtual index, 3)) (ha : (.ref a :: argsL).toArray = as') (hc : cells + rm.cells ≤ R.cells) (hn : slots + rm.slots ≤ R.slots) :
    ∃ (v : Option Value) (T' : State) (L : List Loc), Stand p l e R s m args below meth c T' (locs ++ L) (cells + rm.cells) (slots + rm.slots) ∧ Q v T'.heap L ∧
      ∀ target, Steps p.tables e below (T'.setTop { g with pc := g.pc + 3, stack := v.toList ++ rest }) target → Steps p.tables e below (T.setTop g) target := by
  obtain ⟨cq, kq, q1, q2, q3⟩ := isOf hZ eT E
  obtain ⟨v, vm1, ⟨T', L', k', n'⟩, -, X', ⟨Lc, hQ, l1, l2, l3⟩, st⟩ := X.virtualBack hx (y := y) (z := z) hown (mvT hZ w1) (mvT hZ w2) hnf (mvT hZ w5) (mvT hZ w6) hy (backOf (W := W) hM hZ w4 w3 hf hl) q1 q3 hg hsize (Steps.refl _) (argsL := argsL) (rest := rest) (lenOf hd hlen) hstack hW hdg (fun _ _ => ⟨ha, eT, hc, hn⟩)
  dsimp only [Pt.U, Pt.locs, Pt.cells, Pt.slots] at X' l1 l2 l3 st hQ
  subst l1 l2 l3
  exact ⟨v, T', Lc, X', hQ, fun t k => st.trans k⟩
end Calls
section Words
variable {Z : State} {a0 : Array Value}
theorem own_exa {t : Term} {C : String} (h : (Cond.exactly t C).value a0 Z none Z [] = some true) : ∃ a, t.eval a0 Z none [] Z = some (.ref a) ∧ Exa Z Z.heap a C := by
  obtain ⟨a, e⟩ := exa_v h
  exact ⟨a, e, Exa.start e h⟩
theorem own_fldI {t : Term} {O n d : String} {k : Int32} {a : Addr} (h : (Cond.eq (.field t O n d) (.int k)).value a0 Z none Z [] = some true) (e : t.eval a0 Z none [] Z = some (.ref a)) : Fld Z Z.heap a O n d (.int k) := by
  obtain ⟨x, y, h1, h2, h3, h4⟩ := cmp_v (Or.inl h)
  cases (Term.int_eval k).symm.trans h2
  obtain ⟨q, rfl⟩ := h4
  obtain rfl := gotT (Cond.eq_ints h1 (Term.int_eval k)) h
  exact Fld.start ((fld_at e).symm.trans h1)
theorem own_fldJ {t : Term} {O n d : String} {k : Int64} {a : Addr} (h : (Cond.eq (.field t O n d) (.long k)).value a0 Z none Z [] = some true) (e : t.eval a0 Z none [] Z = some (.ref a)) : Fld Z Z.heap a O n d (.long k) := by
  obtain ⟨x, y, h1, h2, h3, h4⟩ := cmp_v (Or.inl h)
  cases (long_at k).symm.trans h2
  obtain ⟨q, rfl⟩ := h4
  obtain rfl := gotT (eq_L h1 (long_at k)) h
  exact Fld.start ((fld_at e).symm.trans h1)
theorem own_el {t u : Term} {i : Int32} {ca a : Addr} {cl : Cell} (h : (Cond.eq (.elem t (.int i)) u).value a0 Z none Z [] = some true) (ht : t.eval a0 Z none [] Z = some (.ref ca)) (hu : u.eval a0 Z none [] Z = some (.ref a)) (hc : Z.heap[ca]? = some cl) : cl.slots[i.toNatClampNeg]? = some (.ref a) := by
  obtain ⟨x, y, h1, h2, h3, h4⟩ := cmp_v (Or.inl h)
  cases hu.symm.trans h2
  have hx : x.isRef = true := by cases x <;> simp [Kin, Value.isRef] at h3 h4 ⊢
  have e := gotT (eq_R h1 h2 hx rfl) h
  subst e
  exact (elem_in h1 ht (Term.int_eval i) hc).2
theorem own_len {t : Term} {n : Int32} {ca : Addr} {cl : Cell} (h : (Cond.eq (.length t) (.int n)).value a0 Z none Z [] = some true) (ht : t.eval a0 Z none [] Z = some (.ref ca)) (hc : Z.heap[ca]? = some cl) : cl.slots.size < 2 ^ 31 ∧ cl.slots.size.toInt32 = n := by
  obtain ⟨x, y, h1, h2, h3, h4⟩ := cmp_v (Or.inl h)
  obtain ⟨b, cell, e1, e2, e3, rfl⟩ := Jvm.Lib.length_spec h1
  cases ht.symm.trans e1
  cases hc.symm.trans (Jvm.Lib.arrayAt_spec e2).1
  exact ⟨e3, gotT (Cond.eq_ints h1 (Term.int_eval n)) h⟩
end Words
end New
end Jvm.RoadKit
namespace Jvm.RoadKit
open Sem ClassFile Op Lib Jvm.Stand Jvm.Free Jvm.LawKit Jvm.LamKit
section New3
variable {p : Program} {l : Launch} {e : Env} {R : Room} {s : State} {m : MethodId} {args : Array Value} {below : List Frame} {meth : Method} {c : Code} {T : State} {locs : List Loc} {cells slots : Nat}
/-- a body's contract where the tables are Y's, warmer (what Y has made stays made) -/
def own_MetH (l : Launch) (Z Y : State) (y : MethodName) (bytes : ByteArray) (maxL : Nat) (ret : Option FieldType) (ws : List Cond) (rm : Room) (as' : Array Value) (h0 : Heap) (Q : Option Value → Heap → List Loc → Prop) : Prop :=
  MetFree l y (head1 (Cond.code y bytes maxL ret :: ws) rm) (fun a U => a = as' ∧ Z.Warmed39 U.vm ∧ Y.WarmedH U.vm ∧ U.heap = h0) (fun _ _ _ _ _ => True) (fun _ U o U' => ∃ v L, o = .returned v ∧ Q v U'.heap L ∧ FrameEnd U o U' L rm.cells rm.slots)
theorem own_bodyH {Z Y : State} {y : MethodName} {bytes : ByteArray} {maxL : Nat} {ret : Option FieldType} {ws : List Cond} {rm : Room} {as' : Array Value} {h0 : Heap} {Q : Option Value → Heap → List Loc → Prop} (hpl : plainFor y = true)
    (k : ∀ (p : Program) (e : Env) (s : State) (m : MethodId) (below : List Frame) (meth : Method) (c : Code) (s₁ : State), p.tables.exec = Jvm.exec → c.code = bytes → c.maxLocals = maxL → s.vm.findClass y.cls = some m.cls → meth.name = y.name → meth.sig.returnType = ret → meth.locks = false → Z.Warmed39 s.vm → Y.WarmedH s.vm → s.methodNamed? y = some m →
      Stand p l e rm s m as' below meth c s₁ [] 0 0 → s₁.heap = h0 → ∀ G, G = own_End s below Q rm.cells rm.slots → own_Go p e below G (s₁.setTop (entryFrame m as' maxL))) :
    own_MetH l Z Y y bytes maxL ret ws rm as' h0 Q := by
  refine MetFree.of_bodySF hpl hisR ?_
  intro p e s m args below meth c s₁ Bd hml0 hP hK
  obtain ⟨rfl, hZ, hY, hh⟩ := hP
  have e0 : s₁.heap = h0 := by rw [← hh, Bd.state]; rfl
  exact k p e s m below meth c s₁ Bd.exec Bd.bytes hml0 (findClass_of_methodNamed Bd.named) (name_of_methodNamed Bd.named Bd.method).1 Bd.returns Bd.notSynchronized hZ hY Bd.named (Stand.of_body Bd) e0 _ rfl
section Calls3
variable {Z Y : State} {a0 : Array Value} {h : Heap}
theorem own_backH {y : MethodName} {bytes : ByteArray} {maxL : Nat} {ret : Option FieldType} {rm : Room} {len W : Nat} {as' : Array Value} {Q : Option Value → Heap → List Loc → Prop} (hM : own_MetH l Z Y y bytes maxL ret [] rm as' h Q)
    (hZ : Z.Warmed39 s.vm) (hY : Y.WarmedH s.vm) (wc : (Cond.code y bytes maxL ret).before a0 Z = true) (wz : (Cond.initialized y.cls).before a0 Z = true) (hf : rm.frames + 1 ≤ R.frames) (hl : W + (maxL + 11) + rm.locals ≤ R.locals) :
    Back l R p e below s args y len W (fun A a => a = as' ∧ A.U.heap = h ∧ A.cells + rm.cells ≤ R.cells ∧ A.slots + rm.slots ≤ R.slots)
      (fun A _ v B => ∃ L, Q v B.U.heap L ∧ B.locs = A.locs ++ L ∧ B.cells = A.cells + rm.cells ∧ B.slots = A.slots + rm.slots) := by
  refine Back.of_free (bytes := bytes) (maxL := maxL) (ret := ret) (E := fun _ _ o t L k n => k = rm.cells ∧ n = rm.slots ∧ ∃ v, o = .returned v ∧ Q v t.heap L) hM hf hl ?_ ?_ ?_ ?_ ?_
  · intro m meth c A a Y' hp
    have hU : Z.Warmed39 A.U.vm := wtrans hZ Y'.warmed
    refine ⟨?_, mv hU wc, mv hU wz, hp.2.2.1, hp.2.2.2⟩
    show (Cond.and _ .tt).before a A.U = true
    rw [Cond.before_and, mv hU wc]; rfl
  · intro m meth c A a g mk Y' hp
    exact ⟨hp.1, wtrans hZ Y'.warmed, State.WarmedH.trans hY Y'.warmed, hp.2.1⟩
  · intros; trivial
  · rintro _ _ _ _ ⟨v, L, h1, h2, h3⟩
    exact ⟨L, _, _, h3, rfl, rfl, v, h1, h2⟩
  · rintro m meth c A a g mk v t L k n Y' hp _ _ ⟨e1, e2, v', e3, e4⟩
    cases e3; subst e1 e2; exact ⟨L, e4, rfl, rfl, rfl⟩
theorem own_callVH (X : Stand p l e R s m args below meth c T locs cells slots) (hx : p.tables.exec = Jvm.exec) (hZ : Z.Warmed39 s.vm) (hY : Y.WarmedH s.vm) {own C : String} {index : Nat} {y z : MethodName} {bytes : ByteArray} {maxL : Nat} {ret : Option FieldType} (hown : s.vm.findClass own = some m.cls)
    (w1 : (Cond.methodLink own index y).before a0 Z = true) (w2 : (Cond.declares y).before a0 Z = true) (hnf : NotFace s y) (w5 : (Cond.selects C y z).before a0 Z = true) (w6 : (Cond.instanceMethod z).before a0 Z = true) (w3 : (Cond.initialized z.cls).before a0 Z = true) (w4 : (Cond.code z bytes maxL ret).before a0 Z = true)
    (hy : y.cls ≠ "java/lang/invoke/MethodHandle" ∧ y.cls ≠ "java/lang/invoke/VarHandle") {rm : Room} {as' : Array Value} {Q : Option Value → Heap → List Loc → Prop} {W : Nat} (hM : own_MetH l Z Y z bytes maxL ret [] rm as' h Q)
    (hf : rm.frames + 1 ≤ R.frames) (hl : W + (maxL + 11) + rm.locals ≤ R.locals) (eT : T.heap = h) {a : Addr} (E : Exa Z h a C) {g : JFrame} (hg : g.method = m) (hsize : g.locals.size = c.maxLocals) {argsL rest : List Value}
    {ps : List FieldType} {r : Option FieldType} (hd : parseMethodDescriptor y.desc = some ⟨ps, r⟩) (hlen : argsL.length = ps.length) (hstack : g.stack = argsL.reverse ++ .ref a :: rest) (hW : 2 * g.monitorRoom + (rest.map fun v => v.category).sum ≤ W)
    (hdg : decode c.code g.pc = .ok (.invokevirtual index, 3)) (ha : (.ref a :: argsL).toArray = as') (hc : cells + rm.cells ≤ R.cells) (hn : slots + rm.slots ≤ R.slots) :
    ∃ (v : Option Value) (T' : State) (L : List Loc), Stand p l e R s m args below meth c T' (locs ++ L) (cells + rm.cells) (slots + rm.slots) ∧ Q v T'.heap L ∧
      ∀ target, Steps p.tables e below (T'.setTop { g with pc := g.pc + 3, stack := v.toList ++ rest }) target → Steps p.tables e below (T.setTop g) target := by
  obtain ⟨cq, kq, q1, q2, q3⟩ := isOf hZ eT E
  obtain ⟨v, vm1, ⟨T', L', k', n'⟩, -, X', ⟨Lc, hQ, l1, l2, l3⟩, st⟩ := X.virtualBack hx (y := y) (z := z) hown (mvT hZ w1) (mvT hZ w2) hnf (mvT hZ w5) (mvT hZ w6) hy (own_backH (W := W) hM hZ hY w4 w3 hf hl) q1 q3 hg hsize (Steps.refl _) (argsL := argsL) (rest := rest) (lenOf hd hlen) hstack hW hdg (fun _ _ => ⟨ha, eT, hc, hn⟩)
  dsimp only [Pt.U, Pt.locs, Pt.cells, Pt.slots] at X' l1 l2 l3 st hQ
  subst l1 l2 l3
  exact ⟨v, T', Lc, X', hQ, fun t k => st.trans k⟩
theorem own_callI (X : Stand p l e R s m args below meth c T locs cells slots) (hx : p.tables.exec = Jvm.exec) (hZ : Z.Warmed39 s.vm) {own C : String} {index count : Nat} {xi y : MethodName} {bytes : ByteArray} {maxL : Nat} {ret : Option FieldType} (hown : s.vm.findClass own = some m.cls)
    (w1 : (Cond.methodLink own index xi).before a0 Z = true) (w2 : (Cond.declares xi).before a0 Z = true) (w5' : (Cond.interfaceMethod xi.cls xi.cls xi.name xi.desc).before args s = true) (w6 : (Cond.selects C xi y).before a0 Z = true) (w7 : (Cond.instanceMethod y).before a0 Z = true) (w8 : (Cond.publicMethod y).before a0 Z = true) (w9 : (Cond.unhidden C xi.name xi.desc).before a0 Z = true) (w10 : (Cond.castable C xi.cls).before a0 Z = true)
    (w3 : (Cond.initialized y.cls).before a0 Z = true) (w4 : (Cond.code y bytes maxL ret).before a0 Z = true) (hy : xi.cls ≠ "java/lang/invoke/MethodHandle" ∧ xi.cls ≠ "java/lang/invoke/VarHandle") {rm : Room} {as' : Array Value} {Q : Option Value → Heap → List Loc → Prop} {W : Nat} (hM : own_Met l Z y bytes maxL ret [] rm as' h Q)
    (hf : rm.frames + 1 ≤ R.frames) (hl : W + (maxL + 11) + rm.locals ≤ R.locals) (eT : T.heap = h) {a : Addr} (E : Exa Z h a C) {g : JFrame} (hg : g.method = m) (hsize : g.locals.size = c.maxLocals) {argsL rest : List Value}
    {ps : List FieldType} {r : Option FieldType} (hd : parseMethodDescriptor xi.desc = some ⟨ps, r⟩) (hlen : argsL.length = ps.length) (hstack : g.stack = argsL.reverse ++ .ref a :: rest) (hW : 2 * g.monitorRoom + (rest.map fun v => v.category).sum ≤ W)
    (hdg : decode c.code g.pc = .ok (.invokeinterface index count, 5)) (ha : (.ref a :: argsL).toArray = as') (hc : cells + rm.cells ≤ R.cells) (hn : slots + rm.slots ≤ R.slots) :
    ∃ (v : Option Value) (T' : State) (L : List Loc), Stand p l e R s m args below meth c T' (locs ++ L) (cells + rm.cells) (slots + rm.slots) ∧ Q v T'.heap L ∧
      ∀ target, Steps p.tables e below (T'.setTop { g with pc := g.pc + 5, stack := v.toList ++ rest }) target → Steps p.tables e below (T.setTop g) target := by
  obtain ⟨cq, kq, q1, q2, q3⟩ := isOf hZ eT E
  obtain ⟨v, vm1, ⟨T', L', k', n'⟩, -, X', ⟨Lc, hQ, l1, l2, l3⟩, st⟩ := X.interfaceBack hx (xi := xi) (y := y) hown (mvT hZ w1) (mvT hZ w2) w5' (mvT hZ w6) (mvT hZ w7) (mvT hZ w8) (mvT hZ w9) (mvT hZ w10) hy (backOf (W := W) hM hZ w4 w3 hf hl) q1 q2 q3 hg hsize (Steps.refl _) (argsL := argsL) (rest := rest) (lenOf hd hlen) hstack hW hdg (fun _ _ => ⟨ha, eT, hc, hn⟩)
  dsimp only [Pt.U, Pt.locs, Pt.cells, Pt.slots] at X' l1 l2 l3 st hQ
  subst l1 l2 l3
  exact ⟨v, T', Lc, X', hQ, fun t k => st.trans k⟩
theorem own_callIH (X : Stand p l e R s m args below meth c T locs cells slots) (hx : p.tables.exec = Jvm.exec) (hZ : Z.Warmed39 s.vm) (hY : Y.WarmedH s.vm) {own C : String} {index count : Nat} {xi y : MethodName} {bytes : ByteArray} {maxL : Nat} {ret : Option FieldType} (hown : s.vm.findClass own = some m.cls)
    (w1 : (Cond.methodLink own index xi).before a0 Z = true) (w2 : (Cond.declares xi).before a0 Z = true) (w5' : (Cond.interfaceMethod xi.cls xi.cls xi.name xi.desc).before args s = true) (w6 : (Cond.selects C xi y).before a0 Z = true) (w7 : (Cond.instanceMethod y).before a0 Z = true) (w8 : (Cond.publicMethod y).before a0 Z = true) (w9 : (Cond.unhidden C xi.name xi.desc).before a0 Z = true) (w10 : (Cond.castable C xi.cls).before a0 Z = true)
    (w3 : (Cond.initialized y.cls).before a0 Z = true) (w4 : (Cond.code y bytes maxL ret).before a0 Z = true) (hy : xi.cls ≠ "java/lang/invoke/MethodHandle" ∧ xi.cls ≠ "java/lang/invoke/VarHandle") {rm : Room} {as' : Array Value} {Q : Option Value → Heap → List Loc → Prop} {W : Nat} (hM : own_MetH l Z Y y bytes maxL ret [] rm as' h Q)
    (hf : rm.frames + 1 ≤ R.frames) (hl : W + (maxL + 11) + rm.locals ≤ R.locals) (eT : T.heap = h) {a : Addr} (E : Exa Z h a C) {g : JFrame} (hg : g.method = m) (hsize : g.locals.size = c.maxLocals) {argsL rest : List Value}
    {ps : List FieldType} {r : Option FieldType} (hd : parseMethodDescriptor xi.desc = some ⟨ps, r⟩) (hlen : argsL.length = ps.length) (hstack : g.stack = argsL.reverse ++ .ref a :: rest) (hW : 2 * g.monitorRoom + (rest.map fun v => v.category).sum ≤ W)
    (hdg : decode c.code g.pc = .ok (.invokeinterface index count, 5)) (ha : (.ref a :: argsL).toArray = as') (hc : cells + rm.cells ≤ R.cells) (hn : slots + rm.slots ≤ R.slots) :
    ∃ (v : Option Value) (T' : State) (L : List Loc), Stand p l e R s m args below meth c T' (locs ++ L) (cells + rm.cells) (slots + rm.slots) ∧ Q v T'.heap L ∧
      ∀ target, Steps p.tables e below (T'.setTop { g with pc := g.pc + 5, stack := v.toList ++ rest }) target → Steps p.tables e below (T.setTop g) target := by
  obtain ⟨cq, kq, q1, q2, q3⟩ := isOf hZ eT E
  obtain ⟨v, vm1, ⟨T', L', k', n'⟩, -, X', ⟨Lc, hQ, l1, l2, l3⟩, st⟩ := X.interfaceBack hx (xi := xi) (y := y) hown (mvT hZ w1) (mvT hZ w2) w5' (mvT hZ w6) (mvT hZ w7) (mvT hZ w8) (mvT hZ w9) (mvT hZ w10) hy (own_backH (W := W) hM hZ hY w4 w3 hf hl) q1 q2 q3 hg hsize (Steps.refl _) (argsL := argsL) (rest := rest) (lenOf hd hlen) hstack hW hdg (fun _ _ => ⟨ha, eT, hc, hn⟩)
  dsimp only [Pt.U, Pt.locs, Pt.cells, Pt.slots] at X' l1 l2 l3 st hQ
  subst l1 l2 l3
  exact ⟨v, T', Lc, X', hQ, fun t k => st.trans k⟩
/-- what the tables have made stays made where they are warmer -/
theorem own_madeW {host : String} {σ : Lambda.Shape} {cK : ClassId} (hmd : Jvm.LamKit.Made Y host σ cK) (hW : Y.WarmedH s.vm) : Jvm.LamKit.Made s host σ cK := by
  obtain ⟨d, dk, h1, h2, h3, h4⟩ := hmd
  obtain ⟨dk', h1', he⟩ := hW.alike.2.2 _ _ h1
  refine ⟨d, dk', h1', by rw [he]; exact h2, Lambda.isMade_warmer hW h3, ?_⟩
  have hA := hW.alike
  simp only [State.lambdaCallable, hA.findClass, hA.assignable, hA.superclasses, hA.declaredIn] at h4 ⊢
  exact h4
/-- the site of a lambda that captures two references: a new object of the made class holds them -/
theorem own_site (X : Stand p l e R s m args below meth c T locs cells slots) (hx : p.tables.exec = Jvm.exec) (hY : Z.WarmedH s.vm) {x : MethodName} {pc index fi : Nat} {σ : Lambda.Shape} (hnamed : s.methodNamed? x = some m)
    (hsite : (Cond.lambdaSite x pc index σ).before a0 Z = true) (hcap : σ.captured ≠ []) (hok : capOK σ x.cls fi 0 = true) (wO : (Cond.instantiable "java/lang/Object" 0).before a0 Z = true) (eT : T.heap = h)
    {g : JFrame} (hg : g.method = m) (hpc : g.pc = pc) (hsize : g.locals.size = c.maxLocals) (hdg : decode c.code g.pc = .ok (.invokedynamic index, 5))
    {u v : Addr} {rest : List Value} (hlen : 2 = σ.captured.length) (hstack : g.stack = .ref v :: .ref u :: rest) (hfit : ∀ t ∈ σ.captured, t.isReference = true)
    (hwords : 2 * g.monitorRoom + (g.stack.map fun v => v.category).sum + 3072 ≤ R.locals) (hcells : cells + 1 ≤ R.cells) (hslots : slots + 2 ≤ R.slots) :
    ∃ (cK : ClassId) (T' : State) (h' : Heap), Jvm.LamKit.Made Z x.cls σ cK ∧ Stand p l e R s m args below meth c T' locs (cells + 1) (slots + 2) ∧ T'.heap = h' ∧ Ext h h' ∧ h'[h.size]? = some { cls := cK, slots := #[.ref u, .ref v], vm := .none } ∧
      ∀ target, Steps p.tables e below (T'.setTop { g with pc := g.pc + 5, stack := .ref h.size :: rest }) target → Steps p.tables e below (T.setTop g) target := by
  obtain ⟨cK, one, hat⟩ := Cond.lambdaSite_spec hsite
  obtain ⟨mD, kD, cfD, i0, p0, lk, hmD, hkD, hcfD, hsh, -, hfind, hmade, hcan, hl⟩ := State.lambdaAt?_spec hat
  have hmD' : s.methodNamed? x = some mD := by
    have q := State.methodNamed?_setVm (s := Z) hY.alike x
    rw [hmD] at q
    exact q
  cases hnamed.symm.trans hmD'
  obtain ⟨kD', hkD', hnameD⟩ := className_of_methodNamed hmD
  cases hkD.symm.trans hkD'
  obtain ⟨kS, hkS, he⟩ := hY.alike.2.2 _ _ hkD
  have hmadeZ : Jvm.LamKit.Made Z x.cls σ cK := ⟨_, kD, hkD, hnameD, hmade, hcan⟩
  rcases hl with ⟨a, cell, -, -, hc0, -⟩ | ⟨rfl, -, -⟩
  · exact absurd hc0 hcap
  · obtain ⟨b, nt, desc, site, h1, h2, h3, h4⟩ := Lambda.shapeOf?_site hsh
    have hnS : kS.name = x.cls := by rw [he]; exact hnameD
    have hcS : kS.cf = some cfD := by rw [he]; exact hcfD
    have hfS := hfind
    rw [show kD.callSites = kS.callSites by rw [he]] at hfS
    obtain ⟨kc, f, hkc, hkind, hty, -⟩ := made_cap hok hkS hnS (Lambda.isMade_warmer hY hmade) (noFields wO hY)
    have nar_ref : ∀ (t : FieldType) (a : Addr), t.isReference = true → narrow t (.ref a) = .ref a ∧ fits t (.ref a) = true := fun t a ht => by cases t <;> first | exact ⟨rfl, rfl⟩ | cases ht
    have hfit' : ∀ (i : Nat) t w, σ.captured[i]? = some t → [Value.ref u, .ref v][i]? = some w → narrow t w = w ∧ fits t w = true := fun i t w ht hw => by
      have hr := hfit t (List.mem_of_getElem? ht)
      match i, hw with
      | 0, hw => cases hw; exact nar_ref t u hr
      | 1, hw => cases hw; exact nar_ref t v hr
    have hz : ((kc.instanceTypes.toList.zip [Value.ref u, .ref v]).map fun (t, v) => narrow t v) = [Value.ref u, .ref v] := by rw [hty]; exact zip_narrow _ _ hlen fun i t v a b => (hfit' i t v a b).1
    have hw : e.platform.lambdaLinkWords = 3072 := by rw [X.admits.platform]
    have q := X.lambdaMakes hx hg hsize hdg (vals := [Value.ref u, .ref v]) (rest := rest) hkS (by rw [hpc]; exact hfS) hcS h1 h2 (parseLong_of_parse h3) (by rw [h4]; exact hlen) hstack hkc (by rw [hw]; exact hwords) hcells (by rw [hz]; exact hslots)
      (fun i v' hv => by
        rw [hz] at hv
        have hv' : [Value.ref u, .ref v][i]? = some v' := by simpa using hv
        have hi : i < σ.captured.length := by rw [← hlen]; exact (List.getElem?_eq_some_iff.mp hv').1
        have := (hfit' i _ v' (List.getElem?_eq_getElem hi) hv').2
        simp [State.fitsSlot, State.slotType?, hkc, hkind, hty, List.getElem?_eq_getElem hi, this])
    rw [hz] at q
    subst eT
    refine ⟨cK, _, _, hmadeZ, q.1, rfl, ⟨by show T.heap.size ≤ (T.heap.push _).size; simp, fun a c h => ?_⟩, by show (T.heap.push _)[T.heap.size]? = _; simp, q.2⟩
    show (T.heap.push _)[a]? = _
    rw [Array.getElem?_push_lt (Array.getElem?_eq_some_iff.mp h).1]; exact (Array.getElem?_eq_getElem _).symm.trans h
/-- a function object's cell: her class, the two captured references -/
def own_Fn (h : Heap) (a : Addr) (cK : ClassId) (u v : Addr) : Prop := ∃ cell : Cell, h[a]? = some cell ∧ cell.cls = cK ∧ cell.vm = .none ∧ cell.slots[0]? = some (.ref u) ∧ cell.slots[1]? = some (.ref v)
theorem own_Fn.ext {h h' : Heap} {a u v : Addr} {cK : ClassId} (F : own_Fn h a cK u v) (E : Ext h h') : own_Fn h' a cK u v := by obtain ⟨c, q, r⟩ := F; exact ⟨c, E.2 _ _ q, r⟩
theorem own_Fn.other {h h' : Heap} {a b u v : Addr} {cK : ClassId} {sl : Nat} {x : Value} (F : own_Fn h a cK u v) (W : Wr h h' b sl x) (q : a ≠ b) : own_Fn h' a cK u v := by
  obtain ⟨c, q1, r⟩ := F
  obtain ⟨c', p1, -, -, -, p5, -⟩ := wr_at W q1
  exact ⟨c', p1, by rw [p5 q]; exact r⟩
theorem own_Fn.lt {h : Heap} {a u v : Addr} {cK : ClassId} (F : own_Fn h a cK u v) : a < h.size := by obtain ⟨c, q, -⟩ := F; exact (Array.getElem?_eq_some_iff.mp q).1
/-- the forwarder's bytes: two captured values, then the int, then the private target -/
def own_fc : ByteArray := ⟨#[0x2a, 0xb4, 0x00, 0x11, 0x2a, 0xb4, 0x00, 0x13, 0x1b, 0xb6, 0x00, 0x1b, 0xac]⟩
theorem own_f0 : decode own_fc 0 = .ok (.aload_n 0, 1) := by decide +kernel
theorem own_f1 : decode own_fc 1 = .ok (.getfield 17, 3) := by decide +kernel
theorem own_f4 : decode own_fc 4 = .ok (.aload_n 0, 1) := by decide +kernel
theorem own_f5 : decode own_fc 5 = .ok (.getfield 19, 3) := by decide +kernel
theorem own_f8 : decode own_fc 8 = .ok (.iload_n 1, 1) := by decide +kernel
theorem own_f9 : decode own_fc 9 = .ok (.invokevirtual 27, 3) := by decide +kernel
theorem own_f12 : decode own_fc 12 = .ok (.ireturn, 1) := by decide +kernel
/-- the forwarder runs: its two loads of captured values, the private target by its contract, and back -/
theorem own_fwd (X : Stand p l e R s m args below meth c T locs cells slots) (hx : p.tables.exec = Jvm.exec) (hZ : Z.Warmed39 s.vm) {host : String} {y : MethodName} {σ : Lambda.Shape} {bytes : ByteArray} {maxL ci nn : Nat}
    (w6 : (Cond.instanceMethod y).before a0 Z = true) (w7 : (Cond.privateMethod y).before a0 Z = true) (wi : (Cond.instantiable y.cls nn).before a0 Z = true) (w3 : (Cond.initialized y.cls).before a0 Z = true) (w4 : (Cond.code y bytes maxL (some .boolean)).before a0 Z = true) (wO : (Cond.instantiable "java/lang/Object" 0).before a0 Z = true)
    (hyy : y.cls = σ.implClass ∧ y.name = σ.implName ∧ y.desc = σ.implDesc.toString) (hpoly : y.cls ≠ "java/lang/invoke/MethodHandle" ∧ y.cls ≠ "java/lang/invoke/VarHandle")
    {cK : ClassId} (hmd : Jvm.LamKit.Made s host σ cK) (hok : fwdOK σ host own_fc 2 (some .boolean) 27 ci = true) (hc0 : capOK σ host 17 0 = true) (hc1 : capOK σ host 19 1 = true)
    {a r : Addr} {v1 : Value} {i z : Int32} {cell : Cell} (hcell : h[a]? = some cell) (hvm : cell.vm = .none) (hs0 : cell.slots[0]? = some (.ref r)) (hs1 : cell.slots[1]? = some v1) {Cr : String} (E : Exa Z h r Cr)
    {rm : Room} (hM : own_Met l Z y bytes maxL (some .boolean) [] rm #[.ref r, v1, .int i] h (fun v h' L => v = some (.int z) ∧ L = [] ∧ h' = h)) (hz : narrow .boolean (.int z) = .int z)
    {ps : List FieldType} {rt : Option FieldType} (hd : parseMethodDescriptor y.desc = some ⟨ps, rt⟩) (hlen : 2 = ps.length) (eT : T.heap = h)
    {g : JFrame} (hg : g.method = m) (hsize : g.locals.size = c.maxLocals) {ig : Instr} {len : Nat} (hdg : decode c.code g.pc = .ok (ig, len))
    (hfr : rm.frames + 2 ≤ R.frames) (hlo : 2 * g.monitorRoom + (g.stack.map fun v => v.category).sum + (2 + 11) + ((maxL + 11) + rm.locals) ≤ R.locals) (hcells : cells + rm.cells ≤ R.cells) (hslots : slots + rm.slots ≤ R.slots) :
    ∃ T' : State, Stand p l e R s m args below meth c T' locs (cells + rm.cells) (slots + rm.slots) ∧ T'.heap = h ∧
      ∀ acts, Steps p.tables e below (doInvoke e (T.setTop g) acts ⟨cK, 1⟩ #[.ref a, .int i]).1 (T'.setTop { g with pc := g.pc + len, stack := .int z :: g.stack }) := by
  have hmd0 := hmd
  obtain ⟨d, dk, hd0, hdn, hmade, -⟩ := hmd
  obtain ⟨y1, y2, y3⟩ := hyy
  have hW₁ : s.WarmedH T.vm := X.warmed
  have hZT : Z.Warmed39 T.vm := wtrans hZ hW₁
  obtain ⟨mT, methT, hmT, hmethT, hstT, habT⟩ := Cond.instanceMethod_spec (mvT hZ w6 (args := args) : (Cond.instanceMethod y).before args s = true)
  obtain ⟨methT', cT, hmethT', -, -, -, -, -, -, hsigT⟩ := Cond.code_spec hmT (mvT hZ w4 (args := args))
  cases hmethT.symm.trans hmethT'
  have hprivT : methT.isPrivate = true := Cond.privateMethod_at (mvP hZ w7 (args := args)) mT methT hmT hmethT
  obtain ⟨kT, hkT, hnameT⟩ := className_of_methodNamed hmT
  have hfT : s.vm.findClass y.cls = some mT.cls := findClass_of_methodNamed hmT
  obtain ⟨ci', ki, g1, g2, -, g3, -⟩ := Cond.instantiable_spec (mvT hZ wi (args := args) : (Cond.instantiable y.cls nn).before args s = true)
  cases hfT.symm.trans g1
  cases hkT.symm.trans g2
  have hnI : kT.isInterface = false := (Bool.or_eq_false_iff.mp g3).1
  obtain ⟨kD₁, hkD₁, heD₁⟩ := hW₁.alike.2.2 _ _ hd0
  obtain ⟨kK₁, tk₁, file₁, methk₁, ck₁, toy₁, t₁, nt, hkK₁, hpn₁, hfile₁, hidx₁, hnt₁, hmk₁, hck₁, hbytes₁, hml₁, hlk₁, -, hretk₁, htoy₁, htk₁, hlook₁, hready₁, hclsR₁⟩ := made_static hok hkD₁ (by rw [heD₁]; exact hdn) (Lambda.isMade_warmer hW₁ hmade)
  have hfT₁ : T.vm.findClass σ.implClass = some mT.cls := by rw [hW₁.alike.findClass, ← y1]; exact hfT
  cases htoy₁.symm.trans hfT₁
  have ht₁ : t₁ = mT := by
    have h1 : (s.setVm T.vm).methodFound? y.cls y.name y.desc = some mT := by rw [State.methodFound?_setVm hW₁.alike]; exact State.methodFound?_of_named hmT hpoly
    rw [y1, y2, y3] at h1
    simp only [State.methodFound?, State.vm_setVm, hfT₁, htk₁, Option.bind_eq_bind, Option.bind_some] at h1
    rw [hlook₁] at h1
    exact Option.some.inj h1
  subst ht₁
  have hmethT₁ : T.vm.method? t₁ = some methT := by rw [hW₁.alike.method?]; exact hmethT
  obtain ⟨kT₁, hkT₁, heT₁⟩ := hW₁.alike.2.2 _ _ hkT
  cases htk₁.symm.trans hkT₁
  have hnI₁ : tk₁.isInterface = false := by rw [heT₁]; exact hnI
  have hsp : ∀ z : Method, signaturePolymorphic tk₁ z = false := fun z => by
    have hn' : tk₁.name = y.cls := by rw [heT₁]; exact hnameT
    simp [signaturePolymorphic, hn', hpoly.1, hpoly.2]
  have hpk : T.plainMethod ⟨cK, 1⟩ := State.plainMethod.of_name (fun k' hk' => by cases hkK₁.symm.trans hk'; exact hpn₁)
  obtain ⟨Y₀, hin⟩ := X.into hg hsize hdg #[.ref a, .int i] (R' := { frames := rm.frames + 1, cells := rm.cells, slots := rm.slots, locals := (maxL + 11) + rm.locals }) hmk₁ hck₁ hlk₁ hpk hfr (by rw [hml₁]; exact hlo) hcells hslots
  have hL0 : entryFrame ⟨cK, 1⟩ #[.ref a, .int i] ck₁.maxLocals = { method := ⟨cK, 1⟩, pc := 0, locals := #[.val (.ref a), .val (.int i)], stack := [], locked := none } := by rw [hml₁]; rfl
  rw [hL0] at Y₀ hin
  generalize hU : (T.setTop g).pushFrame (.java { method := ⟨cK, 1⟩, pc := 0, locals := #[.val (.ref a), .val (.int i)], stack := [], locked := none }) = U at Y₀ hin
  have hvmU : U.vm = T.vm := by rw [← hU]; rfl
  have hheapU : U.heap = h := by rw [← hU]; exact eT
  generalize hs' : T.calling g ⟨cK, 1⟩ #[.ref a, .int i] = s' at Y₀
  have hvm' : s'.vm = T.vm := by rw [← hs']; rfl
  have hZs' : Z.Warmed39 s'.vm := by rw [hvm']; exact hZT
  have hK := backOf (l := l) (Z := Z) (h := h) (y := y) (bytes := bytes) (maxL := maxL) (ret := some .boolean) (rm := rm) (as' := #[.ref r, v1, .int i]) (Q := fun v h' L => v = some (.int z) ∧ L = [] ∧ h' = h) (p := p) (e := e) (below := .java g :: below) (s := s') (args := #[.ref a, .int i]) (len := 3) (W := 0) (R := { frames := rm.frames + 1, cells := rm.cells, slots := rm.slots, locals := (maxL + 11) + rm.locals }) hM hZs' w4 w3 (Nat.le_refl _) (by show 0 + (maxL + 11) + rm.locals ≤ (maxL + 11) + rm.locals; omega)
  have hnamedU : U.methodNamed? y = some t₁ := by
    have q : (s.setVm T.vm).methodNamed? y = some t₁ := by rw [State.methodNamed?_setVm hW₁.alike]; exact hmT
    rw [← hU]; exact q
  obtain ⟨v, ⟨U', ls, cc, sl⟩, Y₁, ⟨L, ⟨rfl, rfl, hq⟩, hl, hc, hs⟩, hsteps⟩ := hK ⟨cK, 1⟩ methk₁ ck₁ ⟨U, [], 0, 0⟩ { method := ⟨cK, 1⟩, pc := 9, locals := #[.val (.ref a), .val (.int i)], stack := [], locked := none } (.invokevirtual 27) t₁ #[.ref r, v1, .int i] Y₀ rfl (by rw [hml₁]; rfl)
    (by rw [hbytes₁]; exact own_f9) (Nat.le_refl _) hnamedU ⟨rfl, hheapU, by show 0 + rm.cells ≤ rm.cells; omega, by show 0 + rm.slots ≤ rm.slots; omega⟩
  dsimp only [Pt.U, Pt.locs, Pt.cells, Pt.slots] at Y₁ hq hl hc hs hsteps
  subst hl; subst hc; subst hs
  obtain ⟨fs, hleave, -, hended, hWe, hsame⟩ := Y₁.leave (v := some (.int z)) (fun h => by rw [hretk₁] at h; cases h) hlk₁
  subst hs'
  obtain ⟨T', X', -, -, ht⟩ := X.outOf hg hdg hended hWe hsame
  have hheap' : T'.heap = h := by
    have q : (U'.setFrames fs).heap = (T'.setTop { g with pc := g.pc + len, stack := (some (Value.int z)).toList ++ g.stack }).heap := congrArg State.heap ht
    exact (show T'.heap = U'.heap from q.symm).trans hq
  refine ⟨T', by simpa using X', hheap', fun acts => ?_⟩
  rw [hin acts]
  show Steps p.tables e below _ (T'.setTop { g with pc := g.pc + len, stack := (some (Value.int z)).toList ++ g.stack })
  rw [← ht]
  refine Steps.weaken (mid := [.java g]) ?_
  have hsU : U.topJava?.isSome := Y₀.here.top
  have hWU : s.WarmedH U.vm := by rw [hvmU]; exact hW₁
  have wO' : (Cond.instantiable "java/lang/Object" 0).before args s = true := mvT hZ wO
  obtain ⟨cr, k1, k2⟩ := E.cell
  jvm_step Y₀.here [hx, hbytes₁, own_f0, Value.isRef]
  refine getCap (g := { method := ⟨cK, 1⟩, pc := 1, locals := #[.val (.ref a), .val (.int i)], stack := [.ref a], locked := none }) hx Y₀.here hWU hmd0 hc0 wO' (cell := cell) (v := .ref r) (by rw [hheapU]; exact hcell) hvm hs0 rfl rfl (by rw [hbytes₁]; exact own_f1) ?_
  jvm_step Y₀.here [hx, hbytes₁, own_f4, Value.isRef]
  refine getCap (g := { method := ⟨cK, 1⟩, pc := 5, locals := #[.val (.ref a), .val (.int i)], stack := [.ref a, .ref r], locked := none }) hx Y₀.here hWU hmd0 hc1 wO' (cell := cell) (v := v1) (by rw [hheapU]; exact hcell) hvm hs1 rfl rfl (by rw [hbytes₁]; exact own_f5) ?_
  jvm_step Y₀.here [hx, hbytes₁, own_f8]
  have hd9 : decode ck₁.code 9 = .ok (.invokevirtual 27, 3) := by rw [hbytes₁]; exact own_f9
  jvm_step Y₀.here [hx, hd9, invokevirtual.wp_ready (e := e) (s := U) (r := t₁) (m := t₁) (k := tk₁) (mk := tk₁) (rmeth := methT) (meth := methT) (a := r) (args := [v1, .int i]) (rest := []) (cell := cr)
    (f := { method := ⟨cK, 1⟩, pc := 9, locals := #[.val (.ref a), .val (.int i)], stack := [.int i, v1, .ref r], locked := none }) hsU ⟨kK₁, file₁, ci, nt, t₁.cls, tk₁, by rw [hvmU]; exact hkK₁, hfile₁, hidx₁, by rw [hvmU]; exact hclsR₁, by rw [hvmU]; exact htk₁, hnI₁⟩ (by rw [hvmU]; exact hready₁) (by rw [hvmU]; exact htk₁) (by rw [hvmU]; exact hmethT₁) (hsp _) hstT (lenOf hd (L := [v1, .int i]) hlen _ hsigT) rfl
    (by rw [hheapU]; exact k1) k2 (by rw [hvmU]; exact selectMethod_private hmethT₁ hprivT) (by rw [hvmU]; exact hmethT₁) habT (by rw [hvmU]; exact htk₁) hnI₁]
  intro acts'
  rw [doInvoke_state]
  refine hsteps.trans ?_
  show Steps p.tables e (.java g :: below) (U'.setTop { method := ⟨cK, 1⟩, pc := 12, locals := #[.val (.ref a), .val (.int i)], stack := [.int z], locked := none }) _
  jvm_step Y₁.here [hsU, hx, hbytes₁, own_f12, Y₁.method', hretk₁, hz]
  intro acts''
  rw [hleave { method := ⟨cK, 1⟩, pc := 12, locals := #[.val (.ref a), .val (.int i)], stack := [], locked := none } acts'' rfl rfl rfl]
  exact Steps.refl _
/-- the program's own call of the function object's method -/
theorem own_callF (X : Stand p l e R s m args below meth c T locs cells slots) (hx : p.tables.exec = Jvm.exec) (hZ : Z.Warmed39 s.vm) (hY : Y.WarmedH s.vm) {own host : String} {index count : Nat} {xi y : MethodName} {σ : Lambda.Shape} {bytes : ByteArray} {maxL ci nn : Nat} (hown : s.vm.findClass own = some m.cls)
    (w1 : (Cond.methodLink own index xi).before a0 Z = true) (w2 : (Cond.declares xi).before a0 Z = true) (w5' : (Cond.interfaceMethod xi.cls xi.cls xi.name xi.desc).before args s = true)
    (w6 : (Cond.instanceMethod y).before a0 Z = true) (w7 : (Cond.privateMethod y).before a0 Z = true) (wi : (Cond.instantiable y.cls nn).before a0 Z = true) (w3 : (Cond.initialized y.cls).before a0 Z = true) (w4 : (Cond.code y bytes maxL (some .boolean)).before a0 Z = true) (wO : (Cond.instantiable "java/lang/Object" 0).before a0 Z = true)
    (hxi : xi.cls = σ.iface ∧ xi.name = σ.name ∧ xi.desc = σ.sam.toString) (hyy : y.cls = σ.implClass ∧ y.name = σ.implName ∧ y.desc = σ.implDesc.toString)
    (hpoly : (xi.cls ≠ "java/lang/invoke/MethodHandle" ∧ xi.cls ≠ "java/lang/invoke/VarHandle") ∧ y.cls ≠ "java/lang/invoke/MethodHandle" ∧ y.cls ≠ "java/lang/invoke/VarHandle")
    {cK : ClassId} (hmd : Jvm.LamKit.Made Y host σ cK) (hok : fwdOK σ host own_fc 2 (some .boolean) 27 ci = true) (hc0 : capOK σ host 17 0 = true) (hc1 : capOK σ host 19 1 = true)
    {a r : Addr} {v1 : Value} {i z : Int32} {cell : Cell} (hcell : h[a]? = some cell) (hcls : cell.cls = cK) (hvm : cell.vm = .none) (hs0 : cell.slots[0]? = some (.ref r)) (hs1 : cell.slots[1]? = some v1) {Cr : String} (E : Exa Z h r Cr)
    {rm : Room} (hM : own_Met l Z y bytes maxL (some .boolean) [] rm #[.ref r, v1, .int i] h (fun v h' L => v = some (.int z) ∧ L = [] ∧ h' = h)) (hz : narrow .boolean (.int z) = .int z)
    {ps ps' : List FieldType} {rt rt' : Option FieldType} (hd : parseMethodDescriptor y.desc = some ⟨ps, rt⟩) (hlen : 2 = ps.length) (hd' : parseMethodDescriptor xi.desc = some ⟨ps', rt'⟩) (hlen' : 1 = ps'.length) (eT : T.heap = h)
    {g : JFrame} (hg : g.method = m) (hsize : g.locals.size = c.maxLocals) {rest : List Value} (hstack : g.stack = .int i :: .ref a :: rest) (hdg : decode c.code g.pc = .ok (.invokeinterface index count, 5))
    (hfr : rm.frames + 2 ≤ R.frames) (hlo : 2 * g.monitorRoom + (rest.map fun v => v.category).sum + (2 + 11) + ((maxL + 11) + rm.locals) ≤ R.locals) (hcells : cells + rm.cells ≤ R.cells) (hslots : slots + rm.slots ≤ R.slots) :
    ∃ T' : State, Stand p l e R s m args below meth c T' locs (cells + rm.cells) (slots + rm.slots) ∧ T'.heap = h ∧
      ∀ target, Steps p.tables e below (T'.setTop { g with pc := g.pc + 5, stack := .int z :: rest }) target → Steps p.tables e below (T.setTop g) target := by
  subst hcls
  have hmds := own_madeW hmd hY
  obtain ⟨kK, methk, hkK, hmk, hpub, habs, hsel⟩ := madeSelects hmds hok w5' hxi
  obtain ⟨r0, rr, hn, hrm, hstR, hsigR⟩ := Cond.declares_spec (mvT hZ w2 (args := args) : (Cond.declares xi).before args s = true)
  obtain ⟨cL, kL, r1, hcL, hkL, hiL, -, -⟩ := Cond.interfaceMethod_spec w5'
  have hr0cls : r0.cls = cL := Option.some.inj ((findClass_of_methodNamed hn).symm.trans hcL)
  obtain ⟨hasg, hsel', hway⟩ := hsel r0 rr hn hrm
  obtain ⟨vm₁, X₁, hstep₁⟩ := X.invokeinterface hx hown (mvT hZ w1) hn hrm hstR (by rw [hr0cls]; exact hkL) hiL hpoly.1 (a := a) (cell := cell) (kcell := kK) (by rw [eT]; exact hcell) (fun z h => by rw [hvm] at h; cases h) hkK hasg
    (m' := ⟨cell.cls, 1⟩) (meth' := methk) (by rw [Launch.admits_selectMethod X.admits]; exact hsel') hmk hway hpub habs hg (argsL := [.int i]) (lenOf hd' (L := [.int i]) hlen' _ hsigR) hstack hdg
  obtain ⟨T', X', e1, hsteps⟩ := own_fwd X₁ hx hZ w6 w7 wi w3 w4 wO hyy hpoly.2 hmds hok hc0 hc1 hcell hvm hs0 hs1 E hM hz hd hlen eT (g := { g with stack := rest }) hg hsize hdg hfr hlo hcells hslots
  exact ⟨T', X', e1, fun target h => hstep₁ _ fun acts => (hsteps acts).trans h⟩
end Calls3
end New3
end Jvm.RoadKit
namespace Jvm.Pilot.@@N@@
open Jvm Jvm.ClassFile Sem Op Lib Jvm.Free Jvm.Stand Jvm.LawKit Jvm.RoadKit Bundle Jvm.Pilot.@@N@@.Jvm.D
theorem own_pd0 : parseMethodDescriptor "()V" = some ⟨[], none⟩ := by decide +kernel
theorem own_pd1 : parseMethodDescriptor "(Lcom/example/thinleaf/thinleaf/prune/DocumentCut;Ljava/util/Map;)V" = some ⟨[(.object "com/example/thinleaf/thinleaf/prune/DocumentCut"), (.object "java/util/Map")], none⟩ := by decide +kernel
theorem own_pd2 : parseMethodDescriptor "()I" = some ⟨[], some .int⟩ := by decide +kernel
theorem own_pd3 : parseMethodDescriptor "([I[I)V" = some ⟨[(.array .int), (.array .int)], none⟩ := by decide +kernel
theorem own_pd4 : parseMethodDescriptor "([II)Z" = some ⟨[(.array .int), .int], some .boolean⟩ := by decide +kernel
theorem own_pd5 : parseMethodDescriptor "(I)Z" = some ⟨[.int], some .boolean⟩ := by decide +kernel
theorem own_pd6 : parseMethodDescriptor "()[I" = some ⟨[], some (.array .int)⟩ := by decide +kernel
theorem own_pd7 : parseMethodDescriptor "(Ljava/util/function/IntPredicate;)Lcom/example/thinleaf/thinleaf/core/index/Postings;" = some ⟨[(.object "java/util/function/IntPredicate")], some (.object "com/example/thinleaf/thinleaf/core/index/Postings")⟩ := by decide +kernel
theorem own_pd8 : parseMethodDescriptor "([I)V" = some ⟨[(.array .int)], none⟩ := by decide +kernel
theorem own_pd9 : parseMethodDescriptor "([IIJ)I" = some ⟨[(.array .int), .int, .long], some .int⟩ := by decide +kernel
theorem own_pd10 : parseMethodDescriptor "(Ljava/util/Map;)Lcom/example/thinleaf/thinleaf/prune/Selection;" = some ⟨[(.object "java/util/Map")], some (.object "com/example/thinleaf/thinleaf/prune/Selection")⟩ := by decide +kernel
theorem own_pd11 : parseMethodDescriptor "(ILcom/example/thinleaf/thinleaf/core/index/LexiconEntry;Lcom/example/thinleaf/thinleaf/core/index/Postings;)Lcom/example/thinleaf/thinleaf/core/index/Postings;" = some ⟨[.int, (.object "com/example/thinleaf/thinleaf/core/index/LexiconEntry"), (.object "com/example/thinleaf/thinleaf/core/index/Postings")], some (.object "com/example/thinleaf/thinleaf/core/index/Postings")⟩ := by decide +kernel
theorem own_pd12 : parseMethodDescriptor "(III)Z" = some ⟨[.int, .int, .int], some .boolean⟩ := by decide +kernel
theorem own_tab {Z s : State} {a0 args : Array Value} (hw : ∀ d ∈ tables_1, d.before a0 Z = true) (hZ : Z.Warmed39 s.vm) : JA.CopyOfI.tab.before args s = true := by
  have A : ∀ w ∈ (Cond.code JA.CopyOfI.yN JA.CopyOfI.yB 3 (some (.array .int)) :: Cond.initialized "java/util/Arrays" :: Cond.code JP.Math_min_II.yN JP.Math_min_II.yB 2 (some .int) :: Cond.initialized "java/lang/Math" :: Cond.classLink "java/util/Arrays" 317 "[I" :: Cond.castable "[I" "[I" :: (XT.cloneW "java/util/Arrays" 316 "[I" ++ XT.staticW "java/util/Arrays" 304 JP.Math_min_II.yN ++ XT.acW "java/util/Arrays" 150)), w ∈ tables_1 ∧ (w.onTables && w.keepsFace) = true := by decide +kernel
  have B : ∀ w ∈ (Cond.initialized "java/util/Arrays" :: JA.CopyOfI.site), w = Cond.arrayClass .int ∨ w = JP.Math_min_II.tab ∨ w ∈ (Cond.code JA.CopyOfI.yN JA.CopyOfI.yB 3 (some (.array .int)) :: Cond.initialized "java/util/Arrays" :: Cond.code JP.Math_min_II.yN JP.Math_min_II.yB 2 (some .int) :: Cond.initialized "java/lang/Math" :: Cond.classLink "java/util/Arrays" 317 "[I" :: Cond.castable "[I" "[I" :: (XT.cloneW "java/util/Arrays" 316 "[I" ++ XT.staticW "java/util/Arrays" 304 JP.Math_min_II.yN ++ XT.acW "java/util/Arrays" 150)) := by decide +kernel
  have M : ∀ w ∈ (Cond.code JA.CopyOfI.yN JA.CopyOfI.yB 3 (some (.array .int)) :: Cond.initialized "java/util/Arrays" :: Cond.code JP.Math_min_II.yN JP.Math_min_II.yB 2 (some .int) :: Cond.initialized "java/lang/Math" :: Cond.classLink "java/util/Arrays" 317 "[I" :: Cond.castable "[I" "[I" :: (XT.cloneW "java/util/Arrays" 316 "[I" ++ XT.staticW "java/util/Arrays" 304 JP.Math_min_II.yN ++ XT.acW "java/util/Arrays" 150)), w.before args s = true := fun w h => mv hZ (hw w (A w h).1) (A w h).2
  refine XT.unparts (M _ (List.mem_of_getElem? (i := 0) rfl)) fun w h => ?_
  rcases B w h with rfl | rfl | h
  · exact mvA hZ (hw _ (List.mem_of_getElem? (i := 0) rfl))
  · exact XT.unparts (M _ (List.mem_of_getElem? (i := 2) rfl)) fun w h => by cases List.mem_singleton.mp h; exact M _ (List.mem_of_getElem? (i := 3) rfl)
  · exact M w h
theorem own_copyI {p : Program} {l : Launch} {e : Env} {R : Room} {s : State} {m : MethodId} {args : Array Value} {below : List Frame} {meth : Method} {c : Code} {T : State} {locs : List Loc} {cells slots : Nat} {Z : State} {a0 : Array Value} {h : Heap} (hw : ∀ d ∈ tables_1, d.before a0 Z = true)
    (X : Stand p l e R s m args below meth c T locs cells slots) (hx : p.tables.exec = Jvm.exec) (hZ : Z.Warmed39 s.vm) {own : String} {index : Nat} (hown : s.vm.findClass own = some m.cls) (w1 : (Cond.methodLink own index JA.CopyOfI.yN).before a0 Z = true) (eT : T.heap = h)
    {d : Addr} {k : ClassId} {n x0 x1 x2 x3 : Int32} {dv : Value} (F : Arv Z h d k .int (4 : Int32) [.int x0, .int x1, .int x2, .int x3] dv) (E : Exa Z h d "[I") (h0 : 0 ≤ n.toInt) (h4 : n.toInt ≤ 4)
    {g : JFrame} (hg : g.method = m) (hsize : g.locals.size = c.maxLocals) {rest : List Value} (hs : g.stack = .int n :: .ref d :: rest) {W : Nat} (hW : 2 * g.monitorRoom + (rest.map fun v => v.category).sum ≤ W) (hd : decode c.code g.pc = .ok (.invokestatic index, 3))
    (hf : 2 ≤ R.frames) (hl : W + 54 ≤ R.locals) (hc : cells + 1 ≤ R.cells) (hsl : slots + 4 ≤ R.slots) :
    ∃ (T' : State) (h' : Heap) (k' : ClassId), Stand p l e R s m args below meth c T' locs (cells + 1) (slots + 4) ∧ T'.heap = h' ∧ Ext h h' ∧ Arv Z h' h.size k' .int n [.int x0, .int x1, .int x2, .int x3] dv ∧
      ∀ target, Steps p.tables e below (T'.setTop { g with pc := g.pc + 3, stack := .ref h.size :: rest }) target → Steps p.tables e below (T.setTop g) target := by
  obtain ⟨cl, Ar, qk, Sa, Na, Ha, Ga⟩ := F
  obtain ⟨ce, ke, E1, E2, E3, E4, E5⟩ := E
  cases Ar.1.symm.trans E1
  have s4 : cl.slots.size = 4 := Sa
  have hn : n = Int32.ofNat n.toNatClampNeg := by
    rw [← Int32.toInt_inj, Int32.toInt_ofNat_of_lt (by simp only [Int32.toNatClampNeg]; omega)]
    simp only [Int32.toNatClampNeg]; omega
  have n4 : n.toNatClampNeg ≤ 4 := by simp only [Int32.toNatClampNeg]; omega
  have hcode : (Cond.code JA.CopyOfI.yN JA.CopyOfI.yB 3 (some (.array .int))).before a0 Z = true := hw _ (List.mem_of_getElem? (i := 94) rfl)
  have hst : (Cond.static JA.CopyOfI.yN).before a0 Z = true := hw _ (List.mem_of_getElem? (i := 92) rfl)
  have hin : (Cond.initialized JA.CopyOfI.yN.cls).before a0 Z = true := hw _ (List.mem_of_getElem? (i := 93) rfl)
  obtain ⟨v, vm1, ⟨T', L', k', n'⟩, hW1, X', ⟨⟨hv, B, b1, b2, b3, b4, b5, b6⟩, l1, l2, l3⟩, st⟩ := Jvm.LawKit.callS X hx (y := JA.CopyOfI.yN) hown (mvT hZ w1) (mvT hZ hst) (mvT hZ hin) (mvT hZ hcode) (by decide) (JA.CopyOfI.pays (l := l) (R := R) (p := p) (e := e) (below := below) (s := s) (sargs := args) (len := 3) (W := W) d cl n.toNatClampNeg (own_tab hw hZ) hf hl) hg hsize (argsL := [.ref d, .int n]) (rest := rest) (fun sig q => by cases (show parseMethodDescriptor "([II)[I" = some ⟨[.array .int, .int], some (.array .int)⟩ by decide +kernel).symm.trans q; rfl) hs hW hd
    (fun vm₁ hv1 => ⟨hc, Nat.le_trans (Nat.add_le_add_left n4 _) hsl, by show #[Value.ref d, .int n] = #[.ref d, .int (Int32.ofNat n.toNatClampNeg)]; rw [← hn], ⟨by show T.heap[d]? = _; rw [eT]; exact Ar.1, State.isArrayOf_alike (hZ.alike.trans hv1.alike) Ar.2.1, Ar.2.2, by rw [s4]; decide⟩, by show vm₁.findClass "[I" = _; rw [hv1.alike.findClass, hZ.alike.findClass]; exact E2, fun i v q => by
      have hi := (Array.getElem?_eq_some_iff.mp q).1
      have := Ha i hi
      rw [q] at this; cases this; exact Ga i hi, by omega⟩)
  dsimp only [Pt.U, Pt.locs, Pt.cells, Pt.slots] at X' hv b1 b2 b3 b4 b5 b6 l1 l2 l3 st
  rw [List.append_nil] at l1
  subst l1 l2 l3
  have hh : (T.setVm vm1).heap = h := eT
  rw [hh] at hv b1
  cases hv
  refine ⟨T', T'.heap, B.cls, X'.more (Nat.le_refl _) (Nat.add_le_add_left n4 _), rfl, ⟨Nat.le_of_lt (Array.getElem?_eq_some_iff.mp b1.1).1, fun a cc q => b6 a cc (by rw [hh]; exact q)⟩, ⟨B, ⟨b1.1, State.isArrayOf_alike (hZ.alike.trans X'.warmed.alike).symm b1.2.1, b1.2.2.1⟩, rfl, b4, by rw [Int32.lt_iff_toInt_lt]; exact Int.not_lt.mpr h0, fun i hi => ?_, fun i hi => ?_⟩, st⟩
  · rw [b4] at hi
    have h1 : i < cl.slots.size := by omega
    rw [b5 i hi]
    have := Ha i h1
    rw [← this]
    simp [Array.getD_eq_getD_getElem?, Array.getElem?_eq_getElem h1]
  · rw [b4] at hi
    exact Ga i (by omega)

/-- the value at a drawn place of four -/
def own_pk (j a b c d : Int32) : Int32 := if j = 0 then a else if j = 1 then b else if j = 2 then c else d
/-- what a store at the drawn place j leaves at place i -/
def own_sl (j i v w : Int32) : Int32 := if j = i then v else w
/-- the place of the document d in the order -/
def own_iv (o0 o1 o2 o3 d : Int32) : Int32 := own_sl o3 d 3 (own_sl o2 d 2 (own_sl o1 d 1 (own_sl o0 d 0 0)))
/-- the law's 'goes' -/
def own_go (x f e : Int32) : Int32 := if x < f then 0 else if x < e then 1 else 0
def own_b (o0 o1 o2 o3 f e d : Int32) : Int32 := own_go (own_iv o0 o1 o2 o3 d) f e
/-- the sums of the first places -/
def own_T (a b c d : Int32) (i : Int) : Int := if i ≤ 0 then 0 else if i = 1 then a.toInt else if i = 2 then a.toInt + b.toInt else if i = 3 then a.toInt + b.toInt + c.toInt else a.toInt + b.toInt + c.toInt + d.toInt
def own_p5 (j : Int32) (a b c d e : Int64) : Int64 := if j = 0 then a else if j = 1 then b else if j = 2 then c else if j = 3 then d else e
def own_i4 (x : Fin 4) : Int32 := Int32.ofNat x.val
def own_Pm (o0 o1 o2 o3 : Int32) : Prop := ∃ a b c d : Fin 4, (o0 = own_i4 a ∧ o1 = own_i4 b ∧ o2 = own_i4 c ∧ o3 = own_i4 d) ∧ a ≠ b ∧ a ≠ c ∧ a ≠ d ∧ b ≠ c ∧ b ≠ d ∧ c ≠ d
theorem own_isF {j : Int32} (h0 : 0 ≤ j.toInt) (h1 : j.toInt < 4) : ∃ x : Fin 4, j = own_i4 x := by
  refine ⟨⟨j.toInt.toNat, by omega⟩, ?_⟩
  rw [← Int32.toInt_inj]
  show _ = (Int32.ofNat j.toInt.toNat).toInt
  rw [Int32.toInt_ofNat_of_lt (by omega)]; omega
theorem own_i4t (x : Fin 4) : (own_i4 x).toInt = x.val := by revert x; decide
theorem own_stepF : ∀ a b c d : Fin 4, (a ≠ b ∧ a ≠ c ∧ a ≠ d ∧ b ≠ c ∧ b ≠ d ∧ c ≠ d) → ∀ t f z : Fin 4, f ≤ t →
    own_sl (own_pk (own_i4 t) (own_i4 a) (own_i4 b) (own_i4 c) (own_i4 d)) (own_i4 z) 1 (own_b (own_i4 a) (own_i4 b) (own_i4 c) (own_i4 d) (own_i4 f) (own_i4 t) (own_i4 z)) = own_b (own_i4 a) (own_i4 b) (own_i4 c) (own_i4 d) (own_i4 f) (own_i4 t + 1) (own_i4 z) := by
  decide +kernel
theorem own_step {o0 o1 o2 o3 t f : Int32} (hP : own_Pm o0 o1 o2 o3) (h0 : 0 ≤ f.toInt) (h1 : f.toInt ≤ t.toInt) (h2 : t.toInt < 4) (z : Fin 4) :
    own_sl (own_pk t o0 o1 o2 o3) (own_i4 z) 1 (own_b o0 o1 o2 o3 f t (own_i4 z)) = own_b o0 o1 o2 o3 f (t + 1) (own_i4 z) := by
  obtain ⟨a, b, c, d, ⟨rfl, rfl, rfl, rfl⟩, hd⟩ := hP
  obtain ⟨x, rfl⟩ := own_isF (by omega) h2
  obtain ⟨y, rfl⟩ := own_isF h0 (by omega)
  rw [own_i4t, own_i4t] at h1
  exact own_stepF a b c d hd x y z (by rw [Fin.le_def]; omega)
theorem own_pkP {o0 o1 o2 o3 t : Int32} (hP : own_Pm o0 o1 o2 o3) : 0 ≤ (own_pk t o0 o1 o2 o3).toInt ∧ (own_pk t o0 o1 o2 o3).toInt < 4 := by
  obtain ⟨a, b, c, d, ⟨rfl, rfl, rfl, rfl⟩, -⟩ := hP
  have q : ∀ x : Fin 4, 0 ≤ (own_i4 x).toInt ∧ (own_i4 x).toInt < 4 := by decide
  unfold own_pk
  split
  · exact q a
  split
  · exact q b
  split
  · exact q c
  · exact q d
theorem own_bd4 {j : Int32} (h : 0 ≤ j.toInt ∧ j.toInt < 4) : ¬ j < 0 ∧ j < 4 := by
  simp only [Int32.lt_iff_toInt_lt, show (0 : Int32).toInt = 0 from rfl, show (4 : Int32).toInt = 4 from rfl]; omega
theorem own_j4 {j : Int32} (h : 0 ≤ j.toInt ∧ j.toInt < 4) : j = 0 ∨ j = 1 ∨ j = 2 ∨ j = 3 := by
  simp only [← Int32.toInt_inj, show (0 : Int32).toInt = 0 from rfl, show (1 : Int32).toInt = 1 from rfl, show (2 : Int32).toInt = 2 from rfl, show (3 : Int32).toInt = 3 from rfl]
  omega
theorem own_at4 {j a b c d : Int32} {dv : Value} (h : 0 ≤ j.toInt ∧ j.toInt < 4) : [Value.int a, .int b, .int c, .int d].getD j.toNatClampNeg dv = .int (own_pk j a b c d) := by
  rcases own_j4 h with rfl | rfl | rfl | rfl <;> rfl
theorem own_set4 {j v a b c d : Int32} (h : 0 ≤ j.toInt ∧ j.toInt < 4) : [Value.int a, .int b, .int c, .int d].set j.toNatClampNeg (.int v) = [.int (own_sl j 0 v a), .int (own_sl j 1 v b), .int (own_sl j 2 v c), .int (own_sl j 3 v d)] := by
  rcases own_j4 h with rfl | rfl | rfl | rfl <;> rfl
theorem own_at5 {j : Int32} {a b c d e : Int64} {dv : Value} (h : 0 ≤ j.toInt ∧ j.toInt ≤ 4) : [Value.long a, .long b, .long c, .long d, .long e].getD j.toNatClampNeg dv = .long (own_p5 j a b c d e) := by
  have : j = 0 ∨ j = 1 ∨ j = 2 ∨ j = 3 ∨ j = 4 := by
    simp only [← Int32.toInt_inj, show (0 : Int32).toInt = 0 from rfl, show (1 : Int32).toInt = 1 from rfl, show (2 : Int32).toInt = 2 from rfl, show (3 : Int32).toInt = 3 from rfl, show (4 : Int32).toInt = 4 from rfl]
    omega
  rcases this with rfl | rfl | rfl | rfl | rfl <;> rfl
theorem own_bd5 {j : Int32} (h : 0 ≤ j.toInt ∧ j.toInt ≤ 4) : ¬ j < 0 ∧ j < 5 := by
  simp only [Int32.lt_iff_toInt_lt, show (0 : Int32).toInt = 0 from rfl, show (5 : Int32).toInt = 5 from rfl]; omega
/-- the next sum -/
theorem own_Tn {o0 o1 o2 o3 p0 p1 p2 p3 t : Int32} (h : 0 ≤ t.toInt ∧ t.toInt < 4) : own_T (own_pk o0 p0 p1 p2 p3) (own_pk o1 p0 p1 p2 p3) (own_pk o2 p0 p1 p2 p3) (own_pk o3 p0 p1 p2 p3) (t.toInt + 1) = own_T (own_pk o0 p0 p1 p2 p3) (own_pk o1 p0 p1 p2 p3) (own_pk o2 p0 p1 p2 p3) (own_pk o3 p0 p1 p2 p3) t.toInt + (own_pk (own_pk t o0 o1 o2 o3) p0 p1 p2 p3).toInt := by
  rcases own_j4 h with rfl | rfl | rfl | rfl
  · show _ = (0 : Int) + (own_pk o0 p0 p1 p2 p3).toInt; rw [Int.zero_add]; rfl
  · rfl
  · rfl
  · rfl
theorem own_pk0 {t p0 p1 p2 p3 : Int32} (h : 0 ≤ p0.toInt ∧ 0 ≤ p1.toInt ∧ 0 ≤ p2.toInt ∧ 0 ≤ p3.toInt) : 0 ≤ (own_pk t p0 p1 p2 p3).toInt := by
  unfold own_pk
  split
  · exact h.1
  split
  · exact h.2.1
  split
  · exact h.2.2.1
  · exact h.2.2.2
theorem own_Tb {a b c d : Int32} (ha : 0 ≤ a.toInt) (hb : 0 ≤ b.toInt) (hc : 0 ≤ c.toInt) (hd : 0 ≤ d.toInt) (i : Int) : 0 ≤ own_T a b c d i ∧ own_T a b c d i < 8589934592 ∧ own_T a b c d i ≤ own_T a b c d 4 := by
  have := Int32.toInt_lt a; have := Int32.toInt_lt b; have := Int32.toInt_lt c; have := Int32.toInt_lt d
  simp only [own_T]
  repeat' split
  all_goals omega
theorem own_addL {r : Int64} {q : Int32} (h0 : 0 ≤ r.toInt) (h1 : r.toInt < 8589934592) (h2 : 0 ≤ q.toInt) : (r + q.toInt64).toInt = r.toInt + q.toInt := by
  have := Int32.toInt_lt q
  rw [Int64.toInt_add, Int32.toInt_toInt64]; exact Int.bmod_eq_of_le (by omega) (by omega)
theorem own_inc {t : Int32} (h0 : 0 ≤ t.toInt) (h : t.toInt < 4) : (t + 1).toInt = t.toInt + 1 := by
  rw [Int32.toInt_add, show (1 : Int32).toInt = 1 from rfl]; exact Int.bmod_eq_of_le (by omega) (by omega)
theorem own_b0 (o0 o1 o2 o3 f d : Int32) : own_b o0 o1 o2 o3 f f d = 0 := by
  unfold own_b own_go
  split
  · rfl
  · rfl
theorem own_lt4 {j : Int32} (h : 0 ≤ j.toInt ∧ j.toInt < 4) : j.toNatClampNeg < 4 := by simp only [Int32.toNatClampNeg]; omega
/-- one turn of the picking: kept where b = 0 -/
def own_stp (b d : Int32) (q : Int32 × Int32 × Int32 × Int32 × Int32) : Int32 × Int32 × Int32 × Int32 × Int32 :=
  if b = 0 then (q.1 + 1, own_sl q.1 0 d q.2.1, own_sl q.1 1 d q.2.2.1, own_sl q.1 2 d q.2.2.2.1, own_sl q.1 3 d q.2.2.2.2) else q
def own_nt (g : Int32) : Int32 := if g = 0 then 1 else 0
theorem own_nt1 {g : Int32} (h : own_nt g = 0) : ¬ g = 0 := fun q => by rw [own_nt, if_pos q] at h; exact absurd h (by decide)
theorem own_nt0 {g : Int32} (h : ¬ own_nt g = 0) : g = 0 := Classical.byContradiction fun q => h (if_neg q)
theorem own_nt2 (g : Int32) : narrow .boolean (.int (own_nt g)) = .int (own_nt g) := by
  unfold own_nt; split <;> rfl

theorem d1_0 : decode jdk_30_method_1_code 0 = .ok (.aload_n 0, 1) := by decide +kernel
theorem d1_1 : decode jdk_30_method_1_code 1 = .ok (.invokespecial 1, 3) := by decide +kernel
theorem d1_4 : decode jdk_30_method_1_code 4 = .ok (.return_, 1) := by decide +kernel
theorem pn_rm1 : plainFor (⟨"java/lang/Record", "<init>", "()V"⟩ : MethodName) = true := by decide +kernel
theorem ef_rm1 (m : MethodId) (x0 : Addr) : entryFrame m #[(.ref x0)] 1 = mkF m 0 #[.val (.ref x0)] [] := by first | (simp [entryFrame, mkF, argsToLocals, Value.category]; done) | rfl
set_option maxRecDepth 65536 in
set_option maxHeartbeats 40000000 in
theorem rm1 (l : Launch) (Z : State) (a0 : Array Value) (hw : ∀ d ∈ tables_1, d.before a0 Z = true) (r0 : Addr) (h0 : Heap) :
    own_Met l Z (⟨"java/lang/Record", "<init>", "()V"⟩ : MethodName) jdk_30_method_1_code 1 none [] ({ frames := 1, cells := 0, slots := 0, locals := 12 } : Room) #[(.ref r0)] h0 (fun v h L => v = none ∧ L = [] ∧ h = h0) := by
  refine own_body pn_rm1 ?_
  intro p e s m below meth c s₁ hx hby hml hown hnm hret hlk hZ X0 e0 G hG
  replace hml : c.maxLocals = 1 := hml
  replace hown : s.vm.findClass "java/lang/Record" = some m.cls := hown
  rw [ef_rm1]
  show own_Go p e below G (s₁.setTop (mkF m 0 #[.val (.ref r0)] []))
  refine own_st (fun t k => XS.aloadN X0.here hx rfl (hb hby d1_0) rfl rfl  k) ?_
  show own_Go p e below G (s₁.setTop (mkF m 1 #[.val (.ref r0)] [(.ref r0)]))
  obtain ⟨T1, X1, e1, st1⟩ := initO X0 hx hZ hown (hw _ (List.mem_of_getElem? (i := 50) rfl)) (hw _ (List.mem_of_getElem? (i := 11) rfl)) (hw _ (List.mem_of_getElem? (i := 12) rfl)) e0 (g := (mkF m 1 #[.val (.ref r0)] [(.ref r0)])) rfl (by rw [hml]; rfl) rfl (hb hby d1_1) (by decide) (W := 0) (by show 2 * 0 + _ ≤ _; exact Nat.le_of_eq rfl) (by decide)
  refine own_st st1 ?_
  show own_Go p e below G (T1.setTop (mkF m 4 #[.val (.ref r0)] []))
  rw [hG]
  exact own_retV X1 hx hlk hret (hb hby d1_4) ⟨rfl, rfl, e1⟩ (by decide) (by decide)
theorem d2_0 : decode prog_194_method_1_code 0 = .ok (.aload_n 0, 1) := by decide +kernel
theorem d2_1 : decode prog_194_method_1_code 1 = .ok (.invokespecial 1, 3) := by decide +kernel
theorem d2_4 : decode prog_194_method_1_code 4 = .ok (.aload_n 0, 1) := by decide +kernel
theorem d2_5 : decode prog_194_method_1_code 5 = .ok (.aload_n 1, 1) := by decide +kernel
theorem d2_6 : decode prog_194_method_1_code 6 = .ok (.putfield 7, 3) := by decide +kernel
theorem d2_9 : decode prog_194_method_1_code 9 = .ok (.aload_n 0, 1) := by decide +kernel
theorem d2_10 : decode prog_194_method_1_code 10 = .ok (.aload_n 1, 1) := by decide +kernel
theorem d2_11 : decode prog_194_method_1_code 11 = .ok (.arraylength, 1) := by decide +kernel
theorem d2_12 : decode prog_194_method_1_code 12 = .ok (.newarray .boolean, 2) := by decide +kernel
theorem d2_14 : decode prog_194_method_1_code 14 = .ok (.putfield 13, 3) := by decide +kernel
theorem d2_17 : decode prog_194_method_1_code 17 = .ok (.return_, 1) := by decide +kernel
theorem pn_rm2 : plainFor (⟨"com/example/thinleaf/thinleaf/prune/DocumentCut", "<init>", "([I)V"⟩ : MethodName) = true := by decide +kernel
theorem ef_rm2 (m : MethodId) (x0 : Addr) (x1 : Addr) : entryFrame m #[(.ref x0), (.ref x1)] 2 = mkF m 0 #[.val (.ref x0), .val (.ref x1)] [] := by first | (simp [entryFrame, mkF, argsToLocals, Value.category]; done) | rfl
set_option maxRecDepth 65536 in
set_option maxHeartbeats 40000000 in
theorem rm2 (l : Launch) (Z : State) (a0 : Array Value) (hw : ∀ d ∈ tables_1, d.before a0 Z = true) (r0 pa : Addr) (kp : ClassId) (p0 p1 p2 p3 : Int32) (h0 : Heap) (n0 : Nat) (Z0 : n0 ≤ h0.size) (g_r0 : n0 ≤ r0) (E_r0 : Exa Z h0 r0 "com/example/thinleaf/thinleaf/prune/DocumentCut") (F_postings_r0 : Fld Z h0 r0 "com/example/thinleaf/thinleaf/prune/DocumentCut" "postings" "[I" .null) (F_goes_r0 : Fld Z h0 r0 "com/example/thinleaf/thinleaf/prune/DocumentCut" "goes" "[Z" .null) (V_pa : Arv Z h0 pa kp .int (4 : Int32) [(.int p0), (.int p1), (.int p2), (.int p3)] (.int (0 : Int32))) (ne_pa_r0 : pa ≠ r0) :
    own_Met l Z (⟨"com/example/thinleaf/thinleaf/prune/DocumentCut", "<init>", "([I)V"⟩ : MethodName) prog_194_method_1_code 2 none [] ({ frames := 1, cells := 1, slots := 4, locals := 12 } : Room) #[(.ref r0), (.ref pa)] h0 (fun v h L => v = none ∧ Fr n0 L ∧ Keep h0 h [r0] ∧ Exa Z h r0 "com/example/thinleaf/thinleaf/prune/DocumentCut" ∧ Fld Z h r0 "com/example/thinleaf/thinleaf/prune/DocumentCut" "postings" "[I" (.ref pa) ∧ ∃ (gz : Addr) (kg : ClassId), h0.size ≤ gz ∧ Fld Z h r0 "com/example/thinleaf/thinleaf/prune/DocumentCut" "goes" "[Z" (.ref gz) ∧ Arv Z h gz kg .boolean (4 : Int32) [(.int (0 : Int32)), (.int (0 : Int32)), (.int (0 : Int32)), (.int (0 : Int32))] (.int (0 : Int32))) := by
  refine own_body pn_rm2 ?_
  intro p e s m below meth c s₁ hx hby hml hown hnm hret hlk hZ X0 e0 G hG
  replace hml : c.maxLocals = 2 := hml
  replace hown : s.vm.findClass "com/example/thinleaf/thinleaf/prune/DocumentCut" = some m.cls := hown
  rw [ef_rm2]
  have N0 := Fr.nil n0
  have K0 := Keep.refl h0 [r0]
  show own_Go p e below G (s₁.setTop (mkF m 0 #[.val (.ref r0), .val (.ref pa)] []))
  refine own_st (fun t k => XS.aloadN X0.here hx rfl (hb hby d2_0) rfl rfl  k) ?_
  show own_Go p e below G (s₁.setTop (mkF m 1 #[.val (.ref r0), .val (.ref pa)] [(.ref r0)]))
  obtain ⟨T1, X1, e1, st1⟩ := initO X0 hx hZ hown (hw _ (List.mem_of_getElem? (i := 10) rfl)) (hw _ (List.mem_of_getElem? (i := 11) rfl)) (hw _ (List.mem_of_getElem? (i := 12) rfl)) e0 (g := (mkF m 1 #[.val (.ref r0), .val (.ref pa)] [(.ref r0)])) rfl (by rw [hml]; rfl) rfl (hb hby d2_1) (by decide) (W := 0) (by show 2 * 0 + _ ≤ _; exact Nat.le_of_eq rfl) (by decide)
  refine own_st st1 ?_
  show own_Go p e below G (T1.setTop (mkF m 4 #[.val (.ref r0), .val (.ref pa)] []))
  refine own_st (fun t k => XS.aloadN X1.here hx rfl (hb hby d2_4) rfl rfl  k) ?_
  show own_Go p e below G (T1.setTop (mkF m 5 #[.val (.ref r0), .val (.ref pa)] [(.ref r0)]))
  refine own_st (fun t k => XS.aloadN X1.here hx rfl (hb hby d2_5) rfl rfl  k) ?_
  show own_Go p e below G (T1.setTop (mkF m 6 #[.val (.ref r0), .val (.ref pa)] [(.ref pa), (.ref r0)]))
  obtain ⟨T2, h2, X2, e2, W2, st2⟩ := putF X1 hx hZ hown (host := "") (Or.inl (hw _ (List.mem_of_getElem? (i := 13) rfl))) Via.refl e1 F_postings_r0 E_r0 (Or.inr ⟨(hw _ (List.mem_of_getElem? (i := 14) rfl)), rfl, hnm⟩) (hw _ (List.mem_of_getElem? (i := 5) rfl)) (ty := (.array .int)) (by decide) rfl rfl (g := (mkF m 6 #[.val (.ref r0), .val (.ref pa)] [(.ref pa), (.ref r0)])) rfl rfl (hb hby d2_6)
  replace E_r0 := E_r0.wr W2
  replace F_postings_r0 := F_postings_r0.same W2
  replace F_goes_r0 := F_goes_r0.other W2 (Or.inr (slot_ne (Or.inr (hw _ (List.mem_of_getElem? (i := 17) rfl))) (Or.inr (hw _ (List.mem_of_getElem? (i := 14) rfl))) (by decide) (t := (.array .boolean)) (t' := (.array .int)) (by decide) (by decide)))
  replace V_pa := V_pa.other W2 ne_pa_r0
  replace Z0 := Nat.le_trans Z0 (Keep.of_wr W2).1
  replace N0 := Fr.snoc X2 N0 g_r0
  replace K0 := K0.wr W2 (Or.inl (List.mem_of_getElem? (i := 0) rfl))
  refine own_st st2 ?_
  show own_Go p e below G (T2.setTop (mkF m 9 #[.val (.ref r0), .val (.ref pa)] []))
  refine own_st (fun t k => XS.aloadN X2.here hx rfl (hb hby d2_9) rfl rfl  k) ?_
  show own_Go p e below G (T2.setTop (mkF m 10 #[.val (.ref r0), .val (.ref pa)] [(.ref r0)]))
  refine own_st (fun t k => XS.aloadN X2.here hx rfl (hb hby d2_10) rfl rfl  k) ?_
  show own_Go p e below G (T2.setTop (mkF m 11 #[.val (.ref r0), .val (.ref pa)] [(.ref pa), (.ref r0)]))
  have Vc3 := V_pa
  obtain ⟨cl3, Ar3, -, Sa3, Na3, -, -⟩ := Vc3
  refine own_st (fun t k => X2.arraylength hx (by rw [e2]; exact Ar3.1) (State.isArrayOf_alike hZ.alike Ar3.2.1) (g := (mkF m 11 #[.val (.ref r0), .val (.ref pa)] [(.ref pa), (.ref r0)])) rfl rfl (hb hby d2_11) t k) ?_
  rw [len_of Sa3 Na3]
  show own_Go p e below G (T2.setTop (mkF m 12 #[.val (.ref r0), .val (.ref pa)] [(.int (4 : Int32)), (.ref r0)]))
  obtain ⟨T4, h4, k4, X4, e4, E4, A4, st4⟩ := newP X2 hx hZ (hw _ (List.mem_of_getElem? (i := 15) rfl)) e2 (g := (mkF m 12 #[.val (.ref r0), .val (.ref pa)] [(.int (4 : Int32)), (.ref r0)])) rfl (hb hby d2_12) rfl (by decide) (cap := 4) (by decide) (by decide) (by decide) (by decide)
  obtain ⟨b4, gb4⟩ : ∃ z, z = h2.size := ⟨_, rfl⟩
  rw [← gb4] at A4 st4
  have g_b4 : n0 ≤ b4 := Nat.le_trans Z0 (Nat.le_of_eq gb4.symm)
  have ne_r0_b4 : r0 ≠ b4 := Nat.ne_of_lt (Nat.lt_of_lt_of_le E_r0.lt (Nat.le_of_eq gb4.symm))
  have ne_pa_b4 : pa ≠ b4 := Nat.ne_of_lt (Nat.lt_of_lt_of_le V_pa.lt (Nat.le_of_eq gb4.symm))
  replace Z0 := Nat.le_trans Z0 E4.1
  replace E_r0 := E_r0.ext E4
  replace F_postings_r0 := F_postings_r0.ext E4
  replace F_goes_r0 := F_goes_r0.ext E4
  replace V_pa := V_pa.ext E4
  have V_b4 : Arv Z h4 b4 k4 .boolean (4 : Int32) [(.int (0 : Int32)), (.int (0 : Int32)), (.int (0 : Int32)), (.int (0 : Int32))] (.int (0 : Int32)) := (Arv.new A4 (by decide)).pad (pad_rep [] (.int (0 : Int32)) 4)
  refine own_st st4 ?_
  have ge_b4 : h0.size ≤ b4 := Nat.le_trans K0.1 (Nat.le_of_eq gb4.symm)
  replace K0 := K0.ext E4
  show own_Go p e below G (T4.setTop (mkF m 14 #[.val (.ref r0), .val (.ref pa)] [(.ref b4), (.ref r0)]))
  obtain ⟨T5, h5, X5, e5, W5, st5⟩ := putF X4 hx hZ hown (host := "") (Or.inl (hw _ (List.mem_of_getElem? (i := 16) rfl))) Via.refl e4 F_goes_r0 E_r0 (Or.inr ⟨(hw _ (List.mem_of_getElem? (i := 17) rfl)), rfl, hnm⟩) (hw _ (List.mem_of_getElem? (i := 5) rfl)) (ty := (.array .boolean)) (by decide) rfl rfl (g := (mkF m 14 #[.val (.ref r0), .val (.ref pa)] [(.ref b4), (.ref r0)])) rfl rfl (hb hby d2_14)
  replace E_r0 := E_r0.wr W5
  replace F_postings_r0 := F_postings_r0.other W5 (Or.inr (slot_ne (Or.inr (hw _ (List.mem_of_getElem? (i := 14) rfl))) (Or.inr (hw _ (List.mem_of_getElem? (i := 17) rfl))) (by decide) (t := (.array .int)) (t' := (.array .boolean)) (by decide) (by decide)))
  replace F_goes_r0 := F_goes_r0.same W5
  replace V_pa := V_pa.other W5 ne_pa_r0
  replace V_b4 := V_b4.other W5 (Ne.symm ne_r0_b4)
  replace Z0 := Nat.le_trans Z0 (Keep.of_wr W5).1
  replace N0 := Fr.snoc X5 N0 g_r0
  replace K0 := K0.wr W5 (Or.inl (List.mem_of_getElem? (i := 0) rfl))
  refine own_st st5 ?_
  show own_Go p e below G (T5.setTop (mkF m 17 #[.val (.ref r0), .val (.ref pa)] []))
  rw [hG]
  exact own_retV X5 hx hlk hret (hb hby d2_17) (by rw [e5]; exact ⟨rfl, N0, K0, E_r0, F_postings_r0, b4, k4, ge_b4, F_goes_r0, V_b4⟩) (by decide) (by decide)
theorem d3_0 : decode prog_194_method_3_code 0 = .ok (.iload_n 2, 1) := by decide +kernel
theorem d3_1 : decode prog_194_method_3_code 1 = .ok (.istore 5, 2) := by decide +kernel
theorem d3_3 : decode prog_194_method_3_code 3 = .ok (.lconst 0, 1) := by decide +kernel
theorem d3_4 : decode prog_194_method_3_code 4 = .ok (.lstore 6, 2) := by decide +kernel
theorem d3_6 : decode prog_194_method_3_code 6 = .ok (.lload 6, 2) := by decide +kernel
theorem d3_8 : decode prog_194_method_3_code 8 = .ok (.lload_n 3, 1) := by decide +kernel
theorem d3_9 : decode prog_194_method_3_code 9 = .ok (.lcmp, 1) := by decide +kernel
theorem d3_10 : decode prog_194_method_3_code 10 = .ok (.ifCond .ge 34, 3) := by decide +kernel
theorem d3_13 : decode prog_194_method_3_code 13 = .ok (.aload_n 0, 1) := by decide +kernel
theorem d3_14 : decode prog_194_method_3_code 14 = .ok (.getfield 13, 3) := by decide +kernel
theorem d3_17 : decode prog_194_method_3_code 17 = .ok (.aload_n 1, 1) := by decide +kernel
theorem d3_18 : decode prog_194_method_3_code 18 = .ok (.iload 5, 2) := by decide +kernel
theorem d3_20 : decode prog_194_method_3_code 20 = .ok (.iaload, 1) := by decide +kernel
theorem d3_21 : decode prog_194_method_3_code 21 = .ok (.iconst 1, 1) := by decide +kernel
theorem d3_22 : decode prog_194_method_3_code 22 = .ok (.bastore, 1) := by decide +kernel
theorem d3_23 : decode prog_194_method_3_code 23 = .ok (.lload 6, 2) := by decide +kernel
theorem d3_25 : decode prog_194_method_3_code 25 = .ok (.aload_n 0, 1) := by decide +kernel
theorem d3_26 : decode prog_194_method_3_code 26 = .ok (.getfield 7, 3) := by decide +kernel
theorem d3_29 : decode prog_194_method_3_code 29 = .ok (.aload_n 1, 1) := by decide +kernel
theorem d3_30 : decode prog_194_method_3_code 30 = .ok (.iload 5, 2) := by decide +kernel
theorem d3_32 : decode prog_194_method_3_code 32 = .ok (.iaload, 1) := by decide +kernel
theorem d3_33 : decode prog_194_method_3_code 33 = .ok (.iaload, 1) := by decide +kernel
theorem d3_34 : decode prog_194_method_3_code 34 = .ok (.i2l, 1) := by decide +kernel
theorem d3_35 : decode prog_194_method_3_code 35 = .ok (.ladd, 1) := by decide +kernel
theorem d3_36 : decode prog_194_method_3_code 36 = .ok (.lstore 6, 2) := by decide +kernel
theorem d3_38 : decode prog_194_method_3_code 38 = .ok (.iinc 5 1, 3) := by decide +kernel
theorem d3_41 : decode prog_194_method_3_code 41 = .ok (.goto (-35), 3) := by decide +kernel
theorem d3_44 : decode prog_194_method_3_code 44 = .ok (.iload 5, 2) := by decide +kernel
theorem d3_46 : decode prog_194_method_3_code 46 = .ok (.ireturn, 1) := by decide +kernel
theorem pn_rm3 : plainFor (⟨"com/example/thinleaf/thinleaf/prune/DocumentCut", "remove", "([IIJ)I"⟩ : MethodName) = true := by decide +kernel
theorem ef_rm3 (m : MethodId) (x0 : Addr) (x1 : Addr) (x2 : Int32) (x3 : Int64) : entryFrame m #[(.ref x0), (.ref x1), (.int x2), (.long x3)] 8 = mkF m 0 #[.val (.ref x0), .val (.ref x1), .val (.int x2), .val (.long x3), .second, .unset, .unset, .unset] [] := by first | (simp [entryFrame, mkF, argsToLocals, Value.category]; done) | rfl
set_option maxRecDepth 65536 in
set_option maxHeartbeats 40000000 in
theorem rm3 (l : Launch) (Z : State) (a0 : Array Value) (hw : ∀ d ∈ tables_1, d.before a0 Z = true) (r0 od pa gz : Addr) (ko kp kg : ClassId) (fr : Int32) (sh : Int64) (o0 o1 o2 o3 p0 p1 p2 p3 : Int32) (h0 : Heap) (n0 : Nat) (Z0 : n0 ≤ h0.size) (g_gz : n0 ≤ gz) (ne_r0_gz : r0 ≠ gz) (ne_pa_gz : pa ≠ gz) (ne_od_gz : od ≠ gz) (F_po : Fld Z h0 r0 "com/example/thinleaf/thinleaf/prune/DocumentCut" "postings" "[I" (.ref pa)) (F_go : Fld Z h0 r0 "com/example/thinleaf/thinleaf/prune/DocumentCut" "goes" "[Z" (.ref gz)) (V_pa : Arv Z h0 pa kp .int (4 : Int32) [(.int p0), (.int p1), (.int p2), (.int p3)] (.int (0 : Int32))) (V_od : Arv Z h0 od ko .int (4 : Int32) [(.int o0), (.int o1), (.int o2), (.int o3)] (.int (0 : Int32))) (V_gz : Arv Z h0 gz kg .boolean (4 : Int32) [(.int (0 : Int32)), (.int (0 : Int32)), (.int (0 : Int32)), (.int (0 : Int32))] (.int (0 : Int32))) (hP : own_Pm o0 o1 o2 o3) (hp : 0 ≤ p0.toInt ∧ 0 ≤ p1.toInt ∧ 0 ≤ p2.toInt ∧ 0 ≤ p3.toInt) (hf0 : 0 ≤ fr.toInt) (hf4 : fr.toInt ≤ 4) (hs0 : 0 ≤ sh.toInt) (hsh : sh.toInt ≤ own_T (own_pk o0 p0 p1 p2 p3) (own_pk o1 p0 p1 p2 p3) (own_pk o2 p0 p1 p2 p3) (own_pk o3 p0 p1 p2 p3) 4 - own_T (own_pk o0 p0 p1 p2 p3) (own_pk o1 p0 p1 p2 p3) (own_pk o2 p0 p1 p2 p3) (own_pk o3 p0 p1 p2 p3) fr.toInt) :
    own_Met l Z (⟨"com/example/thinleaf/thinleaf/prune/DocumentCut", "remove", "([IIJ)I"⟩ : MethodName) prog_194_method_3_code 8 (some .int) [] ({ frames := 0, cells := 0, slots := 0, locals := 0 } : Room) #[(.ref r0), (.ref od), (.int fr), (.long sh)] h0 (fun v h L => ∃ en : Int32, v = some (.int en) ∧ Fr n0 L ∧ Keep h0 h [gz] ∧ Arv Z h gz kg .boolean (4 : Int32) [(.int (own_b o0 o1 o2 o3 fr en 0)), (.int (own_b o0 o1 o2 o3 fr en 1)), (.int (own_b o0 o1 o2 o3 fr en 2)), (.int (own_b o0 o1 o2 o3 fr en 3))] (.int (0 : Int32)) ∧ fr.toInt ≤ en.toInt ∧ en.toInt ≤ 4 ∧ sh.toInt ≤ own_T (own_pk o0 p0 p1 p2 p3) (own_pk o1 p0 p1 p2 p3) (own_pk o2 p0 p1 p2 p3) (own_pk o3 p0 p1 p2 p3) en.toInt - own_T (own_pk o0 p0 p1 p2 p3) (own_pk o1 p0 p1 p2 p3) (own_pk o2 p0 p1 p2 p3) (own_pk o3 p0 p1 p2 p3) fr.toInt ∧ (fr.toInt < en.toInt → own_T (own_pk o0 p0 p1 p2 p3) (own_pk o1 p0 p1 p2 p3) (own_pk o2 p0 p1 p2 p3) (own_pk o3 p0 p1 p2 p3) (en.toInt - 1) - own_T (own_pk o0 p0 p1 p2 p3) (own_pk o1 p0 p1 p2 p3) (own_pk o2 p0 p1 p2 p3) (own_pk o3 p0 p1 p2 p3) fr.toInt < sh.toInt)) := by
  refine own_body pn_rm3 ?_
  intro p e s m below meth c s₁ hx hby hml hown hnm hret hlk hZ X0 e0 G hG
  replace hml : c.maxLocals = 8 := hml
  replace hown : s.vm.findClass "com/example/thinleaf/thinleaf/prune/DocumentCut" = some m.cls := hown
  rw [ef_rm3]
  have N0 := Fr.nil n0
  have K0 := Keep.refl h0 [gz]
  show own_Go p e below G (s₁.setTop (mkF m 0 #[.val (.ref r0), .val (.ref od), .val (.int fr), .val (.long sh), .second, .unset, .unset, .unset] []))
  refine own_st (fun t k => XS.iloadN X0.here hx rfl (hb hby d3_0) rfl  k) ?_
  show own_Go p e below G (s₁.setTop (mkF m 1 #[.val (.ref r0), .val (.ref od), .val (.int fr), .val (.long sh), .second, .unset, .unset, .unset] [(.int fr)]))
  refine own_st (fun t k => XS.istore X0.here hx rfl (hb hby d3_1) rfl (l' := #[.val (.ref r0), .val (.ref od), .val (.int fr), .val (.long sh), .second, .val (.int fr), .unset, .unset]) rfl k) ?_
  show own_Go p e below G (s₁.setTop (mkF m 3 #[.val (.ref r0), .val (.ref od), .val (.int fr), .val (.long sh), .second, .val (.int fr), .unset, .unset] []))
  refine own_st (fun t k => XS.lconst X0.here hx rfl (hb hby d3_3) k) ?_
  show own_Go p e below G (s₁.setTop (mkF m 4 #[.val (.ref r0), .val (.ref od), .val (.int fr), .val (.long sh), .second, .val (.int fr), .unset, .unset] [(.long (0 : Int64))]))
  refine own_st (fun t k => XS.lstore X0.here hx rfl (hb hby d3_4) rfl (l' := #[.val (.ref r0), .val (.ref od), .val (.int fr), .val (.long sh), .second, .val (.int fr), .val (.long (0 : Int64)), .second]) rfl k) ?_
  show own_Go p e below G (s₁.setTop (mkF m 6 #[.val (.ref r0), .val (.ref od), .val (.int fr), .val (.long sh), .second, .val (.int fr), .val (.long (0 : Int64)), .second] []))
  have loop : ∀ (k : Nat) (ix : Int32) (rem : Int64) (Tj : State) (hj : Heap) (Lj : List Loc), Stand p l e ({ frames := 0, cells := 0, slots := 0, locals := 0 } : Room) s m #[(.ref r0), (.ref od), (.int fr), (.long sh)] below meth c Tj Lj 0 0 → Tj.heap = hj → Fr n0 Lj → n0 ≤ hj.size → Keep h0 hj [gz] → Fld Z hj r0 "com/example/thinleaf/thinleaf/prune/DocumentCut" "postings" "[I" (.ref pa) → Fld Z hj r0 "com/example/thinleaf/thinleaf/prune/DocumentCut" "goes" "[Z" (.ref gz) → Arv Z hj pa kp .int (4 : Int32) [(.int p0), (.int p1), (.int p2), (.int p3)] (.int (0 : Int32)) → Arv Z hj od ko .int (4 : Int32) [(.int o0), (.int o1), (.int o2), (.int o3)] (.int (0 : Int32)) → Arv Z hj gz kg .boolean (4 : Int32) [(.int (own_b o0 o1 o2 o3 fr ix 0)), (.int (own_b o0 o1 o2 o3 fr ix 1)), (.int (own_b o0 o1 o2 o3 fr ix 2)), (.int (own_b o0 o1 o2 o3 fr ix 3))] (.int (0 : Int32)) → fr.toInt ≤ ix.toInt → ix.toInt ≤ 4 → 4 - ix.toInt ≤ k → 0 ≤ rem.toInt → rem.toInt = own_T (own_pk o0 p0 p1 p2 p3) (own_pk o1 p0 p1 p2 p3) (own_pk o2 p0 p1 p2 p3) (own_pk o3 p0 p1 p2 p3) ix.toInt - own_T (own_pk o0 p0 p1 p2 p3) (own_pk o1 p0 p1 p2 p3) (own_pk o2 p0 p1 p2 p3) (own_pk o3 p0 p1 p2 p3) fr.toInt → (fr.toInt < ix.toInt → own_T (own_pk o0 p0 p1 p2 p3) (own_pk o1 p0 p1 p2 p3) (own_pk o2 p0 p1 p2 p3) (own_pk o3 p0 p1 p2 p3) (ix.toInt - 1) - own_T (own_pk o0 p0 p1 p2 p3) (own_pk o1 p0 p1 p2 p3) (own_pk o2 p0 p1 p2 p3) (own_pk o3 p0 p1 p2 p3) fr.toInt < sh.toInt) → own_Go p e below G (Tj.setTop (mkF m 6 #[.val (.ref r0), .val (.ref od), .val (.int fr), .val (.long sh), .second, .val (.int ix), .val (.long rem), .second] [])) := by
    clear F_po F_go V_pa V_od V_gz N0 K0 Z0
    intro k
    induction k with
    | zero =>
      intro ix rem Tj hj Lj Xj ej N0 Z0 K0 F_po F_go V_pa V_od V_gz ht0 ht4 hk hr0 hrem hlast
      have h4 : ix.toInt = 4 := by omega
      have hex : ¬ rem < sh := by rw [Int64.lt_iff_toInt_lt, hrem, h4]; omega
      refine own_st (fun t k => XS.lload Xj.here hx rfl (hb hby d3_6) rfl  k) ?_
      show own_Go p e below G (Tj.setTop (mkF m 8 #[.val (.ref r0), .val (.ref od), .val (.int fr), .val (.long sh), .second, .val (.int ix), .val (.long rem), .second] [(.long rem)]))
      refine own_st (fun t k => XS.lloadN Xj.here hx rfl (hb hby d3_8) rfl  k) ?_
      show own_Go p e below G (Tj.setTop (mkF m 9 #[.val (.ref r0), .val (.ref od), .val (.int fr), .val (.long sh), .second, .val (.int ix), .val (.long rem), .second] [(.long sh), (.long rem)]))
      refine own_st (fun t k => XS.lcmp Xj.here hx rfl (hb hby d3_9) rfl k) ?_
      show own_Go p e below G (Tj.setTop (mkF m 10 #[.val (.ref r0), .val (.ref od), .val (.int fr), .val (.long sh), .second, .val (.int ix), .val (.long rem), .second] [(.int (lcmpW rem sh))]))
      refine own_st (fun t k => XS.ifYes Xj.here hx rfl (pc0 := 10) (pc' := 44) rfl (hb hby d3_10) rfl ((if0 _ _).trans (flt (fun q => hex ((lw_lt _ _).1 q))).2.1) (by decide) (by decide) k) ?_
      show own_Go p e below G (Tj.setTop (mkF m 44 #[.val (.ref r0), .val (.ref od), .val (.int fr), .val (.long sh), .second, .val (.int ix), .val (.long rem), .second] []))
      refine own_st (fun t k => XS.iload Xj.here hx rfl (hb hby d3_44) rfl  k) ?_
      show own_Go p e below G (Tj.setTop (mkF m 46 #[.val (.ref r0), .val (.ref od), .val (.int fr), .val (.long sh), .second, .val (.int ix), .val (.long rem), .second] [(.int ix)]))
      rw [hG]
      rw [Int64.lt_iff_toInt_lt, hrem] at hex
      exact own_retI Xj hx hlk hret (hb hby d3_46) (by rw [ej]; exact ⟨ix, rfl, N0, K0, V_gz, ht0, ht4, by omega, hlast⟩) (by decide) (by decide)
    | succ k ih =>
      intro ix rem Tj hj Lj Xj ej N0 Z0 K0 F_po F_go V_pa V_od V_gz ht0 ht4 hk hr0 hrem hlast
      refine own_st (fun t k => XS.lload Xj.here hx rfl (hb hby d3_6) rfl  k) ?_
      show own_Go p e below G (Tj.setTop (mkF m 8 #[.val (.ref r0), .val (.ref od), .val (.int fr), .val (.long sh), .second, .val (.int ix), .val (.long rem), .second] [(.long rem)]))
      refine own_st (fun t k => XS.lloadN Xj.here hx rfl (hb hby d3_8) rfl  k) ?_
      show own_Go p e below G (Tj.setTop (mkF m 9 #[.val (.ref r0), .val (.ref od), .val (.int fr), .val (.long sh), .second, .val (.int ix), .val (.long rem), .second] [(.long sh), (.long rem)]))
      refine own_st (fun t k => XS.lcmp Xj.here hx rfl (hb hby d3_9) rfl k) ?_
      show own_Go p e below G (Tj.setTop (mkF m 10 #[.val (.ref r0), .val (.ref od), .val (.int fr), .val (.long sh), .second, .val (.int ix), .val (.long rem), .second] [(.int (lcmpW rem sh))]))
      by_cases c10_1 : rem < sh
      · skip
        refine own_st (fun t k => XS.ifNo Xj.here hx rfl (hb hby d3_10) rfl ((if0 _ _).trans (tlt ((lw_lt _ _).2 c10_1)).2.1) k) ?_
        show own_Go p e below G (Tj.setTop (mkF m 13 #[.val (.ref r0), .val (.ref od), .val (.int fr), .val (.long sh), .second, .val (.int ix), .val (.long rem), .second] []))
        have hlt : ix.toInt < 4 := by
          rw [Int64.lt_iff_toInt_lt, hrem] at c10_1
          by_cases q : ix.toInt = 4
          · rw [q] at c10_1; omega
          · omega
        have htt : 0 ≤ ix.toInt ∧ ix.toInt < 4 := ⟨by omega, hlt⟩
        refine own_st (fun t k => XS.aloadN Xj.here hx rfl (hb hby d3_13) rfl rfl  k) ?_
        show own_Go p e below G (Tj.setTop (mkF m 14 #[.val (.ref r0), .val (.ref od), .val (.int fr), .val (.long sh), .second, .val (.int ix), .val (.long rem), .second] [(.ref r0)]))
        obtain ⟨T2, X2, e2, st2⟩ := getF Xj hx hZ hown (host := "") (Or.inl (hw _ (List.mem_of_getElem? (i := 16) rfl))) Via.refl ej F_go (g := (mkF m 14 #[.val (.ref r0), .val (.ref od), .val (.int fr), .val (.long sh), .second, .val (.int ix), .val (.long rem), .second] [(.ref r0)])) rfl rfl (hb hby d3_14)
        refine own_st st2 ?_
        show own_Go p e below G (T2.setTop (mkF m 17 #[.val (.ref r0), .val (.ref od), .val (.int fr), .val (.long sh), .second, .val (.int ix), .val (.long rem), .second] [(.ref gz)]))
        refine own_st (fun t k => XS.aloadN X2.here hx rfl (hb hby d3_17) rfl rfl  k) ?_
        show own_Go p e below G (T2.setTop (mkF m 18 #[.val (.ref r0), .val (.ref od), .val (.int fr), .val (.long sh), .second, .val (.int ix), .val (.long rem), .second] [(.ref od), (.ref gz)]))
        refine own_st (fun t k => XS.iload X2.here hx rfl (hb hby d3_18) rfl  k) ?_
        show own_Go p e below G (T2.setTop (mkF m 20 #[.val (.ref r0), .val (.ref od), .val (.int fr), .val (.long sh), .second, .val (.int ix), .val (.long rem), .second] [(.int ix), (.ref od), (.ref gz)]))
        have Vc3 := V_od
        obtain ⟨cl3, Ar3, -, Sa3, -, Ha3, -⟩ := Vc3
        have hin3 : ¬ (ix < 0 ∨ cl3.slots.size ≤ (ix).toNatClampNeg) := inb_of Sa3 (own_bd4 htt)
        refine own_st (fun t k => X2.iaload hx (j := ix) (v := (.int (own_pk ix o0 o1 o2 o3))) (by rw [e2]; exact Ar3.1) (State.isArrayOf_alike hZ.alike Ar3.2.1) Ar3.2.2 hin3 (Ha3.at hin3 (own_at4 htt)) (g := (mkF m 20 #[.val (.ref r0), .val (.ref od), .val (.int fr), .val (.long sh), .second, .val (.int ix), .val (.long rem), .second] [(.int ix), (.ref od), (.ref gz)])) rfl rfl (hb hby d3_20) t k) ?_
        show own_Go p e below G (T2.setTop (mkF m 21 #[.val (.ref r0), .val (.ref od), .val (.int fr), .val (.long sh), .second, .val (.int ix), .val (.long rem), .second] [(.int (own_pk ix o0 o1 o2 o3)), (.ref gz)]))
        refine own_st (fun t k => XS.iconst X2.here hx rfl (hb hby d3_21) k) ?_
        show own_Go p e below G (T2.setTop (mkF m 22 #[.val (.ref r0), .val (.ref od), .val (.int fr), .val (.long sh), .second, .val (.int ix), .val (.long rem), .second] [(.int (1 : Int32)), (.int (own_pk ix o0 o1 o2 o3)), (.ref gz)]))
        obtain ⟨cl4, Ar4, qa4, Sa4, Na4, Ha4, Ga4⟩ := V_gz
        have hin4 : ¬ ((own_pk ix o0 o1 o2 o3) < 0 ∨ cl4.slots.size ≤ ((own_pk ix o0 o1 o2 o3)).toNatClampNeg) := inb_of Sa4 (own_bd4 (own_pkP hP))
        obtain ⟨T4, h4, X4, e4, W4, st4⟩ := stZ X2 hx hZ e2 Ar4 (j := (own_pk ix o0 o1 o2 o3)) hin4 (g := (mkF m 22 #[.val (.ref r0), .val (.ref od), .val (.int fr), .val (.long sh), .second, .val (.int ix), .val (.long rem), .second] [(.int (1 : Int32)), (.int (own_pk ix o0 o1 o2 o3)), (.ref gz)])) rfl rfl (hb hby d3_22)
        have V_gz : Arv Z h4 gz kg .boolean (4 : Int32) [(.int (own_sl (own_pk ix o0 o1 o2 o3) 0 (1 : Int32) (own_b o0 o1 o2 o3 fr ix 0))), (.int (own_sl (own_pk ix o0 o1 o2 o3) 1 (1 : Int32) (own_b o0 o1 o2 o3 fr ix 1))), (.int (own_sl (own_pk ix o0 o1 o2 o3) 2 (1 : Int32) (own_b o0 o1 o2 o3 fr ix 2))), (.int (own_sl (own_pk ix o0 o1 o2 o3) 3 (1 : Int32) (own_b o0 o1 o2 o3 fr ix 3)))] (.int (0 : Int32)) := by
          have q := Arv.set Ar4 qa4 Sa4 Na4 Ha4 Ga4 (fits_nar_bool _) W4 _ rfl (own_lt4 (own_pkP hP))
          rw [own_set4 (own_pkP hP), show nar .boolean (1 : Int32) = 1 from by decide] at q
          exact q
        replace F_po := F_po.other W4 (Or.inl ne_r0_gz)
        replace F_go := F_go.other W4 (Or.inl ne_r0_gz)
        replace V_pa := V_pa.other W4 ne_pa_gz
        replace V_od := V_od.other W4 ne_od_gz
        replace Z0 := Nat.le_trans Z0 (Keep.of_wr W4).1
        replace N0 := Fr.snoc X4 N0 g_gz
        replace K0 := K0.wr W4 (Or.inl (List.mem_of_getElem? (i := 0) rfl))
        refine own_st st4 ?_
        show own_Go p e below G (T4.setTop (mkF m 23 #[.val (.ref r0), .val (.ref od), .val (.int fr), .val (.long sh), .second, .val (.int ix), .val (.long rem), .second] []))
        refine own_st (fun t k => XS.lload X4.here hx rfl (hb hby d3_23) rfl  k) ?_
        show own_Go p e below G (T4.setTop (mkF m 25 #[.val (.ref r0), .val (.ref od), .val (.int fr), .val (.long sh), .second, .val (.int ix), .val (.long rem), .second] [(.long rem)]))
        refine own_st (fun t k => XS.aloadN X4.here hx rfl (hb hby d3_25) rfl rfl  k) ?_
        show own_Go p e below G (T4.setTop (mkF m 26 #[.val (.ref r0), .val (.ref od), .val (.int fr), .val (.long sh), .second, .val (.int ix), .val (.long rem), .second] [(.ref r0), (.long rem)]))
        obtain ⟨T5, X5, e5, st5⟩ := getF X4 hx hZ hown (host := "") (Or.inl (hw _ (List.mem_of_getElem? (i := 13) rfl))) Via.refl e4 F_po (g := (mkF m 26 #[.val (.ref r0), .val (.ref od), .val (.int fr), .val (.long sh), .second, .val (.int ix), .val (.long rem), .second] [(.ref r0), (.long rem)])) rfl rfl (hb hby d3_26)
        refine own_st st5 ?_
        show own_Go p e below G (T5.setTop (mkF m 29 #[.val (.ref r0), .val (.ref od), .val (.int fr), .val (.long sh), .second, .val (.int ix), .val (.long rem), .second] [(.ref pa), (.long rem)]))
        refine own_st (fun t k => XS.aloadN X5.here hx rfl (hb hby d3_29) rfl rfl  k) ?_
        show own_Go p e below G (T5.setTop (mkF m 30 #[.val (.ref r0), .val (.ref od), .val (.int fr), .val (.long sh), .second, .val (.int ix), .val (.long rem), .second] [(.ref od), (.ref pa), (.long rem)]))
        refine own_st (fun t k => XS.iload X5.here hx rfl (hb hby d3_30) rfl  k) ?_
        show own_Go p e below G (T5.setTop (mkF m 32 #[.val (.ref r0), .val (.ref od), .val (.int fr), .val (.long sh), .second, .val (.int ix), .val (.long rem), .second] [(.int ix), (.ref od), (.ref pa), (.long rem)]))
        have Vc6 := V_od
        obtain ⟨cl6, Ar6, -, Sa6, -, Ha6, -⟩ := Vc6
        have hin6 : ¬ (ix < 0 ∨ cl6.slots.size ≤ (ix).toNatClampNeg) := inb_of Sa6 (own_bd4 htt)
        refine own_st (fun t k => X5.iaload hx (j := ix) (v := (.int (own_pk ix o0 o1 o2 o3))) (by rw [e5]; exact Ar6.1) (State.isArrayOf_alike hZ.alike Ar6.2.1) Ar6.2.2 hin6 (Ha6.at hin6 (own_at4 htt)) (g := (mkF m 32 #[.val (.ref r0), .val (.ref od), .val (.int fr), .val (.long sh), .second, .val (.int ix), .val (.long rem), .second] [(.int ix), (.ref od), (.ref pa), (.long rem)])) rfl rfl (hb hby d3_32) t k) ?_
        show own_Go p e below G (T5.setTop (mkF m 33 #[.val (.ref r0), .val (.ref od), .val (.int fr), .val (.long sh), .second, .val (.int ix), .val (.long rem), .second] [(.int (own_pk ix o0 o1 o2 o3)), (.ref pa), (.long rem)]))
        have Vc7 := V_pa
        obtain ⟨cl7, Ar7, -, Sa7, -, Ha7, -⟩ := Vc7
        have hin7 : ¬ ((own_pk ix o0 o1 o2 o3) < 0 ∨ cl7.slots.size ≤ ((own_pk ix o0 o1 o2 o3)).toNatClampNeg) := inb_of Sa7 (own_bd4 (own_pkP hP))
        refine own_st (fun t k => X5.iaload hx (j := (own_pk ix o0 o1 o2 o3)) (v := (.int (own_pk (own_pk ix o0 o1 o2 o3) p0 p1 p2 p3))) (by rw [e5]; exact Ar7.1) (State.isArrayOf_alike hZ.alike Ar7.2.1) Ar7.2.2 hin7 (Ha7.at hin7 (own_at4 (own_pkP hP))) (g := (mkF m 33 #[.val (.ref r0), .val (.ref od), .val (.int fr), .val (.long sh), .second, .val (.int ix), .val (.long rem), .second] [(.int (own_pk ix o0 o1 o2 o3)), (.ref pa), (.long rem)])) rfl rfl (hb hby d3_33) t k) ?_
        show own_Go p e below G (T5.setTop (mkF m 34 #[.val (.ref r0), .val (.ref od), .val (.int fr), .val (.long sh), .second, .val (.int ix), .val (.long rem), .second] [(.int (own_pk (own_pk ix o0 o1 o2 o3) p0 p1 p2 p3)), (.long rem)]))
        refine own_st (fun t k => XS.i2l X5.here hx rfl (hb hby d3_34) rfl k) ?_
        show own_Go p e below G (T5.setTop (mkF m 35 #[.val (.ref r0), .val (.ref od), .val (.int fr), .val (.long sh), .second, .val (.int ix), .val (.long rem), .second] [(.long ((own_pk (own_pk ix o0 o1 o2 o3) p0 p1 p2 p3).toInt64)), (.long rem)]))
        refine own_st (fun t k => XS.ladd X5.here hx rfl (hb hby d3_35) rfl k) ?_
        show own_Go p e below G (T5.setTop (mkF m 36 #[.val (.ref r0), .val (.ref od), .val (.int fr), .val (.long sh), .second, .val (.int ix), .val (.long rem), .second] [(.long (rem + ((own_pk (own_pk ix o0 o1 o2 o3) p0 p1 p2 p3).toInt64)))]))
        refine own_st (fun t k => XS.lstore X5.here hx rfl (hb hby d3_36) rfl (l' := #[.val (.ref r0), .val (.ref od), .val (.int fr), .val (.long sh), .second, .val (.int ix), .val (.long (rem + ((own_pk (own_pk ix o0 o1 o2 o3) p0 p1 p2 p3).toInt64))), .second]) rfl k) ?_
        show own_Go p e below G (T5.setTop (mkF m 38 #[.val (.ref r0), .val (.ref od), .val (.int fr), .val (.long sh), .second, .val (.int ix), .val (.long (rem + ((own_pk (own_pk ix o0 o1 o2 o3) p0 p1 p2 p3).toInt64))), .second] []))
        refine own_st (fun t k => XS.iinc X5.here hx rfl (hb hby d3_38) rfl (l' := #[.val (.ref r0), .val (.ref od), .val (.int fr), .val (.long sh), .second, .val (.int (ix + (1 : Int32))), .val (.long (rem + ((own_pk (own_pk ix o0 o1 o2 o3) p0 p1 p2 p3).toInt64))), .second]) rfl k) ?_
        show own_Go p e below G (T5.setTop (mkF m 41 #[.val (.ref r0), .val (.ref od), .val (.int fr), .val (.long sh), .second, .val (.int (ix + (1 : Int32))), .val (.long (rem + ((own_pk (own_pk ix o0 o1 o2 o3) p0 p1 p2 p3).toInt64))), .second] []))
        refine own_st (fun t k => XS.goto X5.here hx rfl (pc0 := 41) (pc' := 6) rfl (hb hby d3_41) (by decide) (by decide) k) ?_
        show own_Go p e below G (T5.setTop (mkF m 6 #[.val (.ref r0), .val (.ref od), .val (.int fr), .val (.long sh), .second, .val (.int (ix + (1 : Int32))), .val (.long (rem + ((own_pk (own_pk ix o0 o1 o2 o3) p0 p1 p2 p3).toInt64))), .second] []))
        have hn := @own_Tn o0 o1 o2 o3 p0 p1 p2 p3 ix htt
        have hb1 := own_Tb (own_pk0 (t := o0) hp) (own_pk0 (t := o1) hp) (own_pk0 (t := o2) hp) (own_pk0 (t := o3) hp) ix.toInt
        have hb2 := own_Tb (own_pk0 (t := o0) hp) (own_pk0 (t := o1) hp) (own_pk0 (t := o2) hp) (own_pk0 (t := o3) hp) fr.toInt
        have hq := own_pk0 (t := own_pk ix o0 o1 o2 o3) hp
        have hi := own_inc htt.1 htt.2
        rw [Int64.lt_iff_toInt_lt] at c10_1
        have hadd := own_addL (r := rem) (q := own_pk (own_pk ix o0 o1 o2 o3) p0 p1 p2 p3) (by omega) (by omega) hq
        have V_gz' : Arv Z h4 gz kg .boolean (4 : Int32) [(.int (own_b o0 o1 o2 o3 fr (ix + 1) 0)), (.int (own_b o0 o1 o2 o3 fr (ix + 1) 1)), (.int (own_b o0 o1 o2 o3 fr (ix + 1) 2)), (.int (own_b o0 o1 o2 o3 fr (ix + 1) 3))] (.int (0 : Int32)) := by rw [← show own_sl (own_pk ix o0 o1 o2 o3) 0 1 (own_b o0 o1 o2 o3 fr ix 0) = own_b o0 o1 o2 o3 fr (ix + 1) 0 from own_step hP hf0 ht0 hlt 0, ← show own_sl (own_pk ix o0 o1 o2 o3) 1 1 (own_b o0 o1 o2 o3 fr ix 1) = own_b o0 o1 o2 o3 fr (ix + 1) 1 from own_step hP hf0 ht0 hlt 1, ← show own_sl (own_pk ix o0 o1 o2 o3) 2 1 (own_b o0 o1 o2 o3 fr ix 2) = own_b o0 o1 o2 o3 fr (ix + 1) 2 from own_step hP hf0 ht0 hlt 2, ← show own_sl (own_pk ix o0 o1 o2 o3) 3 1 (own_b o0 o1 o2 o3 fr ix 3) = own_b o0 o1 o2 o3 fr (ix + 1) 3 from own_step hP hf0 ht0 hlt 3]; exact V_gz
        exact ih (ix + 1) _ _ _ _ X5 e5 N0 Z0 K0 F_po F_go V_pa V_od V_gz' (by omega) (by omega) (by omega) (by rw [hadd]; omega) (by rw [hadd, hi, hn]; omega) (fun _ => by rw [hi, show ix.toInt + 1 - 1 = ix.toInt by omega]; omega)
      · skip
        refine own_st (fun t k => XS.ifYes Xj.here hx rfl (pc0 := 10) (pc' := 44) rfl (hb hby d3_10) rfl ((if0 _ _).trans (flt (fun q => c10_1 ((lw_lt _ _).1 q))).2.1) (by decide) (by decide) k) ?_
        show own_Go p e below G (Tj.setTop (mkF m 44 #[.val (.ref r0), .val (.ref od), .val (.int fr), .val (.long sh), .second, .val (.int ix), .val (.long rem), .second] []))
        refine own_st (fun t k => XS.iload Xj.here hx rfl (hb hby d3_44) rfl  k) ?_
        show own_Go p e below G (Tj.setTop (mkF m 46 #[.val (.ref r0), .val (.ref od), .val (.int fr), .val (.long sh), .second, .val (.int ix), .val (.long rem), .second] [(.int ix)]))
        rw [hG]
        rw [Int64.lt_iff_toInt_lt, hrem] at c10_1
        exact own_retI Xj hx hlk hret (hb hby d3_46) (by rw [ej]; exact ⟨ix, rfl, N0, K0, V_gz, ht0, ht4, by omega, hlast⟩) (by decide) (by decide)
  have V_gz' : Arv Z h0 gz kg .boolean (4 : Int32) [(.int (own_b o0 o1 o2 o3 fr fr 0)), (.int (own_b o0 o1 o2 o3 fr fr 1)), (.int (own_b o0 o1 o2 o3 fr fr 2)), (.int (own_b o0 o1 o2 o3 fr fr 3))] (.int (0 : Int32)) := by rw [own_b0 o0 o1 o2 o3 fr 0, own_b0 o0 o1 o2 o3 fr 1, own_b0 o0 o1 o2 o3 fr 2, own_b0 o0 o1 o2 o3 fr 3]; exact V_gz
  exact loop 4 fr 0 s₁ h0 [] X0 e0 N0 Z0 K0 F_po F_go V_pa V_od V_gz' (Int.le_refl _) hf4 (by omega) (by decide) (by show (0 : Int) = _; omega) (fun q => absurd q (Int.lt_irrefl _))
theorem d4_0 : decode prog_74_method_1_code 0 = .ok (.aload_n 0, 1) := by decide +kernel
theorem d4_1 : decode prog_74_method_1_code 1 = .ok (.invokespecial 1, 3) := by decide +kernel
theorem d4_4 : decode prog_74_method_1_code 4 = .ok (.aload_n 0, 1) := by decide +kernel
theorem d4_5 : decode prog_74_method_1_code 5 = .ok (.aload_n 1, 1) := by decide +kernel
theorem d4_6 : decode prog_74_method_1_code 6 = .ok (.putfield 7, 3) := by decide +kernel
theorem d4_9 : decode prog_74_method_1_code 9 = .ok (.aload_n 0, 1) := by decide +kernel
theorem d4_10 : decode prog_74_method_1_code 10 = .ok (.aload_n 2, 1) := by decide +kernel
theorem d4_11 : decode prog_74_method_1_code 11 = .ok (.putfield 13, 3) := by decide +kernel
theorem d4_14 : decode prog_74_method_1_code 14 = .ok (.return_, 1) := by decide +kernel
theorem pn_rm4 : plainFor (⟨"com/example/thinleaf/thinleaf/core/index/Postings", "<init>", "([I[I)V"⟩ : MethodName) = true := by decide +kernel
theorem ef_rm4 (m : MethodId) (x0 : Addr) (x1 : Addr) (x2 : Addr) : entryFrame m #[(.ref x0), (.ref x1), (.ref x2)] 3 = mkF m 0 #[.val (.ref x0), .val (.ref x1), .val (.ref x2)] [] := by first | (simp [entryFrame, mkF, argsToLocals, Value.category]; done) | rfl
set_option maxRecDepth 65536 in
set_option maxHeartbeats 40000000 in
theorem rm4 (l : Launch) (Z : State) (a0 : Array Value) (hw : ∀ d ∈ tables_1, d.before a0 Z = true) (r0 da fa : Addr) (h0 : Heap) (n0 : Nat) (Z0 : n0 ≤ h0.size) (g_r0 : n0 ≤ r0) (E_r0 : Exa Z h0 r0 "com/example/thinleaf/thinleaf/core/index/Postings") (F_documents_r0 : Fld Z h0 r0 "com/example/thinleaf/thinleaf/core/index/Postings" "documents" "[I" .null) (F_frequencies_r0 : Fld Z h0 r0 "com/example/thinleaf/thinleaf/core/index/Postings" "frequencies" "[I" .null) :
    own_Met l Z (⟨"com/example/thinleaf/thinleaf/core/index/Postings", "<init>", "([I[I)V"⟩ : MethodName) prog_74_method_1_code 3 none [] ({ frames := 2, cells := 0, slots := 0, locals := 24 } : Room) #[(.ref r0), (.ref da), (.ref fa)] h0 (fun v h L => v = none ∧ Fr n0 L ∧ Keep h0 h [r0] ∧ Exa Z h r0 "com/example/thinleaf/thinleaf/core/index/Postings" ∧ Fld Z h r0 "com/example/thinleaf/thinleaf/core/index/Postings" "documents" "[I" (.ref da) ∧ Fld Z h r0 "com/example/thinleaf/thinleaf/core/index/Postings" "frequencies" "[I" (.ref fa)) := by
  refine own_body pn_rm4 ?_
  intro p e s m below meth c s₁ hx hby hml hown hnm hret hlk hZ X0 e0 G hG
  replace hml : c.maxLocals = 3 := hml
  replace hown : s.vm.findClass "com/example/thinleaf/thinleaf/core/index/Postings" = some m.cls := hown
  rw [ef_rm4]
  have N0 := Fr.nil n0
  have K0 := Keep.refl h0 [r0]
  show own_Go p e below G (s₁.setTop (mkF m 0 #[.val (.ref r0), .val (.ref da), .val (.ref fa)] []))
  refine own_st (fun t k => XS.aloadN X0.here hx rfl (hb hby d4_0) rfl rfl  k) ?_
  show own_Go p e below G (s₁.setTop (mkF m 1 #[.val (.ref r0), .val (.ref da), .val (.ref fa)] [(.ref r0)]))
  obtain ⟨v1, T1, L1, X1, Q1, st1⟩ := own_callC X0 hx hZ (y := (⟨"java/lang/Record", "<init>", "()V"⟩ : MethodName)) rfl hown (hw _ (List.mem_of_getElem? (i := 45) rfl)) (hw _ (List.mem_of_getElem? (i := 46) rfl)) (hw _ (List.mem_of_getElem? (i := 48) rfl)) (hw _ (List.mem_of_getElem? (i := 49) rfl)) (by decide) (W := 0) (rm1 l Z a0 hw r0 h0) (by decide) (by decide) e0 (g := (mkF m 1 #[.val (.ref r0), .val (.ref da), .val (.ref fa)] [(.ref r0)])) rfl (by rw [hml]; rfl) (a := r0) (argsL := []) (rest := []) own_pd0 rfl rfl (by show 2 * 0 + _ ≤ _; exact Nat.le_of_eq rfl) (hb hby d4_1) rfl (by decide) (by decide)
  obtain ⟨rfl, rfl, e1⟩ := Q1
  simp only [List.append_nil, Nat.add_zero] at X1
  refine own_st st1 ?_
  show own_Go p e below G (T1.setTop (mkF m 4 #[.val (.ref r0), .val (.ref da), .val (.ref fa)] []))
  refine own_st (fun t k => XS.aloadN X1.here hx rfl (hb hby d4_4) rfl rfl  k) ?_
  show own_Go p e below G (T1.setTop (mkF m 5 #[.val (.ref r0), .val (.ref da), .val (.ref fa)] [(.ref r0)]))
  refine own_st (fun t k => XS.aloadN X1.here hx rfl (hb hby d4_5) rfl rfl  k) ?_
  show own_Go p e below G (T1.setTop (mkF m 6 #[.val (.ref r0), .val (.ref da), .val (.ref fa)] [(.ref da), (.ref r0)]))
  obtain ⟨T2, h2, X2, e2, W2, st2⟩ := putF X1 hx hZ hown (host := "") (Or.inl (hw _ (List.mem_of_getElem? (i := 51) rfl))) Via.refl e1 F_documents_r0 E_r0 (Or.inr ⟨(hw _ (List.mem_of_getElem? (i := 52) rfl)), rfl, hnm⟩) (hw _ (List.mem_of_getElem? (i := 40) rfl)) (ty := (.array .int)) (by decide) rfl rfl (g := (mkF m 6 #[.val (.ref r0), .val (.ref da), .val (.ref fa)] [(.ref da), (.ref r0)])) rfl rfl (hb hby d4_6)
  replace E_r0 := E_r0.wr W2
  replace F_documents_r0 := F_documents_r0.same W2
  replace F_frequencies_r0 := F_frequencies_r0.other W2 (Or.inr (slot_ne (Or.inr (hw _ (List.mem_of_getElem? (i := 54) rfl))) (Or.inr (hw _ (List.mem_of_getElem? (i := 52) rfl))) (by decide) (t := (.array .int)) (t' := (.array .int)) (by decide) (by decide)))
  replace Z0 := Nat.le_trans Z0 (Keep.of_wr W2).1
  replace N0 := Fr.snoc X2 N0 g_r0
  replace K0 := K0.wr W2 (Or.inl (List.mem_of_getElem? (i := 0) rfl))
  refine own_st st2 ?_
  show own_Go p e below G (T2.setTop (mkF m 9 #[.val (.ref r0), .val (.ref da), .val (.ref fa)] []))
  refine own_st (fun t k => XS.aloadN X2.here hx rfl (hb hby d4_9) rfl rfl  k) ?_
  show own_Go p e below G (T2.setTop (mkF m 10 #[.val (.ref r0), .val (.ref da), .val (.ref fa)] [(.ref r0)]))
  refine own_st (fun t k => XS.aloadN X2.here hx rfl (hb hby d4_10) rfl rfl  k) ?_
  show own_Go p e below G (T2.setTop (mkF m 11 #[.val (.ref r0), .val (.ref da), .val (.ref fa)] [(.ref fa), (.ref r0)]))
  obtain ⟨T3, h3, X3, e3, W3, st3⟩ := putF X2 hx hZ hown (host := "") (Or.inl (hw _ (List.mem_of_getElem? (i := 53) rfl))) Via.refl e2 F_frequencies_r0 E_r0 (Or.inr ⟨(hw _ (List.mem_of_getElem? (i := 54) rfl)), rfl, hnm⟩) (hw _ (List.mem_of_getElem? (i := 40) rfl)) (ty := (.array .int)) (by decide) rfl rfl (g := (mkF m 11 #[.val (.ref r0), .val (.ref da), .val (.ref fa)] [(.ref fa), (.ref r0)])) rfl rfl (hb hby d4_11)
  replace E_r0 := E_r0.wr W3
  replace F_documents_r0 := F_documents_r0.other W3 (Or.inr (slot_ne (Or.inr (hw _ (List.mem_of_getElem? (i := 52) rfl))) (Or.inr (hw _ (List.mem_of_getElem? (i := 54) rfl))) (by decide) (t := (.array .int)) (t' := (.array .int)) (by decide) (by decide)))
  replace F_frequencies_r0 := F_frequencies_r0.same W3
  replace Z0 := Nat.le_trans Z0 (Keep.of_wr W3).1
  replace N0 := Fr.snoc X3 N0 g_r0
  replace K0 := K0.wr W3 (Or.inl (List.mem_of_getElem? (i := 0) rfl))
  refine own_st st3 ?_
  show own_Go p e below G (T3.setTop (mkF m 14 #[.val (.ref r0), .val (.ref da), .val (.ref fa)] []))
  rw [hG]
  exact own_retV X3 hx hlk hret (hb hby d4_14) (by rw [e3]; exact ⟨rfl, N0, K0, E_r0, F_documents_r0, F_frequencies_r0⟩) (by decide) (by decide)
theorem d5_0 : decode prog_74_method_7_code 0 = .ok (.aload_n 0, 1) := by decide +kernel
theorem d5_1 : decode prog_74_method_7_code 1 = .ok (.getfield 7, 3) := by decide +kernel
theorem d5_4 : decode prog_74_method_7_code 4 = .ok (.areturn, 1) := by decide +kernel
theorem pn_rm5 : plainFor (⟨"com/example/thinleaf/thinleaf/core/index/Postings", "documents", "()[I"⟩ : MethodName) = true := by decide +kernel
theorem ef_rm5 (m : MethodId) (x0 : Addr) : entryFrame m #[(.ref x0)] 1 = mkF m 0 #[.val (.ref x0)] [] := by first | (simp [entryFrame, mkF, argsToLocals, Value.category]; done) | rfl
set_option maxRecDepth 65536 in
set_option maxHeartbeats 40000000 in
theorem rm5 (l : Launch) (Z : State) (a0 : Array Value) (hw : ∀ d ∈ tables_1, d.before a0 Z = true) (r0 da : Addr) (h0 : Heap) (Fd : Fld Z h0 r0 "com/example/thinleaf/thinleaf/core/index/Postings" "documents" "[I" (.ref da)) :
    own_Met l Z (⟨"com/example/thinleaf/thinleaf/core/index/Postings", "documents", "()[I"⟩ : MethodName) prog_74_method_7_code 1 (some (.array .int)) [] ({ frames := 0, cells := 0, slots := 0, locals := 0 } : Room) #[(.ref r0)] h0 (fun v h L => v = some (.ref da) ∧ L = [] ∧ h = h0) := by
  refine own_body pn_rm5 ?_
  intro p e s m below meth c s₁ hx hby hml hown hnm hret hlk hZ X0 e0 G hG
  replace hml : c.maxLocals = 1 := hml
  replace hown : s.vm.findClass "com/example/thinleaf/thinleaf/core/index/Postings" = some m.cls := hown
  rw [ef_rm5]
  show own_Go p e below G (s₁.setTop (mkF m 0 #[.val (.ref r0)] []))
  refine own_st (fun t k => XS.aloadN X0.here hx rfl (hb hby d5_0) rfl rfl  k) ?_
  show own_Go p e below G (s₁.setTop (mkF m 1 #[.val (.ref r0)] [(.ref r0)]))
  obtain ⟨T1, X1, e1, st1⟩ := getF X0 hx hZ hown (host := "") (Or.inl (hw _ (List.mem_of_getElem? (i := 51) rfl))) Via.refl e0 Fd (g := (mkF m 1 #[.val (.ref r0)] [(.ref r0)])) rfl rfl (hb hby d5_1)
  refine own_st st1 ?_
  show own_Go p e below G (T1.setTop (mkF m 4 #[.val (.ref r0)] [(.ref da)]))
  rw [hG]
  exact own_retA X1 hx hlk hret rfl rfl (hb hby d5_4) ⟨rfl, rfl, e1⟩ (by decide) (by decide)
theorem d6_0 : decode prog_74_method_2_code 0 = .ok (.aload_n 0, 1) := by decide +kernel
theorem d6_1 : decode prog_74_method_2_code 1 = .ok (.getfield 7, 3) := by decide +kernel
theorem d6_4 : decode prog_74_method_2_code 4 = .ok (.arraylength, 1) := by decide +kernel
theorem d6_5 : decode prog_74_method_2_code 5 = .ok (.ireturn, 1) := by decide +kernel
theorem pn_rm6 : plainFor (⟨"com/example/thinleaf/thinleaf/core/index/Postings", "size", "()I"⟩ : MethodName) = true := by decide +kernel
theorem ef_rm6 (m : MethodId) (x0 : Addr) : entryFrame m #[(.ref x0)] 1 = mkF m 0 #[.val (.ref x0)] [] := by first | (simp [entryFrame, mkF, argsToLocals, Value.category]; done) | rfl
set_option maxRecDepth 65536 in
set_option maxHeartbeats 40000000 in
theorem rm6 (l : Launch) (Z : State) (a0 : Array Value) (hw : ∀ d ∈ tables_1, d.before a0 Z = true) (r0 da : Addr) (kd : ClassId) (vs : List Value) (dv : Value) (h0 : Heap) (Fd : Fld Z h0 r0 "com/example/thinleaf/thinleaf/core/index/Postings" "documents" "[I" (.ref da)) (V_da : Arv Z h0 da kd .int (4 : Int32) vs dv) :
    own_Met l Z (⟨"com/example/thinleaf/thinleaf/core/index/Postings", "size", "()I"⟩ : MethodName) prog_74_method_2_code 1 (some .int) [] ({ frames := 0, cells := 0, slots := 0, locals := 0 } : Room) #[(.ref r0)] h0 (fun v h L => v = some (.int (4 : Int32)) ∧ L = [] ∧ h = h0) := by
  refine own_body pn_rm6 ?_
  intro p e s m below meth c s₁ hx hby hml hown hnm hret hlk hZ X0 e0 G hG
  replace hml : c.maxLocals = 1 := hml
  replace hown : s.vm.findClass "com/example/thinleaf/thinleaf/core/index/Postings" = some m.cls := hown
  rw [ef_rm6]
  show own_Go p e below G (s₁.setTop (mkF m 0 #[.val (.ref r0)] []))
  refine own_st (fun t k => XS.aloadN X0.here hx rfl (hb hby d6_0) rfl rfl  k) ?_
  show own_Go p e below G (s₁.setTop (mkF m 1 #[.val (.ref r0)] [(.ref r0)]))
  obtain ⟨T1, X1, e1, st1⟩ := getF X0 hx hZ hown (host := "") (Or.inl (hw _ (List.mem_of_getElem? (i := 51) rfl))) Via.refl e0 Fd (g := (mkF m 1 #[.val (.ref r0)] [(.ref r0)])) rfl rfl (hb hby d6_1)
  refine own_st st1 ?_
  show own_Go p e below G (T1.setTop (mkF m 4 #[.val (.ref r0)] [(.ref da)]))
  have Vc2 := V_da
  obtain ⟨cl2, Ar2, -, Sa2, Na2, -, -⟩ := Vc2
  refine own_st (fun t k => X1.arraylength hx (by rw [e1]; exact Ar2.1) (State.isArrayOf_alike hZ.alike Ar2.2.1) (g := (mkF m 4 #[.val (.ref r0)] [(.ref da)])) rfl rfl (hb hby d6_4) t k) ?_
  rw [len_of Sa2 Na2]
  show own_Go p e below G (T1.setTop (mkF m 5 #[.val (.ref r0)] [(.int (4 : Int32))]))
  rw [hG]
  exact own_retI X1 hx hlk hret (hb hby d6_5) ⟨rfl, rfl, e1⟩ (by decide) (by decide)
theorem d7_0 : decode prog_195_method_1_code 0 = .ok (.aload_n 0, 1) := by decide +kernel
theorem d7_1 : decode prog_195_method_1_code 1 = .ok (.aload_n 1, 1) := by decide +kernel
theorem d7_2 : decode prog_195_method_1_code 2 = .ok (.putfield 1, 3) := by decide +kernel
theorem d7_5 : decode prog_195_method_1_code 5 = .ok (.aload_n 0, 1) := by decide +kernel
theorem d7_6 : decode prog_195_method_1_code 6 = .ok (.aload_n 2, 1) := by decide +kernel
theorem d7_7 : decode prog_195_method_1_code 7 = .ok (.putfield 7, 3) := by decide +kernel
theorem d7_10 : decode prog_195_method_1_code 10 = .ok (.aload_n 0, 1) := by decide +kernel
theorem d7_11 : decode prog_195_method_1_code 11 = .ok (.invokespecial 11, 3) := by decide +kernel
theorem d7_14 : decode prog_195_method_1_code 14 = .ok (.return_, 1) := by decide +kernel
theorem pn_rm7 : plainFor (⟨"com/example/thinleaf/thinleaf/prune/DocumentCut$1", "<init>", "(Lcom/example/thinleaf/thinleaf/prune/DocumentCut;Ljava/util/Map;)V"⟩ : MethodName) = true := by decide +kernel
theorem ef_rm7 (m : MethodId) (x0 : Addr) (x1 : Addr) : entryFrame m #[(.ref x0), (.ref x1), .null] 3 = mkF m 0 #[.val (.ref x0), .val (.ref x1), .val .null] [] := by first | (simp [entryFrame, mkF, argsToLocals, Value.category]; done) | rfl
set_option maxRecDepth 65536 in
set_option maxHeartbeats 40000000 in
theorem rm7 (l : Launch) (Z : State) (a0 : Array Value) (hw : ∀ d ∈ tables_1, d.before a0 Z = true) (r0 cut : Addr) (h0 : Heap) (n0 : Nat) (Z0 : n0 ≤ h0.size) (g_r0 : n0 ≤ r0) (E_r0 : Exa Z h0 r0 "com/example/thinleaf/thinleaf/prune/DocumentCut$1") (F_th : Fld Z h0 r0 "com/example/thinleaf/thinleaf/prune/DocumentCut$1" "this$0" "Lcom/example/thinleaf/thinleaf/prune/DocumentCut;" .null) (F_vf : Fld Z h0 r0 "com/example/thinleaf/thinleaf/prune/DocumentCut$1" "val$figures" "Ljava/util/Map;" .null) :
    own_Met l Z (⟨"com/example/thinleaf/thinleaf/prune/DocumentCut$1", "<init>", "(Lcom/example/thinleaf/thinleaf/prune/DocumentCut;Ljava/util/Map;)V"⟩ : MethodName) prog_195_method_1_code 3 none [] ({ frames := 1, cells := 0, slots := 0, locals := 12 } : Room) #[(.ref r0), (.ref cut), .null] h0 (fun v h L => v = none ∧ Fr n0 L ∧ Keep h0 h [r0] ∧ Exa Z h r0 "com/example/thinleaf/thinleaf/prune/DocumentCut$1" ∧ Fld Z h r0 "com/example/thinleaf/thinleaf/prune/DocumentCut$1" "this$0" "Lcom/example/thinleaf/thinleaf/prune/DocumentCut;" (.ref cut)) := by
  refine own_body pn_rm7 ?_
  intro p e s m below meth c s₁ hx hby hml hown hnm hret hlk hZ X0 e0 G hG
  replace hml : c.maxLocals = 3 := hml
  replace hown : s.vm.findClass "com/example/thinleaf/thinleaf/prune/DocumentCut$1" = some m.cls := hown
  rw [ef_rm7]
  have N0 := Fr.nil n0
  have K0 := Keep.refl h0 [r0]
  show own_Go p e below G (s₁.setTop (mkF m 0 #[.val (.ref r0), .val (.ref cut), .val .null] []))
  refine own_st (fun t k => XS.aloadN X0.here hx rfl (hb hby d7_0) rfl rfl  k) ?_
  show own_Go p e below G (s₁.setTop (mkF m 1 #[.val (.ref r0), .val (.ref cut), .val .null] [(.ref r0)]))
  refine own_st (fun t k => XS.aloadN X0.here hx rfl (hb hby d7_1) rfl rfl  k) ?_
  show own_Go p e below G (s₁.setTop (mkF m 2 #[.val (.ref r0), .val (.ref cut), .val .null] [(.ref cut), (.ref r0)]))
  obtain ⟨T1, h1, X1, e1, W1, st1⟩ := putF X0 hx hZ hown (host := "") (Or.inl (hw _ (List.mem_of_getElem? (i := 34) rfl))) Via.refl e0 F_th E_r0 (Or.inr ⟨(hw _ (List.mem_of_getElem? (i := 35) rfl)), rfl, hnm⟩) (hw _ (List.mem_of_getElem? (i := 29) rfl)) (ty := (.object "com/example/thinleaf/thinleaf/prune/DocumentCut")) (by decide) rfl rfl (g := (mkF m 2 #[.val (.ref r0), .val (.ref cut), .val .null] [(.ref cut), (.ref r0)])) rfl rfl (hb hby d7_2)
  replace E_r0 := E_r0.wr W1
  replace F_th := F_th.same W1
  replace F_vf := F_vf.other W1 (Or.inr (slot_ne (Or.inr (hw _ (List.mem_of_getElem? (i := 37) rfl))) (Or.inr (hw _ (List.mem_of_getElem? (i := 35) rfl))) (by decide) (t := (.object "java/util/Map")) (t' := (.object "com/example/thinleaf/thinleaf/prune/DocumentCut")) (by decide) (by decide)))
  replace Z0 := Nat.le_trans Z0 (Keep.of_wr W1).1
  replace N0 := Fr.snoc X1 N0 g_r0
  replace K0 := K0.wr W1 (Or.inl (List.mem_of_getElem? (i := 0) rfl))
  refine own_st st1 ?_
  show own_Go p e below G (T1.setTop (mkF m 5 #[.val (.ref r0), .val (.ref cut), .val .null] []))
  refine own_st (fun t k => XS.aloadN X1.here hx rfl (hb hby d7_5) rfl rfl  k) ?_
  show own_Go p e below G (T1.setTop (mkF m 6 #[.val (.ref r0), .val (.ref cut), .val .null] [(.ref r0)]))
  refine own_st (fun t k => XS.aloadN X1.here hx rfl (hb hby d7_6) rfl rfl  k) ?_
  show own_Go p e below G (T1.setTop (mkF m 7 #[.val (.ref r0), .val (.ref cut), .val .null] [.null, (.ref r0)]))
  obtain ⟨T2, h2, X2, e2, W2, st2⟩ := putF X1 hx hZ hown (host := "") (Or.inl (hw _ (List.mem_of_getElem? (i := 36) rfl))) Via.refl e1 F_vf E_r0 (Or.inr ⟨(hw _ (List.mem_of_getElem? (i := 37) rfl)), rfl, hnm⟩) (hw _ (List.mem_of_getElem? (i := 29) rfl)) (ty := (.object "java/util/Map")) (by decide) rfl rfl (g := (mkF m 7 #[.val (.ref r0), .val (.ref cut), .val .null] [.null, (.ref r0)])) rfl rfl (hb hby d7_7)
  replace E_r0 := E_r0.wr W2
  replace F_th := F_th.other W2 (Or.inr (slot_ne (Or.inr (hw _ (List.mem_of_getElem? (i := 35) rfl))) (Or.inr (hw _ (List.mem_of_getElem? (i := 37) rfl))) (by decide) (t := (.object "com/example/thinleaf/thinleaf/prune/DocumentCut")) (t' := (.object "java/util/Map")) (by decide) (by decide)))
  replace F_vf := F_vf.same W2
  replace Z0 := Nat.le_trans Z0 (Keep.of_wr W2).1
  replace N0 := Fr.snoc X2 N0 g_r0
  replace K0 := K0.wr W2 (Or.inl (List.mem_of_getElem? (i := 0) rfl))
  refine own_st st2 ?_
  show own_Go p e below G (T2.setTop (mkF m 10 #[.val (.ref r0), .val (.ref cut), .val .null] []))
  refine own_st (fun t k => XS.aloadN X2.here hx rfl (hb hby d7_10) rfl rfl  k) ?_
  show own_Go p e below G (T2.setTop (mkF m 11 #[.val (.ref r0), .val (.ref cut), .val .null] [(.ref r0)]))
  obtain ⟨T3, X3, e3, st3⟩ := initO X2 hx hZ hown (hw _ (List.mem_of_getElem? (i := 38) rfl)) (hw _ (List.mem_of_getElem? (i := 11) rfl)) (hw _ (List.mem_of_getElem? (i := 12) rfl)) e2 (g := (mkF m 11 #[.val (.ref r0), .val (.ref cut), .val .null] [(.ref r0)])) rfl (by rw [hml]; rfl) rfl (hb hby d7_11) (by decide) (W := 0) (by show 2 * 0 + _ ≤ _; exact Nat.le_of_eq rfl) (by decide)
  refine own_st st3 ?_
  show own_Go p e below G (T3.setTop (mkF m 14 #[.val (.ref r0), .val (.ref cut), .val .null] []))
  rw [hG]
  exact own_retV X3 hx hlk hret (hb hby d7_14) (by rw [e3]; exact ⟨rfl, N0, K0, E_r0, F_th⟩) (by decide) (by decide)
theorem d8_0 : decode prog_194_method_4_code 0 = .ok (.new 33, 3) := by decide +kernel
theorem d8_3 : decode prog_194_method_4_code 3 = .ok (.dup, 1) := by decide +kernel
theorem d8_4 : decode prog_194_method_4_code 4 = .ok (.aload_n 0, 1) := by decide +kernel
theorem d8_5 : decode prog_194_method_4_code 5 = .ok (.aload_n 1, 1) := by decide +kernel
theorem d8_6 : decode prog_194_method_4_code 6 = .ok (.invokespecial 35, 3) := by decide +kernel
theorem d8_9 : decode prog_194_method_4_code 9 = .ok (.areturn, 1) := by decide +kernel
theorem pn_rm8 : plainFor (⟨"com/example/thinleaf/thinleaf/prune/DocumentCut", "keeping", "(Ljava/util/Map;)Lcom/example/thinleaf/thinleaf/prune/Selection;"⟩ : MethodName) = true := by decide +kernel
theorem ef_rm8 (m : MethodId) (x0 : Addr) : entryFrame m #[(.ref x0), .null] 2 = mkF m 0 #[.val (.ref x0), .val .null] [] := by first | (simp [entryFrame, mkF, argsToLocals, Value.category]; done) | rfl
set_option maxRecDepth 65536 in
set_option maxHeartbeats 40000000 in
theorem rm8 (l : Launch) (Z : State) (a0 : Array Value) (hw : ∀ d ∈ tables_1, d.before a0 Z = true) (cut : Addr) (h0 : Heap) (n0 : Nat) (Z0 : n0 ≤ h0.size) :
    own_Met l Z (⟨"com/example/thinleaf/thinleaf/prune/DocumentCut", "keeping", "(Ljava/util/Map;)Lcom/example/thinleaf/thinleaf/prune/Selection;"⟩ : MethodName) prog_194_method_4_code 2 (some (.object "com/example/thinleaf/thinleaf/prune/Selection")) [] ({ frames := 2, cells := 1, slots := 2, locals := 27 } : Room) #[(.ref cut), .null] h0 (fun v h L => ∃ b : Addr, v = some (.ref b) ∧ Fr n0 L ∧ Keep h0 h [] ∧ h0.size ≤ b ∧ Exa Z h b "com/example/thinleaf/thinleaf/prune/DocumentCut$1" ∧ Fld Z h b "com/example/thinleaf/thinleaf/prune/DocumentCut$1" "this$0" "Lcom/example/thinleaf/thinleaf/prune/DocumentCut;" (.ref cut)) := by
  refine own_body pn_rm8 ?_
  intro p e s m below meth c s₁ hx hby hml hown hnm hret hlk hZ X0 e0 G hG
  replace hml : c.maxLocals = 2 := hml
  replace hown : s.vm.findClass "com/example/thinleaf/thinleaf/prune/DocumentCut" = some m.cls := hown
  rw [ef_rm8]
  have N0 := Fr.nil n0
  show own_Go p e below G (s₁.setTop (mkF m 0 #[.val (.ref cut), .val .null] []))
  obtain ⟨T1, h1, X1, e1, E1, A1, D1, -, st1⟩ := newO X0 hx hZ hown (hw _ (List.mem_of_getElem? (i := 28) rfl)) (hw _ (List.mem_of_getElem? (i := 29) rfl)) (hw _ (List.mem_of_getElem? (i := 30) rfl)) e0 (g := (mkF m 0 #[.val (.ref cut), .val .null] [])) rfl (hb hby d8_0) (by decide) (by decide)
  obtain ⟨b1, gb1⟩ : ∃ z, z = h0.size := ⟨_, rfl⟩
  rw [← gb1] at A1 D1 st1
  have g_b1 : n0 ≤ b1 := Nat.le_trans Z0 (Nat.le_of_eq gb1.symm)
  replace Z0 := Nat.le_trans Z0 E1.1
  have E_b1 := A1
  have F_this_0_b1 : Fld Z h1 b1 "com/example/thinleaf/thinleaf/prune/DocumentCut$1" "this$0" "Lcom/example/thinleaf/thinleaf/prune/DocumentCut;" .null := D1 (Or.inr (hw _ (List.mem_of_getElem? (i := 35) rfl))) (ty := (.object "com/example/thinleaf/thinleaf/prune/DocumentCut")) (by decide)
  have F_val_figures_b1 : Fld Z h1 b1 "com/example/thinleaf/thinleaf/prune/DocumentCut$1" "val$figures" "Ljava/util/Map;" .null := D1 (Or.inr (hw _ (List.mem_of_getElem? (i := 37) rfl))) (ty := (.object "java/util/Map")) (by decide)
  refine own_st st1 ?_
  show own_Go p e below G (T1.setTop (mkF m 3 #[.val (.ref cut), .val .null] [(.ref b1)]))
  refine own_st (fun t k => XS.dup X1.here hx rfl (hb hby d8_3) rfl rfl k) ?_
  show own_Go p e below G (T1.setTop (mkF m 4 #[.val (.ref cut), .val .null] [(.ref b1), (.ref b1)]))
  refine own_st (fun t k => XS.aloadN X1.here hx rfl (hb hby d8_4) rfl rfl  k) ?_
  show own_Go p e below G (T1.setTop (mkF m 5 #[.val (.ref cut), .val .null] [(.ref cut), (.ref b1), (.ref b1)]))
  refine own_st (fun t k => XS.aloadN X1.here hx rfl (hb hby d8_5) rfl rfl  k) ?_
  show own_Go p e below G (T1.setTop (mkF m 6 #[.val (.ref cut), .val .null] [.null, (.ref cut), (.ref b1), (.ref b1)]))
  obtain ⟨v2, T2, L2, X2, Q2, st2⟩ := own_callC X1 hx hZ (y := (⟨"com/example/thinleaf/thinleaf/prune/DocumentCut$1", "<init>", "(Lcom/example/thinleaf/thinleaf/prune/DocumentCut;Ljava/util/Map;)V"⟩ : MethodName)) rfl hown (hw _ (List.mem_of_getElem? (i := 31) rfl)) (hw _ (List.mem_of_getElem? (i := 32) rfl)) (hw _ (List.mem_of_getElem? (i := 30) rfl)) (hw _ (List.mem_of_getElem? (i := 33) rfl)) (by decide) (W := 1) (rm7 l Z a0 hw b1 cut h1 n0 Z0 g_b1 E_b1 F_this_0_b1 F_val_figures_b1) (by decide) (by decide) e1 (g := (mkF m 6 #[.val (.ref cut), .val .null] [.null, (.ref cut), (.ref b1), (.ref b1)])) rfl (by rw [hml]; rfl) (a := b1) (argsL := [(.ref cut), .null]) (rest := [(.ref b1)]) own_pd1 rfl rfl (by show 2 * 0 + _ ≤ _; exact Nat.le_of_eq rfl) (hb hby d8_6) rfl (by decide) (by decide)
  obtain ⟨rfl, Nq, Kq, Eq, Fq⟩ := Q2
  replace N0 := Fr.app N0 Nq
  have K1 : Keep h0 T2.heap [] := ((Keep.refl h0 []).ext E1).trans Kq (fun x hx => by cases List.mem_singleton.mp hx; exact Or.inr (Nat.le_of_eq gb1.symm))
  refine own_st st2 ?_
  show own_Go p e below G (T2.setTop (mkF m 9 #[.val (.ref cut), .val .null] [(.ref b1)]))
  rw [hG]
  exact own_retA X2 hx hlk hret rfl rfl (hb hby d8_9) ⟨b1, rfl, N0, K1, Nat.le_of_eq gb1.symm, Eq, Fq⟩ (by decide) (by decide)
theorem d9_0 : decode prog_195_method_4_code 0 = .ok (.aload_n 0, 1) := by decide +kernel
theorem d9_1 : decode prog_195_method_4_code 1 = .ok (.getfield 1, 3) := by decide +kernel
theorem d9_4 : decode prog_195_method_4_code 4 = .ok (.getfield 31, 3) := by decide +kernel
theorem d9_7 : decode prog_195_method_4_code 7 = .ok (.aload_n 1, 1) := by decide +kernel
theorem d9_8 : decode prog_195_method_4_code 8 = .ok (.iload_n 2, 1) := by decide +kernel
theorem d9_9 : decode prog_195_method_4_code 9 = .ok (.iaload, 1) := by decide +kernel
theorem d9_10 : decode prog_195_method_4_code 10 = .ok (.baload, 1) := by decide +kernel
theorem d9_11 : decode prog_195_method_4_code 11 = .ok (.ifCond .ne 7, 3) := by decide +kernel
theorem d9_14 : decode prog_195_method_4_code 14 = .ok (.iconst 1, 1) := by decide +kernel
theorem d9_15 : decode prog_195_method_4_code 15 = .ok (.goto 4, 3) := by decide +kernel
theorem d9_18 : decode prog_195_method_4_code 18 = .ok (.iconst 0, 1) := by decide +kernel
theorem d9_19 : decode prog_195_method_4_code 19 = .ok (.ireturn, 1) := by decide +kernel
theorem pn_rm9 : plainFor (⟨"com/example/thinleaf/thinleaf/prune/DocumentCut$1", "lambda$keep$0", "([II)Z"⟩ : MethodName) = true := by decide +kernel
theorem ef_rm9 (m : MethodId) (x0 : Addr) (x1 : Addr) (x2 : Int32) : entryFrame m #[(.ref x0), (.ref x1), (.int x2)] 3 = mkF m 0 #[.val (.ref x0), .val (.ref x1), .val (.int x2)] [] := by first | (simp [entryFrame, mkF, argsToLocals, Value.category]; done) | rfl
set_option maxRecDepth 65536 in
set_option maxHeartbeats 40000000 in
theorem rm9 (l : Launch) (Z : State) (a0 : Array Value) (hw : ∀ d ∈ tables_1, d.before a0 Z = true) (r0 da cut gz : Addr) (kd kg : ClassId) (ix gi g0 g1 g2 g3 : Int32) (h0 : Heap) (F_th : Fld Z h0 r0 "com/example/thinleaf/thinleaf/prune/DocumentCut$1" "this$0" "Lcom/example/thinleaf/thinleaf/prune/DocumentCut;" (.ref cut)) (F_go : Fld Z h0 cut "com/example/thinleaf/thinleaf/prune/DocumentCut" "goes" "[Z" (.ref gz)) (V_da : Arv Z h0 da kd .int (4 : Int32) [(.int (0 : Int32)), (.int (1 : Int32)), (.int (2 : Int32)), (.int (3 : Int32))] (.int (0 : Int32))) (V_gz : Arv Z h0 gz kg .boolean (4 : Int32) [(.int g0), (.int g1), (.int g2), (.int g3)] (.int (0 : Int32))) (hix : ¬ ix < 0 ∧ ix < 4) (hd : [(Value.int (0 : Int32)), (.int (1 : Int32)), (.int (2 : Int32)), (.int (3 : Int32))].getD ix.toNatClampNeg (.int (0 : Int32)) = .int ix) (hgi : [(Value.int g0), (.int g1), (.int g2), (.int g3)].getD ix.toNatClampNeg (.int (0 : Int32)) = .int gi) :
    own_Met l Z (⟨"com/example/thinleaf/thinleaf/prune/DocumentCut$1", "lambda$keep$0", "([II)Z"⟩ : MethodName) prog_195_method_4_code 3 (some .boolean) [] ({ frames := 0, cells := 0, slots := 0, locals := 0 } : Room) #[(.ref r0), (.ref da), (.int ix)] h0 (fun v h L => v = some (.int (own_nt gi)) ∧ L = [] ∧ h = h0) := by
  refine own_body pn_rm9 ?_
  intro p e s m below meth c s₁ hx hby hml hown hnm hret hlk hZ X0 e0 G hG
  replace hml : c.maxLocals = 3 := hml
  replace hown : s.vm.findClass "com/example/thinleaf/thinleaf/prune/DocumentCut$1" = some m.cls := hown
  rw [ef_rm9]
  show own_Go p e below G (s₁.setTop (mkF m 0 #[.val (.ref r0), .val (.ref da), .val (.int ix)] []))
  refine own_st (fun t k => XS.aloadN X0.here hx rfl (hb hby d9_0) rfl rfl  k) ?_
  show own_Go p e below G (s₁.setTop (mkF m 1 #[.val (.ref r0), .val (.ref da), .val (.int ix)] [(.ref r0)]))
  obtain ⟨T1, X1, e1, st1⟩ := getF X0 hx hZ hown (host := "") (Or.inl (hw _ (List.mem_of_getElem? (i := 34) rfl))) Via.refl e0 F_th (g := (mkF m 1 #[.val (.ref r0), .val (.ref da), .val (.int ix)] [(.ref r0)])) rfl rfl (hb hby d9_1)
  refine own_st st1 ?_
  show own_Go p e below G (T1.setTop (mkF m 4 #[.val (.ref r0), .val (.ref da), .val (.int ix)] [(.ref cut)]))
  obtain ⟨T2, X2, e2, st2⟩ := getF X1 hx hZ hown (Or.inr (hw _ (List.mem_of_getElem? (i := 89) rfl))) Via.refl e1 F_go (g := (mkF m 4 #[.val (.ref r0), .val (.ref da), .val (.int ix)] [(.ref cut)])) rfl rfl (hb hby d9_4)
  refine own_st st2 ?_
  show own_Go p e below G (T2.setTop (mkF m 7 #[.val (.ref r0), .val (.ref da), .val (.int ix)] [(.ref gz)]))
  refine own_st (fun t k => XS.aloadN X2.here hx rfl (hb hby d9_7) rfl rfl  k) ?_
  show own_Go p e below G (T2.setTop (mkF m 8 #[.val (.ref r0), .val (.ref da), .val (.int ix)] [(.ref da), (.ref gz)]))
  refine own_st (fun t k => XS.iloadN X2.here hx rfl (hb hby d9_8) rfl  k) ?_
  show own_Go p e below G (T2.setTop (mkF m 9 #[.val (.ref r0), .val (.ref da), .val (.int ix)] [(.int ix), (.ref da), (.ref gz)]))
  have Vc3 := V_da
  obtain ⟨cl3, Ar3, -, Sa3, -, Ha3, -⟩ := Vc3
  have hin3 : ¬ (ix < 0 ∨ cl3.slots.size ≤ (ix).toNatClampNeg) := inb_of Sa3 hix
  refine own_st (fun t k => X2.iaload hx (j := ix) (v := (.int ix)) (by rw [e2]; exact Ar3.1) (State.isArrayOf_alike hZ.alike Ar3.2.1) Ar3.2.2 hin3 (Ha3.at hin3 hd) (g := (mkF m 9 #[.val (.ref r0), .val (.ref da), .val (.int ix)] [(.int ix), (.ref da), (.ref gz)])) rfl rfl (hb hby d9_9) t k) ?_
  show own_Go p e below G (T2.setTop (mkF m 10 #[.val (.ref r0), .val (.ref da), .val (.int ix)] [(.int ix), (.ref gz)]))
  have Vc4 := V_gz
  obtain ⟨cl4, Ar4, -, Sa4, -, Ha4, -⟩ := Vc4
  have hin4 : ¬ (ix < 0 ∨ cl4.slots.size ≤ (ix).toNatClampNeg) := inb_of Sa4 hix
  refine own_st (fun t k => X2.baloadBooleans hx (j := ix) (v := (.int gi)) (by rw [e2]; exact Ar4.1) (State.isArrayOf_alike hZ.alike Ar4.2.1) Ar4.2.2 hin4 (Ha4.at hin4 hgi) (g := (mkF m 10 #[.val (.ref r0), .val (.ref da), .val (.int ix)] [(.int ix), (.ref gz)])) rfl rfl (hb hby d9_10) t k) ?_
  show own_Go p e below G (T2.setTop (mkF m 11 #[.val (.ref r0), .val (.ref da), .val (.int ix)] [(.int gi)]))
  by_cases c11_5 : gi = (0 : Int32)
  · skip
    refine own_st (fun t k => XS.ifNo X2.here hx rfl (hb hby d9_11) rfl ((if0 _ _).trans (teq c11_5).2) k) ?_
    show own_Go p e below G (T2.setTop (mkF m 14 #[.val (.ref r0), .val (.ref da), .val (.int ix)] []))
    refine own_st (fun t k => XS.iconst X2.here hx rfl (hb hby d9_14) k) ?_
    show own_Go p e below G (T2.setTop (mkF m 15 #[.val (.ref r0), .val (.ref da), .val (.int ix)] [(.int (1 : Int32))]))
    refine own_st (fun t k => XS.goto X2.here hx rfl (pc0 := 15) (pc' := 19) rfl (hb hby d9_15) (by decide) (by decide) k) ?_
    show own_Go p e below G (T2.setTop (mkF m 19 #[.val (.ref r0), .val (.ref da), .val (.int ix)] [(.int (1 : Int32))]))
    rw [hG]
    exact own_retZ X2 hx hlk (t := .boolean) hret (by simp) (hb hby d9_19) ⟨congrArg (fun z => some (Value.int z)) (show (1 : Int32) = own_nt gi from (if_pos c11_5).symm), rfl, e2⟩ (by decide) (by decide)
  · skip
    refine own_st (fun t k => XS.ifYes X2.here hx rfl (pc0 := 11) (pc' := 18) rfl (hb hby d9_11) rfl ((if0 _ _).trans (feq c11_5).2) (by decide) (by decide) k) ?_
    show own_Go p e below G (T2.setTop (mkF m 18 #[.val (.ref r0), .val (.ref da), .val (.int ix)] []))
    refine own_st (fun t k => XS.iconst X2.here hx rfl (hb hby d9_18) k) ?_
    show own_Go p e below G (T2.setTop (mkF m 19 #[.val (.ref r0), .val (.ref da), .val (.int ix)] [(.int (0 : Int32))]))
    rw [hG]
    exact own_retZ X2 hx hlk (t := .boolean) hret (by simp) (hb hby d9_19) ⟨congrArg (fun z => some (Value.int z)) (show (0 : Int32) = own_nt gi from (if_neg c11_5).symm), rfl, e2⟩ (by decide) (by decide)
theorem d12_0 : decode method_3_code 0 = .ok (.iload_n 0, 1) := by decide +kernel
theorem d12_1 : decode method_3_code 1 = .ok (.iload_n 1, 1) := by decide +kernel
theorem d12_2 : decode method_3_code 2 = .ok (.if_icmp .lt 12, 3) := by decide +kernel
theorem d12_5 : decode method_3_code 5 = .ok (.iload_n 0, 1) := by decide +kernel
theorem d12_6 : decode method_3_code 6 = .ok (.iload_n 2, 1) := by decide +kernel
theorem d12_7 : decode method_3_code 7 = .ok (.if_icmp .ge 7, 3) := by decide +kernel
theorem d12_10 : decode method_3_code 10 = .ok (.iconst 1, 1) := by decide +kernel
theorem d12_11 : decode method_3_code 11 = .ok (.goto 4, 3) := by decide +kernel
theorem d12_14 : decode method_3_code 14 = .ok (.iconst 0, 1) := by decide +kernel
theorem d12_15 : decode method_3_code 15 = .ok (.ireturn, 1) := by decide +kernel
theorem pn_rm12 : plainFor (⟨"com/example/thinleaf/thinleaf/prune/DocumentCutRemovePinLaw", "goes", "(III)Z"⟩ : MethodName) = true := by decide +kernel
theorem ef_rm12 (m : MethodId) (x0 : Int32) (x1 : Int32) (x2 : Int32) : entryFrame m #[(.int x0), (.int x1), (.int x2)] 3 = mkF m 0 #[.val (.int x0), .val (.int x1), .val (.int x2)] [] := by first | (simp [entryFrame, mkF, argsToLocals, Value.category]; done) | rfl
set_option maxRecDepth 65536 in
set_option maxHeartbeats 40000000 in
theorem rm12 (l : Launch) (Z : State) (a0 : Array Value) (hw : ∀ d ∈ tables_1, d.before a0 Z = true) (x0 x1 x2 : Int32) (h0 : Heap) :
    own_Met l Z (⟨"com/example/thinleaf/thinleaf/prune/DocumentCutRemovePinLaw", "goes", "(III)Z"⟩ : MethodName) method_3_code 3 (some .boolean) [] ({ frames := 0, cells := 0, slots := 0, locals := 0 } : Room) #[(.int x0), (.int x1), (.int x2)] h0 (fun v h L => v = some (.int (own_go x0 x1 x2)) ∧ L = [] ∧ h = h0) := by
  refine own_body pn_rm12 ?_
  intro p e s m below meth c s₁ hx hby hml hown hnm hret hlk hZ X0 e0 G hG
  replace hml : c.maxLocals = 3 := hml
  replace hown : s.vm.findClass "com/example/thinleaf/thinleaf/prune/DocumentCutRemovePinLaw" = some m.cls := hown
  rw [ef_rm12]
  show own_Go p e below G (s₁.setTop (mkF m 0 #[.val (.int x0), .val (.int x1), .val (.int x2)] []))
  refine own_st (fun t k => XS.iloadN X0.here hx rfl (hb hby d12_0) rfl  k) ?_
  show own_Go p e below G (s₁.setTop (mkF m 1 #[.val (.int x0), .val (.int x1), .val (.int x2)] [(.int x0)]))
  refine own_st (fun t k => XS.iloadN X0.here hx rfl (hb hby d12_1) rfl  k) ?_
  show own_Go p e below G (s₁.setTop (mkF m 2 #[.val (.int x0), .val (.int x1), .val (.int x2)] [(.int x1), (.int x0)]))
  by_cases c2_1 : x0 < x1
  · skip
    refine own_st (fun t k => XS.icmpYes X0.here hx rfl (pc0 := 2) (pc' := 14) rfl (hb hby d12_2) rfl (tlt c2_1).1 (by decide) (by decide) k) ?_
    show own_Go p e below G (s₁.setTop (mkF m 14 #[.val (.int x0), .val (.int x1), .val (.int x2)] []))
    refine own_st (fun t k => XS.iconst X0.here hx rfl (hb hby d12_14) k) ?_
    show own_Go p e below G (s₁.setTop (mkF m 15 #[.val (.int x0), .val (.int x1), .val (.int x2)] [(.int (0 : Int32))]))
    rw [hG]
    exact own_retZ X0 hx hlk (t := .boolean) hret (by simp) (hb hby d12_15) ⟨congrArg (fun z => some (Value.int z)) (show (0 : Int32) = own_go x0 x1 x2 by unfold own_go; rw [if_pos c2_1]), rfl, e0⟩ (by decide) (by decide)
  · skip
    refine own_st (fun t k => XS.icmpNo X0.here hx rfl (hb hby d12_2) rfl (flt c2_1).1 k) ?_
    show own_Go p e below G (s₁.setTop (mkF m 5 #[.val (.int x0), .val (.int x1), .val (.int x2)] []))
    refine own_st (fun t k => XS.iloadN X0.here hx rfl (hb hby d12_5) rfl  k) ?_
    show own_Go p e below G (s₁.setTop (mkF m 6 #[.val (.int x0), .val (.int x1), .val (.int x2)] [(.int x0)]))
    refine own_st (fun t k => XS.iloadN X0.here hx rfl (hb hby d12_6) rfl  k) ?_
    show own_Go p e below G (s₁.setTop (mkF m 7 #[.val (.int x0), .val (.int x1), .val (.int x2)] [(.int x2), (.int x0)]))
    by_cases c7_2 : x0 < x2
    · skip
      refine own_st (fun t k => XS.icmpNo X0.here hx rfl (hb hby d12_7) rfl (tlt c7_2).2.1 k) ?_
      show own_Go p e below G (s₁.setTop (mkF m 10 #[.val (.int x0), .val (.int x1), .val (.int x2)] []))
      refine own_st (fun t k => XS.iconst X0.here hx rfl (hb hby d12_10) k) ?_
      show own_Go p e below G (s₁.setTop (mkF m 11 #[.val (.int x0), .val (.int x1), .val (.int x2)] [(.int (1 : Int32))]))
      refine own_st (fun t k => XS.goto X0.here hx rfl (pc0 := 11) (pc' := 15) rfl (hb hby d12_11) (by decide) (by decide) k) ?_
      show own_Go p e below G (s₁.setTop (mkF m 15 #[.val (.int x0), .val (.int x1), .val (.int x2)] [(.int (1 : Int32))]))
      rw [hG]
      exact own_retZ X0 hx hlk (t := .boolean) hret (by simp) (hb hby d12_15) ⟨congrArg (fun z => some (Value.int z)) (show (1 : Int32) = own_go x0 x1 x2 by unfold own_go; rw [if_neg c2_1, if_pos c7_2]), rfl, e0⟩ (by decide) (by decide)
    · skip
      refine own_st (fun t k => XS.icmpYes X0.here hx rfl (pc0 := 7) (pc' := 14) rfl (hb hby d12_7) rfl (flt c7_2).2.1 (by decide) (by decide) k) ?_
      show own_Go p e below G (s₁.setTop (mkF m 14 #[.val (.int x0), .val (.int x1), .val (.int x2)] []))
      refine own_st (fun t k => XS.iconst X0.here hx rfl (hb hby d12_14) k) ?_
      show own_Go p e below G (s₁.setTop (mkF m 15 #[.val (.int x0), .val (.int x1), .val (.int x2)] [(.int (0 : Int32))]))
      rw [hG]
      exact own_retZ X0 hx hlk (t := .boolean) hret (by simp) (hb hby d12_15) ⟨congrArg (fun z => some (Value.int z)) (show (0 : Int32) = own_go x0 x1 x2 by unfold own_go; rw [if_neg c2_1, if_neg c7_2]), rfl, e0⟩ (by decide) (by decide)
def own_sg : Jvm.Lambda.Shape := (Jvm.Lambda.Shape.mk "java/util/function/IntPredicate" "test" (Jvm.ClassFile.MethodDescriptor.mk ([Jvm.ClassFile.FieldType.int] : List Jvm.ClassFile.FieldType) (Option.some Jvm.ClassFile.FieldType.boolean)) ([(Jvm.ClassFile.FieldType.object "com/example/thinleaf/thinleaf/prune/DocumentCut$1"), (Jvm.ClassFile.FieldType.array Jvm.ClassFile.FieldType.int)] : List Jvm.ClassFile.FieldType) (5 : Nat) "com/example/thinleaf/thinleaf/prune/DocumentCut$1" "lambda$keep$0" (Jvm.ClassFile.MethodDescriptor.mk ([(Jvm.ClassFile.FieldType.array Jvm.ClassFile.FieldType.int), Jvm.ClassFile.FieldType.int] : List Jvm.ClassFile.FieldType) (Option.some Jvm.ClassFile.FieldType.boolean)) false (Jvm.ClassFile.MethodDescriptor.mk ([Jvm.ClassFile.FieldType.int] : List Jvm.ClassFile.FieldType) (Option.some Jvm.ClassFile.FieldType.boolean)))
theorem own_ok : Jvm.LamKit.fwdOK own_sg "com/example/thinleaf/thinleaf/prune/DocumentCut$1" own_fc 2 (some .boolean) 27 23 = true := by decide +kernel
theorem own_c0 : Jvm.LamKit.capOK own_sg "com/example/thinleaf/thinleaf/prune/DocumentCut$1" 17 0 = true := by decide +kernel
theorem own_c1 : Jvm.LamKit.capOK own_sg "com/example/thinleaf/thinleaf/prune/DocumentCut$1" 19 1 = true := by decide +kernel
theorem own_xi : "java/util/function/IntPredicate" = own_sg.iface ∧ "test" = own_sg.name ∧ "(I)Z" = own_sg.sam.toString := by decide +kernel
theorem own_yy : "com/example/thinleaf/thinleaf/prune/DocumentCut$1" = own_sg.implClass ∧ "lambda$keep$0" = own_sg.implName ∧ "([II)Z" = own_sg.implDesc.toString := by decide +kernel
theorem own_cr : ∀ t ∈ own_sg.captured, t.isReference = true := by decide +kernel
theorem d10_0 : decode prog_74_method_3_code 0 = .ok (.aload_n 0, 1) := by decide +kernel
theorem d10_1 : decode prog_74_method_3_code 1 = .ok (.invokevirtual 16, 3) := by decide +kernel
theorem d10_4 : decode prog_74_method_3_code 4 = .ok (.newarray .int, 2) := by decide +kernel
theorem d10_6 : decode prog_74_method_3_code 6 = .ok (.astore_n 2, 1) := by decide +kernel
theorem d10_7 : decode prog_74_method_3_code 7 = .ok (.aload_n 0, 1) := by decide +kernel
theorem d10_8 : decode prog_74_method_3_code 8 = .ok (.invokevirtual 16, 3) := by decide +kernel
theorem d10_11 : decode prog_74_method_3_code 11 = .ok (.newarray .int, 2) := by decide +kernel
theorem d10_13 : decode prog_74_method_3_code 13 = .ok (.astore_n 3, 1) := by decide +kernel
theorem d10_14 : decode prog_74_method_3_code 14 = .ok (.iconst 0, 1) := by decide +kernel
theorem d10_15 : decode prog_74_method_3_code 15 = .ok (.istore 4, 2) := by decide +kernel
theorem d10_17 : decode prog_74_method_3_code 17 = .ok (.iconst 0, 1) := by decide +kernel
theorem d10_18 : decode prog_74_method_3_code 18 = .ok (.istore 5, 2) := by decide +kernel
theorem d10_20 : decode prog_74_method_3_code 20 = .ok (.iload 5, 2) := by decide +kernel
theorem d10_22 : decode prog_74_method_3_code 22 = .ok (.aload_n 0, 1) := by decide +kernel
theorem d10_23 : decode prog_74_method_3_code 23 = .ok (.invokevirtual 16, 3) := by decide +kernel
theorem d10_26 : decode prog_74_method_3_code 26 = .ok (.if_icmp .ge 45, 3) := by decide +kernel
theorem d10_29 : decode prog_74_method_3_code 29 = .ok (.aload_n 1, 1) := by decide +kernel
theorem d10_30 : decode prog_74_method_3_code 30 = .ok (.iload 5, 2) := by decide +kernel
theorem d10_32 : decode prog_74_method_3_code 32 = .ok (.invokeinterface 20 2, 5) := by decide +kernel
theorem d10_37 : decode prog_74_method_3_code 37 = .ok (.ifCond .eq 28, 3) := by decide +kernel
theorem d10_40 : decode prog_74_method_3_code 40 = .ok (.aload_n 2, 1) := by decide +kernel
theorem d10_41 : decode prog_74_method_3_code 41 = .ok (.iload 4, 2) := by decide +kernel
theorem d10_43 : decode prog_74_method_3_code 43 = .ok (.aload_n 0, 1) := by decide +kernel
theorem d10_44 : decode prog_74_method_3_code 44 = .ok (.getfield 7, 3) := by decide +kernel
theorem d10_47 : decode prog_74_method_3_code 47 = .ok (.iload 5, 2) := by decide +kernel
theorem d10_49 : decode prog_74_method_3_code 49 = .ok (.iaload, 1) := by decide +kernel
theorem d10_50 : decode prog_74_method_3_code 50 = .ok (.iastore, 1) := by decide +kernel
theorem d10_51 : decode prog_74_method_3_code 51 = .ok (.aload_n 3, 1) := by decide +kernel
theorem d10_52 : decode prog_74_method_3_code 52 = .ok (.iload 4, 2) := by decide +kernel
theorem d10_54 : decode prog_74_method_3_code 54 = .ok (.aload_n 0, 1) := by decide +kernel
theorem d10_55 : decode prog_74_method_3_code 55 = .ok (.getfield 13, 3) := by decide +kernel
theorem d10_58 : decode prog_74_method_3_code 58 = .ok (.iload 5, 2) := by decide +kernel
theorem d10_60 : decode prog_74_method_3_code 60 = .ok (.iaload, 1) := by decide +kernel
theorem d10_61 : decode prog_74_method_3_code 61 = .ok (.iastore, 1) := by decide +kernel
theorem d10_62 : decode prog_74_method_3_code 62 = .ok (.iinc 4 1, 3) := by decide +kernel
theorem d10_65 : decode prog_74_method_3_code 65 = .ok (.iinc 5 1, 3) := by decide +kernel
theorem d10_68 : decode prog_74_method_3_code 68 = .ok (.goto (-48), 3) := by decide +kernel
theorem d10_71 : decode prog_74_method_3_code 71 = .ok (.new 8, 3) := by decide +kernel
theorem d10_74 : decode prog_74_method_3_code 74 = .ok (.dup, 1) := by decide +kernel
theorem d10_75 : decode prog_74_method_3_code 75 = .ok (.aload_n 2, 1) := by decide +kernel
theorem d10_76 : decode prog_74_method_3_code 76 = .ok (.iload 4, 2) := by decide +kernel
theorem d10_78 : decode prog_74_method_3_code 78 = .ok (.invokestatic 26, 3) := by decide +kernel
theorem d10_81 : decode prog_74_method_3_code 81 = .ok (.aload_n 3, 1) := by decide +kernel
theorem d10_82 : decode prog_74_method_3_code 82 = .ok (.iload 4, 2) := by decide +kernel
theorem d10_84 : decode prog_74_method_3_code 84 = .ok (.invokestatic 26, 3) := by decide +kernel
theorem d10_87 : decode prog_74_method_3_code 87 = .ok (.invokespecial 32, 3) := by decide +kernel
theorem d10_90 : decode prog_74_method_3_code 90 = .ok (.areturn, 1) := by decide +kernel
theorem pn_rm10 : plainFor (⟨"com/example/thinleaf/thinleaf/core/index/Postings", "keeping", "(Ljava/util/function/IntPredicate;)Lcom/example/thinleaf/thinleaf/core/index/Postings;"⟩ : MethodName) = true := by decide +kernel
theorem ef_rm10 (m : MethodId) (x0 : Addr) (x1 : Addr) : entryFrame m #[(.ref x0), (.ref x1)] 6 = mkF m 0 #[.val (.ref x0), .val (.ref x1), .unset, .unset, .unset, .unset] [] := by first | (simp [entryFrame, mkF, argsToLocals, Value.category]; done) | rfl
set_option maxRecDepth 65536 in
set_option maxHeartbeats 40000000 in
theorem rm10 (l : Launch) (Z : State) (a0 : Array Value) (hw : ∀ d ∈ tables_1, d.before a0 Z = true) (po fn da fa rr cut gz : Addr) (kd kf kg cK : ClassId) (g0 g1 g2 g3 : Int32) (h0 : Heap) (n0 : Nat) (Z0 : n0 ≤ h0.size) (E_po : Exa Z h0 po "com/example/thinleaf/thinleaf/core/index/Postings") (F_d : Fld Z h0 po "com/example/thinleaf/thinleaf/core/index/Postings" "documents" "[I" (.ref da)) (F_f : Fld Z h0 po "com/example/thinleaf/thinleaf/core/index/Postings" "frequencies" "[I" (.ref fa)) (V_da : Arv Z h0 da kd .int (4 : Int32) [(.int (0 : Int32)), (.int (1 : Int32)), (.int (2 : Int32)), (.int (3 : Int32))] (.int (0 : Int32))) (V_fa : Arv Z h0 fa kf .int (4 : Int32) [(.int (1 : Int32)), (.int (1 : Int32)), (.int (1 : Int32)), (.int (1 : Int32))] (.int (0 : Int32))) (FN : own_Fn h0 fn cK rr da) (E_rr : Exa Z h0 rr "com/example/thinleaf/thinleaf/prune/DocumentCut$1") (F_th : Fld Z h0 rr "com/example/thinleaf/thinleaf/prune/DocumentCut$1" "this$0" "Lcom/example/thinleaf/thinleaf/prune/DocumentCut;" (.ref cut)) (F_go : Fld Z h0 cut "com/example/thinleaf/thinleaf/prune/DocumentCut" "goes" "[Z" (.ref gz)) (V_gz : Arv Z h0 gz kg .boolean (4 : Int32) [(.int g0), (.int g1), (.int g2), (.int g3)] (.int (0 : Int32))) (hmd : Jvm.LamKit.Made Z "com/example/thinleaf/thinleaf/prune/DocumentCut$1" own_sg cK) :
    own_MetH l Z Z (⟨"com/example/thinleaf/thinleaf/core/index/Postings", "keeping", "(Ljava/util/function/IntPredicate;)Lcom/example/thinleaf/thinleaf/core/index/Postings;"⟩ : MethodName) prog_74_method_3_code 6 (some (.object "com/example/thinleaf/thinleaf/core/index/Postings")) [] ({ frames := 3, cells := 5, slots := 18, locals := 60 } : Room) #[(.ref po), (.ref fn)] h0 (fun v h L => ∃ (b nd : Addr) (kn : ClassId) (nn x0 x1 x2 x3 : Int32), v = some (.ref b) ∧ Fr n0 L ∧ Keep h0 h [] ∧ h0.size ≤ b ∧ h0.size ≤ nd ∧ Exa Z h b "com/example/thinleaf/thinleaf/core/index/Postings" ∧ Fld Z h b "com/example/thinleaf/thinleaf/core/index/Postings" "documents" "[I" (.ref nd) ∧ Arv Z h nd kn .int nn [(.int x0), (.int x1), (.int x2), (.int x3)] (.int (0 : Int32)) ∧ (nn, x0, x1, x2, x3) = (own_stp g3 3 (own_stp g2 2 (own_stp g1 1 (own_stp g0 0 ((0 : Int32), (0 : Int32), (0 : Int32), (0 : Int32), (0 : Int32))))))) := by
  refine own_bodyH pn_rm10 ?_
  intro p e s m below meth c s₁ hx hby hml hown hnm hret hlk hZ hY hnd X0 e0 G hG
  replace hml : c.maxLocals = 6 := hml
  replace hown : s.vm.findClass "com/example/thinleaf/thinleaf/core/index/Postings" = some m.cls := hown
  rw [ef_rm10]
  have N0 := Fr.nil n0
  have K0 := Keep.refl h0 []
  show own_Go p e below G (s₁.setTop (mkF m 0 #[.val (.ref po), .val (.ref fn), .unset, .unset, .unset, .unset] []))
  refine own_st (fun t k => XS.aloadN X0.here hx rfl (hb hby d10_0) rfl rfl  k) ?_
  show own_Go p e below G (s₁.setTop (mkF m 1 #[.val (.ref po), .val (.ref fn), .unset, .unset, .unset, .unset] [(.ref po)]))
  obtain ⟨v1, T1, L1, X1, Q1, st1⟩ := own_callV X0 hx hZ (y := (⟨"com/example/thinleaf/thinleaf/core/index/Postings", "size", "()I"⟩ : MethodName)) (z := (⟨"com/example/thinleaf/thinleaf/core/index/Postings", "size", "()I"⟩ : MethodName)) hown (hw _ (List.mem_of_getElem? (i := 78) rfl)) (hw _ (List.mem_of_getElem? (i := 79) rfl)) (notFace_of_selects (args := #[]) (mvT hZ (hw _ (List.mem_of_getElem? (i := 81) rfl)))) (hw _ (List.mem_of_getElem? (i := 81) rfl)) (hw _ (List.mem_of_getElem? (i := 80) rfl)) (hw _ (List.mem_of_getElem? (i := 41) rfl)) (hw _ (List.mem_of_getElem? (i := 82) rfl)) (by decide) (W := 0) (rm6 l Z a0 hw po da kd _ _ h0 F_d V_da) (by decide) (by decide) e0 E_po (g := (mkF m 1 #[.val (.ref po), .val (.ref fn), .unset, .unset, .unset, .unset] [(.ref po)])) rfl (by rw [hml]; rfl) (argsL := []) (rest := []) own_pd2 rfl rfl (by show 2 * 0 + _ ≤ _; exact Nat.le_of_eq rfl) (hb hby d10_1) rfl (by decide) (by decide)
  obtain ⟨rfl, rfl, e1⟩ := Q1
  simp only [List.append_nil, Nat.add_zero] at X1
  refine own_st st1 ?_
  show own_Go p e below G (T1.setTop (mkF m 4 #[.val (.ref po), .val (.ref fn), .unset, .unset, .unset, .unset] [(.int (4 : Int32))]))
  obtain ⟨T2, h2, k2, X2, e2, E2, A2, B2, st2⟩ := newPE X1 hx hZ (hw _ (List.mem_of_getElem? (i := 0) rfl)) e1 (g := (mkF m 4 #[.val (.ref po), .val (.ref fn), .unset, .unset, .unset, .unset] [(.int (4 : Int32))])) rfl (hb hby d10_4) rfl (by decide) (cap := 4) (by decide) (by decide) (by decide) (by decide) (ad := "[I") (by decide)
  obtain ⟨b2, gb2⟩ : ∃ z, z = h0.size := ⟨_, rfl⟩
  rw [← gb2] at A2 B2 st2
  have g_b2 : n0 ≤ b2 := Nat.le_trans Z0 (Nat.le_of_eq gb2.symm)
  have ne_po_b2 : po ≠ b2 := Nat.ne_of_lt (Nat.lt_of_lt_of_le E_po.lt (Nat.le_of_eq gb2.symm))
  have ne_da_b2 : da ≠ b2 := Nat.ne_of_lt (Nat.lt_of_lt_of_le V_da.lt (Nat.le_of_eq gb2.symm))
  have ne_fa_b2 : fa ≠ b2 := Nat.ne_of_lt (Nat.lt_of_lt_of_le V_fa.lt (Nat.le_of_eq gb2.symm))
  have ne_fn_b2 : fn ≠ b2 := Nat.ne_of_lt (Nat.lt_of_lt_of_le FN.lt (Nat.le_of_eq gb2.symm))
  have ne_rr_b2 : rr ≠ b2 := Nat.ne_of_lt (Nat.lt_of_lt_of_le E_rr.lt (Nat.le_of_eq gb2.symm))
  have ne_cut_b2 : cut ≠ b2 := Nat.ne_of_lt (Nat.lt_of_lt_of_le F_go.lt (Nat.le_of_eq gb2.symm))
  have ne_gz_b2 : gz ≠ b2 := Nat.ne_of_lt (Nat.lt_of_lt_of_le V_gz.lt (Nat.le_of_eq gb2.symm))
  replace Z0 := Nat.le_trans Z0 E2.1
  replace E_po := E_po.ext E2
  replace F_d := F_d.ext E2
  replace F_f := F_f.ext E2
  replace V_da := V_da.ext E2
  replace V_fa := V_fa.ext E2
  replace FN := FN.ext E2
  replace E_rr := E_rr.ext E2
  replace F_th := F_th.ext E2
  replace F_go := F_go.ext E2
  replace V_gz := V_gz.ext E2
  have V_b2 : Arv Z h2 b2 k2 .int (4 : Int32) [(.int (0 : Int32)), (.int (0 : Int32)), (.int (0 : Int32)), (.int (0 : Int32))] (.int (0 : Int32)) := (Arv.new A2 (by decide)).pad (pad_rep [] (.int (0 : Int32)) 4)
  have Ex_b2 := B2
  have ge_b2 : h0.size ≤ b2 := Nat.le_trans K0.1 (Nat.le_of_eq gb2.symm)
  replace K0 := K0.ext E2
  refine own_st st2 ?_
  show own_Go p e below G (T2.setTop (mkF m 6 #[.val (.ref po), .val (.ref fn), .unset, .unset, .unset, .unset] [(.ref b2)]))
  refine own_st (fun t k => XS.astoreN X2.here hx rfl (hb hby d10_6) rfl rfl (l' := #[.val (.ref po), .val (.ref fn), .val (.ref b2), .unset, .unset, .unset]) rfl k) ?_
  show own_Go p e below G (T2.setTop (mkF m 7 #[.val (.ref po), .val (.ref fn), .val (.ref b2), .unset, .unset, .unset] []))
  refine own_st (fun t k => XS.aloadN X2.here hx rfl (hb hby d10_7) rfl rfl  k) ?_
  show own_Go p e below G (T2.setTop (mkF m 8 #[.val (.ref po), .val (.ref fn), .val (.ref b2), .unset, .unset, .unset] [(.ref po)]))
  obtain ⟨v3, T3, L3, X3, Q3, st3⟩ := own_callV X2 hx hZ (y := (⟨"com/example/thinleaf/thinleaf/core/index/Postings", "size", "()I"⟩ : MethodName)) (z := (⟨"com/example/thinleaf/thinleaf/core/index/Postings", "size", "()I"⟩ : MethodName)) hown (hw _ (List.mem_of_getElem? (i := 78) rfl)) (hw _ (List.mem_of_getElem? (i := 79) rfl)) (notFace_of_selects (args := #[]) (mvT hZ (hw _ (List.mem_of_getElem? (i := 81) rfl)))) (hw _ (List.mem_of_getElem? (i := 81) rfl)) (hw _ (List.mem_of_getElem? (i := 80) rfl)) (hw _ (List.mem_of_getElem? (i := 41) rfl)) (hw _ (List.mem_of_getElem? (i := 82) rfl)) (by decide) (W := 0) (rm6 l Z a0 hw po da kd _ _ h2 F_d V_da) (by decide) (by decide) e2 E_po (g := (mkF m 8 #[.val (.ref po), .val (.ref fn), .val (.ref b2), .unset, .unset, .unset] [(.ref po)])) rfl (by rw [hml]; rfl) (argsL := []) (rest := []) own_pd2 rfl rfl (by show 2 * 0 + _ ≤ _; exact Nat.le_of_eq rfl) (hb hby d10_8) rfl (by decide) (by decide)
  obtain ⟨rfl, rfl, e3⟩ := Q3
  simp only [List.append_nil, Nat.add_zero] at X3
  refine own_st st3 ?_
  show own_Go p e below G (T3.setTop (mkF m 11 #[.val (.ref po), .val (.ref fn), .val (.ref b2), .unset, .unset, .unset] [(.int (4 : Int32))]))
  obtain ⟨T4, h4, k4, X4, e4, E4, A4, B4, st4⟩ := newPE X3 hx hZ (hw _ (List.mem_of_getElem? (i := 0) rfl)) e3 (g := (mkF m 11 #[.val (.ref po), .val (.ref fn), .val (.ref b2), .unset, .unset, .unset] [(.int (4 : Int32))])) rfl (hb hby d10_11) rfl (by decide) (cap := 4) (by decide) (by decide) (by decide) (by decide) (ad := "[I") (by decide)
  obtain ⟨b4, gb4⟩ : ∃ z, z = h2.size := ⟨_, rfl⟩
  rw [← gb4] at A4 B4 st4
  have g_b4 : n0 ≤ b4 := Nat.le_trans Z0 (Nat.le_of_eq gb4.symm)
  have ne_po_b4 : po ≠ b4 := Nat.ne_of_lt (Nat.lt_of_lt_of_le E_po.lt (Nat.le_of_eq gb4.symm))
  have ne_da_b4 : da ≠ b4 := Nat.ne_of_lt (Nat.lt_of_lt_of_le V_da.lt (Nat.le_of_eq gb4.symm))
  have ne_fa_b4 : fa ≠ b4 := Nat.ne_of_lt (Nat.lt_of_lt_of_le V_fa.lt (Nat.le_of_eq gb4.symm))
  have ne_fn_b4 : fn ≠ b4 := Nat.ne_of_lt (Nat.lt_of_lt_of_le FN.lt (Nat.le_of_eq gb4.symm))
  have ne_rr_b4 : rr ≠ b4 := Nat.ne_of_lt (Nat.lt_of_lt_of_le E_rr.lt (Nat.le_of_eq gb4.symm))
  have ne_cut_b4 : cut ≠ b4 := Nat.ne_of_lt (Nat.lt_of_lt_of_le F_go.lt (Nat.le_of_eq gb4.symm))
  have ne_gz_b4 : gz ≠ b4 := Nat.ne_of_lt (Nat.lt_of_lt_of_le V_gz.lt (Nat.le_of_eq gb4.symm))
  have ne_b2_b4 : b2 ≠ b4 := Nat.ne_of_lt (Nat.lt_of_lt_of_le V_b2.lt (Nat.le_of_eq gb4.symm))
  replace Z0 := Nat.le_trans Z0 E4.1
  replace E_po := E_po.ext E4
  replace F_d := F_d.ext E4
  replace F_f := F_f.ext E4
  replace V_da := V_da.ext E4
  replace V_fa := V_fa.ext E4
  replace FN := FN.ext E4
  replace E_rr := E_rr.ext E4
  replace F_th := F_th.ext E4
  replace F_go := F_go.ext E4
  replace V_gz := V_gz.ext E4
  replace V_b2 := V_b2.ext E4
  replace Ex_b2 := Ex_b2.ext E4
  have V_b4 : Arv Z h4 b4 k4 .int (4 : Int32) [(.int (0 : Int32)), (.int (0 : Int32)), (.int (0 : Int32)), (.int (0 : Int32))] (.int (0 : Int32)) := (Arv.new A4 (by decide)).pad (pad_rep [] (.int (0 : Int32)) 4)
  have Ex_b4 := B4
  have ge_b4 : h0.size ≤ b4 := Nat.le_trans K0.1 (Nat.le_of_eq gb4.symm)
  replace K0 := K0.ext E4
  refine own_st st4 ?_
  show own_Go p e below G (T4.setTop (mkF m 13 #[.val (.ref po), .val (.ref fn), .val (.ref b2), .unset, .unset, .unset] [(.ref b4)]))
  refine own_st (fun t k => XS.astoreN X4.here hx rfl (hb hby d10_13) rfl rfl (l' := #[.val (.ref po), .val (.ref fn), .val (.ref b2), .val (.ref b4), .unset, .unset]) rfl k) ?_
  show own_Go p e below G (T4.setTop (mkF m 14 #[.val (.ref po), .val (.ref fn), .val (.ref b2), .val (.ref b4), .unset, .unset] []))
  refine own_st (fun t k => XS.iconst X4.here hx rfl (hb hby d10_14) k) ?_
  show own_Go p e below G (T4.setTop (mkF m 15 #[.val (.ref po), .val (.ref fn), .val (.ref b2), .val (.ref b4), .unset, .unset] [(.int (0 : Int32))]))
  refine own_st (fun t k => XS.istore X4.here hx rfl (hb hby d10_15) rfl (l' := #[.val (.ref po), .val (.ref fn), .val (.ref b2), .val (.ref b4), .val (.int (0 : Int32)), .unset]) rfl k) ?_
  show own_Go p e below G (T4.setTop (mkF m 17 #[.val (.ref po), .val (.ref fn), .val (.ref b2), .val (.ref b4), .val (.int (0 : Int32)), .unset] []))
  refine own_st (fun t k => XS.iconst X4.here hx rfl (hb hby d10_17) k) ?_
  show own_Go p e below G (T4.setTop (mkF m 18 #[.val (.ref po), .val (.ref fn), .val (.ref b2), .val (.ref b4), .val (.int (0 : Int32)), .unset] [(.int (0 : Int32))]))
  refine own_st (fun t k => XS.istore X4.here hx rfl (hb hby d10_18) rfl (l' := #[.val (.ref po), .val (.ref fn), .val (.ref b2), .val (.ref b4), .val (.int (0 : Int32)), .val (.int (0 : Int32))]) rfl k) ?_
  show own_Go p e below G (T4.setTop (mkF m 20 #[.val (.ref po), .val (.ref fn), .val (.ref b2), .val (.ref b4), .val (.int (0 : Int32)), .val (.int (0 : Int32))] []))
  have J4 : ∀ (nn x0 x1 x2 x3 y0 y1 y2 y3 : Int32) (Tj : State) (hj : Heap) (Lj : List Loc), Stand p l e ({ frames := 3, cells := 5, slots := 18, locals := 60 } : Room) s m #[(.ref po), (.ref fn)] below meth c Tj Lj 2 8 → Tj.heap = hj → Fr n0 Lj → n0 ≤ hj.size → Keep h0 hj [] → Exa Z hj po "com/example/thinleaf/thinleaf/core/index/Postings" → Fld Z hj po "com/example/thinleaf/thinleaf/core/index/Postings" "documents" "[I" (.ref da) → Fld Z hj po "com/example/thinleaf/thinleaf/core/index/Postings" "frequencies" "[I" (.ref fa) → Arv Z hj da kd .int (4 : Int32) [(.int (0 : Int32)), (.int (1 : Int32)), (.int (2 : Int32)), (.int (3 : Int32))] (.int (0 : Int32)) → Arv Z hj fa kf .int (4 : Int32) [(.int (1 : Int32)), (.int (1 : Int32)), (.int (1 : Int32)), (.int (1 : Int32))] (.int (0 : Int32)) → own_Fn hj fn cK rr da → Exa Z hj rr "com/example/thinleaf/thinleaf/prune/DocumentCut$1" → Fld Z hj rr "com/example/thinleaf/thinleaf/prune/DocumentCut$1" "this$0" "Lcom/example/thinleaf/thinleaf/prune/DocumentCut;" (.ref cut) → Fld Z hj cut "com/example/thinleaf/thinleaf/prune/DocumentCut" "goes" "[Z" (.ref gz) → Arv Z hj gz kg .boolean (4 : Int32) [(.int g0), (.int g1), (.int g2), (.int g3)] (.int (0 : Int32)) → Arv Z hj b2 k2 .int (4 : Int32) [(.int x0), (.int x1), (.int x2), (.int x3)] (.int (0 : Int32)) → Exa Z hj b2 "[I" → Arv Z hj b4 k4 .int (4 : Int32) [(.int y0), (.int y1), (.int y2), (.int y3)] (.int (0 : Int32)) → Exa Z hj b4 "[I" → 0 ≤ nn.toInt → nn.toInt ≤ 4 → (nn, x0, x1, x2, x3) = (own_stp g3 3 (own_stp g2 2 (own_stp g1 1 (own_stp g0 0 ((0 : Int32), (0 : Int32), (0 : Int32), (0 : Int32), (0 : Int32)))))) → own_Go p e below G (Tj.setTop (mkF m 20 #[.val (.ref po), .val (.ref fn), .val (.ref b2), .val (.ref b4), .val (.int nn), .val (.int (4 : Int32))] [])) := by
    intro nn x0 x1 x2 x3 y0 y1 y2 y3 Tj hj Lj Xj ej N0 Z0 K0 E_po F_d F_f V_da V_fa FN E_rr F_th F_go V_gz V_b2 Ex_b2 V_b4 Ex_b4 hn0 hni hst
    show own_Go p e below G (Tj.setTop (mkF m 20 #[.val (.ref po), .val (.ref fn), .val (.ref b2), .val (.ref b4), .val (.int nn), .val (.int (4 : Int32))] []))
    refine own_st (fun t k => XS.iload Xj.here hx rfl (hb hby d10_20) rfl  k) ?_
    show own_Go p e below G (Tj.setTop (mkF m 22 #[.val (.ref po), .val (.ref fn), .val (.ref b2), .val (.ref b4), .val (.int nn), .val (.int (4 : Int32))] [(.int (4 : Int32))]))
    refine own_st (fun t k => XS.aloadN Xj.here hx rfl (hb hby d10_22) rfl rfl  k) ?_
    show own_Go p e below G (Tj.setTop (mkF m 23 #[.val (.ref po), .val (.ref fn), .val (.ref b2), .val (.ref b4), .val (.int nn), .val (.int (4 : Int32))] [(.ref po), (.int (4 : Int32))]))
    obtain ⟨v5, T5, L5, X5, Q5, st5⟩ := own_callV Xj hx hZ (y := (⟨"com/example/thinleaf/thinleaf/core/index/Postings", "size", "()I"⟩ : MethodName)) (z := (⟨"com/example/thinleaf/thinleaf/core/index/Postings", "size", "()I"⟩ : MethodName)) hown (hw _ (List.mem_of_getElem? (i := 78) rfl)) (hw _ (List.mem_of_getElem? (i := 79) rfl)) (notFace_of_selects (args := #[]) (mvT hZ (hw _ (List.mem_of_getElem? (i := 81) rfl)))) (hw _ (List.mem_of_getElem? (i := 81) rfl)) (hw _ (List.mem_of_getElem? (i := 80) rfl)) (hw _ (List.mem_of_getElem? (i := 41) rfl)) (hw _ (List.mem_of_getElem? (i := 82) rfl)) (by decide) (W := 1) (rm6 l Z a0 hw po da kd _ _ hj F_d V_da) (by decide) (by decide) ej E_po (g := (mkF m 23 #[.val (.ref po), .val (.ref fn), .val (.ref b2), .val (.ref b4), .val (.int nn), .val (.int (4 : Int32))] [(.ref po), (.int (4 : Int32))])) rfl (by rw [hml]; rfl) (argsL := []) (rest := [(.int (4 : Int32))]) own_pd2 rfl rfl (by show 2 * 0 + _ ≤ _; exact Nat.le_of_eq rfl) (hb hby d10_23) rfl (by decide) (by decide)
    obtain ⟨rfl, rfl, e5⟩ := Q5
    simp only [List.append_nil, Nat.add_zero] at X5
    refine own_st st5 ?_
    show own_Go p e below G (T5.setTop (mkF m 26 #[.val (.ref po), .val (.ref fn), .val (.ref b2), .val (.ref b4), .val (.int nn), .val (.int (4 : Int32))] [(.int (4 : Int32)), (.int (4 : Int32))]))
    refine own_st (fun t k => XS.icmpYes X5.here hx rfl (pc0 := 26) (pc' := 71) rfl (hb hby d10_26) rfl (flt (by decide)).2.1 (by decide) (by decide) k) ?_
    show own_Go p e below G (T5.setTop (mkF m 71 #[.val (.ref po), .val (.ref fn), .val (.ref b2), .val (.ref b4), .val (.int nn), .val (.int (4 : Int32))] []))
    obtain ⟨T6, h6, X6, e6, E6, A6, D6, -, st6⟩ := newO X5 hx hZ hown (hw _ (List.mem_of_getElem? (i := 90) rfl)) (hw _ (List.mem_of_getElem? (i := 40) rfl)) (hw _ (List.mem_of_getElem? (i := 41) rfl)) e5 (g := (mkF m 71 #[.val (.ref po), .val (.ref fn), .val (.ref b2), .val (.ref b4), .val (.int nn), .val (.int (4 : Int32))] [])) rfl (hb hby d10_71) (by decide) (by decide)
    obtain ⟨b6, gb6⟩ : ∃ z, z = hj.size := ⟨_, rfl⟩
    rw [← gb6] at A6 D6 st6
    have g_b6 : n0 ≤ b6 := Nat.le_trans Z0 (Nat.le_of_eq gb6.symm)
    have ne_b2_b6 : b2 ≠ b6 := Nat.ne_of_lt (Nat.lt_of_lt_of_le V_b2.lt (Nat.le_of_eq gb6.symm))
    have ne_b4_b6 : b4 ≠ b6 := Nat.ne_of_lt (Nat.lt_of_lt_of_le V_b4.lt (Nat.le_of_eq gb6.symm))
    replace Z0 := Nat.le_trans Z0 E6.1
    replace V_b2 := V_b2.ext E6
    replace Ex_b2 := Ex_b2.ext E6
    replace V_b4 := V_b4.ext E6
    replace Ex_b4 := Ex_b4.ext E6
    have E_b6 := A6
    have F_documents_b6 : Fld Z h6 b6 "com/example/thinleaf/thinleaf/core/index/Postings" "documents" "[I" .null := D6 (Or.inr (hw _ (List.mem_of_getElem? (i := 52) rfl))) (ty := (.array .int)) (by decide)
    have F_frequencies_b6 : Fld Z h6 b6 "com/example/thinleaf/thinleaf/core/index/Postings" "frequencies" "[I" .null := D6 (Or.inr (hw _ (List.mem_of_getElem? (i := 54) rfl))) (ty := (.array .int)) (by decide)
    have ge_b6 : h0.size ≤ b6 := Nat.le_trans K0.1 (Nat.le_of_eq gb6.symm)
    replace K0 := K0.ext E6
    refine own_st st6 ?_
    show own_Go p e below G (T6.setTop (mkF m 74 #[.val (.ref po), .val (.ref fn), .val (.ref b2), .val (.ref b4), .val (.int nn), .val (.int (4 : Int32))] [(.ref b6)]))
    refine own_st (fun t k => XS.dup X6.here hx rfl (hb hby d10_74) rfl rfl k) ?_
    show own_Go p e below G (T6.setTop (mkF m 75 #[.val (.ref po), .val (.ref fn), .val (.ref b2), .val (.ref b4), .val (.int nn), .val (.int (4 : Int32))] [(.ref b6), (.ref b6)]))
    refine own_st (fun t k => XS.aloadN X6.here hx rfl (hb hby d10_75) rfl rfl  k) ?_
    show own_Go p e below G (T6.setTop (mkF m 76 #[.val (.ref po), .val (.ref fn), .val (.ref b2), .val (.ref b4), .val (.int nn), .val (.int (4 : Int32))] [(.ref b2), (.ref b6), (.ref b6)]))
    refine own_st (fun t k => XS.iload X6.here hx rfl (hb hby d10_76) rfl  k) ?_
    show own_Go p e below G (T6.setTop (mkF m 78 #[.val (.ref po), .val (.ref fn), .val (.ref b2), .val (.ref b4), .val (.int nn), .val (.int (4 : Int32))] [(.int nn), (.ref b2), (.ref b6), (.ref b6)]))
    obtain ⟨T7, h7, k7, X7, e7, E7, A7, st7⟩ := own_copyI hw X6 hx hZ hown (hw _ (List.mem_of_getElem? (i := 91) rfl)) e6 V_b2 Ex_b2 hn0 hni (g := (mkF m 78 #[.val (.ref po), .val (.ref fn), .val (.ref b2), .val (.ref b4), .val (.int nn), .val (.int (4 : Int32))] [(.int nn), (.ref b2), (.ref b6), (.ref b6)])) rfl (by rw [hml]; rfl) rfl (W := 2) (by show 2 * 0 + _ ≤ _; exact Nat.le_of_eq rfl) (hb hby d10_78) (by decide) (by decide) (by decide) (by decide)
    obtain ⟨b7, gb7⟩ : ∃ z, z = h6.size := ⟨_, rfl⟩
    rw [← gb7] at A7 st7
    have g_b7 : n0 ≤ b7 := Nat.le_trans Z0 (Nat.le_of_eq gb7.symm)
    have ne_b2_b7 : b2 ≠ b7 := Nat.ne_of_lt (Nat.lt_of_lt_of_le V_b2.lt (Nat.le_of_eq gb7.symm))
    have ne_b4_b7 : b4 ≠ b7 := Nat.ne_of_lt (Nat.lt_of_lt_of_le V_b4.lt (Nat.le_of_eq gb7.symm))
    have ne_b6_b7 : b6 ≠ b7 := Nat.ne_of_lt (Nat.lt_of_lt_of_le E_b6.lt (Nat.le_of_eq gb7.symm))
    replace Z0 := Nat.le_trans Z0 E7.1
    replace V_b2 := V_b2.ext E7
    replace Ex_b2 := Ex_b2.ext E7
    replace V_b4 := V_b4.ext E7
    replace Ex_b4 := Ex_b4.ext E7
    replace E_b6 := E_b6.ext E7
    replace F_documents_b6 := F_documents_b6.ext E7
    replace F_frequencies_b6 := F_frequencies_b6.ext E7
    have V_b7 := A7
    have ge_b7 : h0.size ≤ b7 := Nat.le_trans K0.1 (Nat.le_of_eq gb7.symm)
    replace K0 := K0.ext E7
    refine own_st st7 ?_
    show own_Go p e below G (T7.setTop (mkF m 81 #[.val (.ref po), .val (.ref fn), .val (.ref b2), .val (.ref b4), .val (.int nn), .val (.int (4 : Int32))] [(.ref b7), (.ref b6), (.ref b6)]))
    refine own_st (fun t k => XS.aloadN X7.here hx rfl (hb hby d10_81) rfl rfl  k) ?_
    show own_Go p e below G (T7.setTop (mkF m 82 #[.val (.ref po), .val (.ref fn), .val (.ref b2), .val (.ref b4), .val (.int nn), .val (.int (4 : Int32))] [(.ref b4), (.ref b7), (.ref b6), (.ref b6)]))
    refine own_st (fun t k => XS.iload X7.here hx rfl (hb hby d10_82) rfl  k) ?_
    show own_Go p e below G (T7.setTop (mkF m 84 #[.val (.ref po), .val (.ref fn), .val (.ref b2), .val (.ref b4), .val (.int nn), .val (.int (4 : Int32))] [(.int nn), (.ref b4), (.ref b7), (.ref b6), (.ref b6)]))
    obtain ⟨T8, h8, k8, X8, e8, E8, A8, st8⟩ := own_copyI hw X7 hx hZ hown (hw _ (List.mem_of_getElem? (i := 91) rfl)) e7 V_b4 Ex_b4 hn0 hni (g := (mkF m 84 #[.val (.ref po), .val (.ref fn), .val (.ref b2), .val (.ref b4), .val (.int nn), .val (.int (4 : Int32))] [(.int nn), (.ref b4), (.ref b7), (.ref b6), (.ref b6)])) rfl (by rw [hml]; rfl) rfl (W := 3) (by show 2 * 0 + _ ≤ _; exact Nat.le_of_eq rfl) (hb hby d10_84) (by decide) (by decide) (by decide) (by decide)
    obtain ⟨b8, gb8⟩ : ∃ z, z = h7.size := ⟨_, rfl⟩
    rw [← gb8] at A8 st8
    have g_b8 : n0 ≤ b8 := Nat.le_trans Z0 (Nat.le_of_eq gb8.symm)
    have ne_b2_b8 : b2 ≠ b8 := Nat.ne_of_lt (Nat.lt_of_lt_of_le V_b2.lt (Nat.le_of_eq gb8.symm))
    have ne_b4_b8 : b4 ≠ b8 := Nat.ne_of_lt (Nat.lt_of_lt_of_le V_b4.lt (Nat.le_of_eq gb8.symm))
    have ne_b6_b8 : b6 ≠ b8 := Nat.ne_of_lt (Nat.lt_of_lt_of_le E_b6.lt (Nat.le_of_eq gb8.symm))
    have ne_b7_b8 : b7 ≠ b8 := Nat.ne_of_lt (Nat.lt_of_lt_of_le V_b7.lt (Nat.le_of_eq gb8.symm))
    replace Z0 := Nat.le_trans Z0 E8.1
    replace V_b2 := V_b2.ext E8
    replace Ex_b2 := Ex_b2.ext E8
    replace V_b4 := V_b4.ext E8
    replace Ex_b4 := Ex_b4.ext E8
    replace E_b6 := E_b6.ext E8
    replace F_documents_b6 := F_documents_b6.ext E8
    replace F_frequencies_b6 := F_frequencies_b6.ext E8
    replace V_b7 := V_b7.ext E8
    have V_b8 := A8
    have ge_b8 : h0.size ≤ b8 := Nat.le_trans K0.1 (Nat.le_of_eq gb8.symm)
    replace K0 := K0.ext E8
    refine own_st st8 ?_
    show own_Go p e below G (T8.setTop (mkF m 87 #[.val (.ref po), .val (.ref fn), .val (.ref b2), .val (.ref b4), .val (.int nn), .val (.int (4 : Int32))] [(.ref b8), (.ref b7), (.ref b6), (.ref b6)]))
    obtain ⟨v9, T9, L9, X9, Q9, st9⟩ := own_callC X8 hx hZ (y := (⟨"com/example/thinleaf/thinleaf/core/index/Postings", "<init>", "([I[I)V"⟩ : MethodName)) rfl hown (hw _ (List.mem_of_getElem? (i := 104) rfl)) (hw _ (List.mem_of_getElem? (i := 43) rfl)) (hw _ (List.mem_of_getElem? (i := 41) rfl)) (hw _ (List.mem_of_getElem? (i := 44) rfl)) (by decide) (W := 1) (rm4 l Z a0 hw b6 b7 b8 h8 n0 Z0 g_b6 E_b6 F_documents_b6 F_frequencies_b6) (by decide) (by decide) e8 (g := (mkF m 87 #[.val (.ref po), .val (.ref fn), .val (.ref b2), .val (.ref b4), .val (.int nn), .val (.int (4 : Int32))] [(.ref b8), (.ref b7), (.ref b6), (.ref b6)])) rfl (by rw [hml]; rfl) (a := b6) (argsL := [(.ref b7), (.ref b8)]) (rest := [(.ref b6)]) own_pd3 rfl rfl (by show 2 * 0 + _ ≤ _; exact Nat.le_of_eq rfl) (hb hby d10_87) rfl (by decide) (by decide)
    obtain ⟨rfl, Nq, Kq, Eq, Fq, -⟩ := Q9
    replace N0 := Fr.app N0 Nq
    replace V_b7 := V_b7.keep Kq (ninS (Ne.symm ne_b6_b7) nin0)
    replace K0 := K0.trans Kq (fun x hx => by cases List.mem_singleton.mp hx; exact Or.inr ge_b6)
    refine own_st st9 ?_
    show own_Go p e below G (T9.setTop (mkF m 90 #[.val (.ref po), .val (.ref fn), .val (.ref b2), .val (.ref b4), .val (.int nn), .val (.int (4 : Int32))] [(.ref b6)]))
    rw [hG]
    exact own_retA X9 hx hlk hret rfl rfl (hb hby d10_90) ⟨b6, b7, k7, nn, x0, x1, x2, x3, rfl, N0, K0, ge_b6, ge_b7, Eq, Fq, V_b7, hst⟩ (by decide) (by decide)
  have J3 : ∀ (nn x0 x1 x2 x3 y0 y1 y2 y3 : Int32) (Tj : State) (hj : Heap) (Lj : List Loc), Stand p l e ({ frames := 3, cells := 5, slots := 18, locals := 60 } : Room) s m #[(.ref po), (.ref fn)] below meth c Tj Lj 2 8 → Tj.heap = hj → Fr n0 Lj → n0 ≤ hj.size → Keep h0 hj [] → Exa Z hj po "com/example/thinleaf/thinleaf/core/index/Postings" → Fld Z hj po "com/example/thinleaf/thinleaf/core/index/Postings" "documents" "[I" (.ref da) → Fld Z hj po "com/example/thinleaf/thinleaf/core/index/Postings" "frequencies" "[I" (.ref fa) → Arv Z hj da kd .int (4 : Int32) [(.int (0 : Int32)), (.int (1 : Int32)), (.int (2 : Int32)), (.int (3 : Int32))] (.int (0 : Int32)) → Arv Z hj fa kf .int (4 : Int32) [(.int (1 : Int32)), (.int (1 : Int32)), (.int (1 : Int32)), (.int (1 : Int32))] (.int (0 : Int32)) → own_Fn hj fn cK rr da → Exa Z hj rr "com/example/thinleaf/thinleaf/prune/DocumentCut$1" → Fld Z hj rr "com/example/thinleaf/thinleaf/prune/DocumentCut$1" "this$0" "Lcom/example/thinleaf/thinleaf/prune/DocumentCut;" (.ref cut) → Fld Z hj cut "com/example/thinleaf/thinleaf/prune/DocumentCut" "goes" "[Z" (.ref gz) → Arv Z hj gz kg .boolean (4 : Int32) [(.int g0), (.int g1), (.int g2), (.int g3)] (.int (0 : Int32)) → Arv Z hj b2 k2 .int (4 : Int32) [(.int x0), (.int x1), (.int x2), (.int x3)] (.int (0 : Int32)) → Exa Z hj b2 "[I" → Arv Z hj b4 k4 .int (4 : Int32) [(.int y0), (.int y1), (.int y2), (.int y3)] (.int (0 : Int32)) → Exa Z hj b4 "[I" → 0 ≤ nn.toInt → nn.toInt ≤ 3 → (nn, x0, x1, x2, x3) = (own_stp g2 2 (own_stp g1 1 (own_stp g0 0 ((0 : Int32), (0 : Int32), (0 : Int32), (0 : Int32), (0 : Int32))))) → own_Go p e below G (Tj.setTop (mkF m 20 #[.val (.ref po), .val (.ref fn), .val (.ref b2), .val (.ref b4), .val (.int nn), .val (.int (3 : Int32))] [])) := by
    intro nn x0 x1 x2 x3 y0 y1 y2 y3 Tj hj Lj Xj ej N0 Z0 K0 E_po F_d F_f V_da V_fa FN E_rr F_th F_go V_gz V_b2 Ex_b2 V_b4 Ex_b4 hn0 hni hst
    show own_Go p e below G (Tj.setTop (mkF m 20 #[.val (.ref po), .val (.ref fn), .val (.ref b2), .val (.ref b4), .val (.int nn), .val (.int (3 : Int32))] []))
    refine own_st (fun t k => XS.iload Xj.here hx rfl (hb hby d10_20) rfl  k) ?_
    show own_Go p e below G (Tj.setTop (mkF m 22 #[.val (.ref po), .val (.ref fn), .val (.ref b2), .val (.ref b4), .val (.int nn), .val (.int (3 : Int32))] [(.int (3 : Int32))]))
    refine own_st (fun t k => XS.aloadN Xj.here hx rfl (hb hby d10_22) rfl rfl  k) ?_
    show own_Go p e below G (Tj.setTop (mkF m 23 #[.val (.ref po), .val (.ref fn), .val (.ref b2), .val (.ref b4), .val (.int nn), .val (.int (3 : Int32))] [(.ref po), (.int (3 : Int32))]))
    obtain ⟨v10, T10, L10, X10, Q10, st10⟩ := own_callV Xj hx hZ (y := (⟨"com/example/thinleaf/thinleaf/core/index/Postings", "size", "()I"⟩ : MethodName)) (z := (⟨"com/example/thinleaf/thinleaf/core/index/Postings", "size", "()I"⟩ : MethodName)) hown (hw _ (List.mem_of_getElem? (i := 78) rfl)) (hw _ (List.mem_of_getElem? (i := 79) rfl)) (notFace_of_selects (args := #[]) (mvT hZ (hw _ (List.mem_of_getElem? (i := 81) rfl)))) (hw _ (List.mem_of_getElem? (i := 81) rfl)) (hw _ (List.mem_of_getElem? (i := 80) rfl)) (hw _ (List.mem_of_getElem? (i := 41) rfl)) (hw _ (List.mem_of_getElem? (i := 82) rfl)) (by decide) (W := 1) (rm6 l Z a0 hw po da kd _ _ hj F_d V_da) (by decide) (by decide) ej E_po (g := (mkF m 23 #[.val (.ref po), .val (.ref fn), .val (.ref b2), .val (.ref b4), .val (.int nn), .val (.int (3 : Int32))] [(.ref po), (.int (3 : Int32))])) rfl (by rw [hml]; rfl) (argsL := []) (rest := [(.int (3 : Int32))]) own_pd2 rfl rfl (by show 2 * 0 + _ ≤ _; exact Nat.le_of_eq rfl) (hb hby d10_23) rfl (by decide) (by decide)
    obtain ⟨rfl, rfl, e10⟩ := Q10
    simp only [List.append_nil, Nat.add_zero] at X10
    refine own_st st10 ?_
    show own_Go p e below G (T10.setTop (mkF m 26 #[.val (.ref po), .val (.ref fn), .val (.ref b2), .val (.ref b4), .val (.int nn), .val (.int (3 : Int32))] [(.int (4 : Int32)), (.int (3 : Int32))]))
    refine own_st (fun t k => XS.icmpNo X10.here hx rfl (hb hby d10_26) rfl (tlt (by decide)).2.1 k) ?_
    show own_Go p e below G (T10.setTop (mkF m 29 #[.val (.ref po), .val (.ref fn), .val (.ref b2), .val (.ref b4), .val (.int nn), .val (.int (3 : Int32))] []))
    refine own_st (fun t k => XS.aloadN X10.here hx rfl (hb hby d10_29) rfl rfl  k) ?_
    show own_Go p e below G (T10.setTop (mkF m 30 #[.val (.ref po), .val (.ref fn), .val (.ref b2), .val (.ref b4), .val (.int nn), .val (.int (3 : Int32))] [(.ref fn)]))
    refine own_st (fun t k => XS.iload X10.here hx rfl (hb hby d10_30) rfl  k) ?_
    show own_Go p e below G (T10.setTop (mkF m 32 #[.val (.ref po), .val (.ref fn), .val (.ref b2), .val (.ref b4), .val (.int nn), .val (.int (3 : Int32))] [(.int (3 : Int32)), (.ref fn)]))
    have FNc := FN
    obtain ⟨cf11, Fa11, Fb11, Fc11, Fd11, Fe11⟩ := FNc
    obtain ⟨T11, X11, e11, st11⟩ := own_callF X10 hx hZ hY (xi := (⟨"java/util/function/IntPredicate", "test", "(I)Z"⟩ : MethodName)) (y := (⟨"com/example/thinleaf/thinleaf/prune/DocumentCut$1", "lambda$keep$0", "([II)Z"⟩ : MethodName)) (σ := own_sg) hown (hw _ (List.mem_of_getElem? (i := 83) rfl)) (hw _ (List.mem_of_getElem? (i := 84) rfl)) (mvT hZ (hw _ (List.mem_of_getElem? (i := 85) rfl))) (hw _ (List.mem_of_getElem? (i := 86) rfl)) (hw _ (List.mem_of_getElem? (i := 87) rfl)) (hw _ (List.mem_of_getElem? (i := 29) rfl)) (hw _ (List.mem_of_getElem? (i := 30) rfl)) (hw _ (List.mem_of_getElem? (i := 88) rfl)) (hw _ (List.mem_of_getElem? (i := 72) rfl)) own_xi own_yy (by decide) hmd own_ok own_c0 own_c1 Fa11 Fb11 Fc11 Fd11 Fe11 E_rr (rm9 l Z a0 hw rr da cut gz kd kg (3 : Int32) g3 g0 g1 g2 g3 hj F_th F_go V_da V_gz ⟨by decide, by decide⟩ rfl rfl) (own_nt2 _) own_pd4 rfl own_pd5 rfl e10 (g := (mkF m 32 #[.val (.ref po), .val (.ref fn), .val (.ref b2), .val (.ref b4), .val (.int nn), .val (.int (3 : Int32))] [(.int (3 : Int32)), (.ref fn)])) rfl (by rw [hml]; rfl) rfl (hb hby d10_32) (by decide) (by show 2 * 0 + 0 + (2 + 11) + ((3 + 11) + 0) ≤ 60; decide) (by decide) (by decide)
    simp only [Nat.add_zero] at X11
    refine own_st st11 ?_
    show own_Go p e below G (T11.setTop (mkF m 37 #[.val (.ref po), .val (.ref fn), .val (.ref b2), .val (.ref b4), .val (.int nn), .val (.int (3 : Int32))] [(.int (own_nt g3))]))
    by_cases c37_12 : (own_nt g3) = (0 : Int32)
    · skip
      refine own_st (fun t k => XS.ifYes X11.here hx rfl (pc0 := 37) (pc' := 65) rfl (hb hby d10_37) rfl ((if0 _ _).trans (teq c37_12).1) (by decide) (by decide) k) ?_
      show own_Go p e below G (T11.setTop (mkF m 65 #[.val (.ref po), .val (.ref fn), .val (.ref b2), .val (.ref b4), .val (.int nn), .val (.int (3 : Int32))] []))
      refine own_st (fun t k => XS.iinc X11.here hx rfl (hb hby d10_65) rfl (l' := #[.val (.ref po), .val (.ref fn), .val (.ref b2), .val (.ref b4), .val (.int nn), .val (.int (4 : Int32))]) rfl k) ?_
      show own_Go p e below G (T11.setTop (mkF m 68 #[.val (.ref po), .val (.ref fn), .val (.ref b2), .val (.ref b4), .val (.int nn), .val (.int (4 : Int32))] []))
      refine own_st (fun t k => XS.goto X11.here hx rfl (pc0 := 68) (pc' := 20) rfl (hb hby d10_68) (by decide) (by decide) k) ?_
      show own_Go p e below G (T11.setTop (mkF m 20 #[.val (.ref po), .val (.ref fn), .val (.ref b2), .val (.ref b4), .val (.int nn), .val (.int (4 : Int32))] []))
      exact J4 nn x0 x1 x2 x3 y0 y1 y2 y3 _ _ _ X11 e11 N0 Z0 K0 E_po F_d F_f V_da V_fa FN E_rr F_th F_go V_gz V_b2 Ex_b2 V_b4 Ex_b4 hn0 (Int.le_trans hni (by decide)) (by rw [← hst]; exact (if_neg (own_nt1 c37_12)).symm)
    · skip
      refine own_st (fun t k => XS.ifNo X11.here hx rfl (hb hby d10_37) rfl ((if0 _ _).trans (feq c37_12).1) k) ?_
      show own_Go p e below G (T11.setTop (mkF m 40 #[.val (.ref po), .val (.ref fn), .val (.ref b2), .val (.ref b4), .val (.int nn), .val (.int (3 : Int32))] []))
      refine own_st (fun t k => XS.aloadN X11.here hx rfl (hb hby d10_40) rfl rfl  k) ?_
      show own_Go p e below G (T11.setTop (mkF m 41 #[.val (.ref po), .val (.ref fn), .val (.ref b2), .val (.ref b4), .val (.int nn), .val (.int (3 : Int32))] [(.ref b2)]))
      refine own_st (fun t k => XS.iload X11.here hx rfl (hb hby d10_41) rfl  k) ?_
      show own_Go p e below G (T11.setTop (mkF m 43 #[.val (.ref po), .val (.ref fn), .val (.ref b2), .val (.ref b4), .val (.int nn), .val (.int (3 : Int32))] [(.int nn), (.ref b2)]))
      refine own_st (fun t k => XS.aloadN X11.here hx rfl (hb hby d10_43) rfl rfl  k) ?_
      show own_Go p e below G (T11.setTop (mkF m 44 #[.val (.ref po), .val (.ref fn), .val (.ref b2), .val (.ref b4), .val (.int nn), .val (.int (3 : Int32))] [(.ref po), (.int nn), (.ref b2)]))
      obtain ⟨T13, X13, e13, st13⟩ := getF X11 hx hZ hown (host := "") (Or.inl (hw _ (List.mem_of_getElem? (i := 51) rfl))) Via.refl e11 F_d (g := (mkF m 44 #[.val (.ref po), .val (.ref fn), .val (.ref b2), .val (.ref b4), .val (.int nn), .val (.int (3 : Int32))] [(.ref po), (.int nn), (.ref b2)])) rfl rfl (hb hby d10_44)
      refine own_st st13 ?_
      show own_Go p e below G (T13.setTop (mkF m 47 #[.val (.ref po), .val (.ref fn), .val (.ref b2), .val (.ref b4), .val (.int nn), .val (.int (3 : Int32))] [(.ref da), (.int nn), (.ref b2)]))
      refine own_st (fun t k => XS.iload X13.here hx rfl (hb hby d10_47) rfl  k) ?_
      show own_Go p e below G (T13.setTop (mkF m 49 #[.val (.ref po), .val (.ref fn), .val (.ref b2), .val (.ref b4), .val (.int nn), .val (.int (3 : Int32))] [(.int (3 : Int32)), (.ref da), (.int nn), (.ref b2)]))
      have Vc14 := V_da
      obtain ⟨cl14, Ar14, -, Sa14, -, Ha14, -⟩ := Vc14
      have hin14 : ¬ ((3 : Int32) < 0 ∨ cl14.slots.size ≤ ((3 : Int32)).toNatClampNeg) := inb_of Sa14 ⟨by decide, by decide⟩
      refine own_st (fun t k => X13.iaload hx (j := (3 : Int32)) (v := (.int (3 : Int32))) (by rw [e13]; exact Ar14.1) (State.isArrayOf_alike hZ.alike Ar14.2.1) Ar14.2.2 hin14 (Ha14.at hin14 rfl) (g := (mkF m 49 #[.val (.ref po), .val (.ref fn), .val (.ref b2), .val (.ref b4), .val (.int nn), .val (.int (3 : Int32))] [(.int (3 : Int32)), (.ref da), (.int nn), (.ref b2)])) rfl rfl (hb hby d10_49) t k) ?_
      show own_Go p e below G (T13.setTop (mkF m 50 #[.val (.ref po), .val (.ref fn), .val (.ref b2), .val (.ref b4), .val (.int nn), .val (.int (3 : Int32))] [(.int (3 : Int32)), (.int nn), (.ref b2)]))
      obtain ⟨cl15, Ar15, qa15, Sa15, Na15, Ha15, Ga15⟩ := V_b2
      have hin15 : ¬ (nn < 0 ∨ cl15.slots.size ≤ (nn).toNatClampNeg) := inb_of Sa15 (own_bd4 ⟨hn0, Int.lt_of_le_of_lt hni (by decide)⟩)
      obtain ⟨T15, h15, X15, e15, W15, st15⟩ := stI X13 hx hZ e13 Ar15 (j := nn) hin15 (g := (mkF m 50 #[.val (.ref po), .val (.ref fn), .val (.ref b2), .val (.ref b4), .val (.int nn), .val (.int (3 : Int32))] [(.int (3 : Int32)), (.int nn), (.ref b2)])) rfl rfl (hb hby d10_50)
      have V_b2 : Arv Z h15 b2 k2 .int (4 : Int32) [(.int (own_sl nn 0 (3 : Int32) x0)), (.int (own_sl nn 1 (3 : Int32) x1)), (.int (own_sl nn 2 (3 : Int32) x2)), (.int (own_sl nn 3 (3 : Int32) x3))] (.int (0 : Int32)) := by
        have q := Arv.set Ar15 qa15 Sa15 Na15 Ha15 Ga15 rfl W15 _ rfl (own_lt4 ⟨hn0, Int.lt_of_le_of_lt hni (by decide)⟩)
        rw [own_set4 ⟨hn0, Int.lt_of_le_of_lt hni (by decide)⟩] at q
        exact q
      replace E_po := E_po.wr W15
      replace F_d := F_d.other W15 (Or.inl ne_po_b2)
      replace F_f := F_f.other W15 (Or.inl ne_po_b2)
      replace V_da := V_da.other W15 ne_da_b2
      replace V_fa := V_fa.other W15 ne_fa_b2
      replace FN := FN.other W15 ne_fn_b2
      replace E_rr := E_rr.wr W15
      replace F_th := F_th.other W15 (Or.inl ne_rr_b2)
      replace F_go := F_go.other W15 (Or.inl ne_cut_b2)
      replace V_gz := V_gz.other W15 ne_gz_b2
      replace Ex_b2 := Ex_b2.wr W15
      replace V_b4 := V_b4.other W15 (Ne.symm ne_b2_b4)
      replace Ex_b4 := Ex_b4.wr W15
      replace Z0 := Nat.le_trans Z0 (Keep.of_wr W15).1
      replace N0 := Fr.snoc X15 N0 g_b2
      replace K0 := K0.wr W15 (Or.inr ge_b2)
      refine own_st st15 ?_
      show own_Go p e below G (T15.setTop (mkF m 51 #[.val (.ref po), .val (.ref fn), .val (.ref b2), .val (.ref b4), .val (.int nn), .val (.int (3 : Int32))] []))
      refine own_st (fun t k => XS.aloadN X15.here hx rfl (hb hby d10_51) rfl rfl  k) ?_
      show own_Go p e below G (T15.setTop (mkF m 52 #[.val (.ref po), .val (.ref fn), .val (.ref b2), .val (.ref b4), .val (.int nn), .val (.int (3 : Int32))] [(.ref b4)]))
      refine own_st (fun t k => XS.iload X15.here hx rfl (hb hby d10_52) rfl  k) ?_
      show own_Go p e below G (T15.setTop (mkF m 54 #[.val (.ref po), .val (.ref fn), .val (.ref b2), .val (.ref b4), .val (.int nn), .val (.int (3 : Int32))] [(.int nn), (.ref b4)]))
      refine own_st (fun t k => XS.aloadN X15.here hx rfl (hb hby d10_54) rfl rfl  k) ?_
      show own_Go p e below G (T15.setTop (mkF m 55 #[.val (.ref po), .val (.ref fn), .val (.ref b2), .val (.ref b4), .val (.int nn), .val (.int (3 : Int32))] [(.ref po), (.int nn), (.ref b4)]))
      obtain ⟨T16, X16, e16, st16⟩ := getF X15 hx hZ hown (host := "") (Or.inl (hw _ (List.mem_of_getElem? (i := 53) rfl))) Via.refl e15 F_f (g := (mkF m 55 #[.val (.ref po), .val (.ref fn), .val (.ref b2), .val (.ref b4), .val (.int nn), .val (.int (3 : Int32))] [(.ref po), (.int nn), (.ref b4)])) rfl rfl (hb hby d10_55)
      refine own_st st16 ?_
      show own_Go p e below G (T16.setTop (mkF m 58 #[.val (.ref po), .val (.ref fn), .val (.ref b2), .val (.ref b4), .val (.int nn), .val (.int (3 : Int32))] [(.ref fa), (.int nn), (.ref b4)]))
      refine own_st (fun t k => XS.iload X16.here hx rfl (hb hby d10_58) rfl  k) ?_
      show own_Go p e below G (T16.setTop (mkF m 60 #[.val (.ref po), .val (.ref fn), .val (.ref b2), .val (.ref b4), .val (.int nn), .val (.int (3 : Int32))] [(.int (3 : Int32)), (.ref fa), (.int nn), (.ref b4)]))
      have Vc17 := V_fa
      obtain ⟨cl17, Ar17, -, Sa17, -, Ha17, -⟩ := Vc17
      have hin17 : ¬ ((3 : Int32) < 0 ∨ cl17.slots.size ≤ ((3 : Int32)).toNatClampNeg) := inb_of Sa17 ⟨by decide, by decide⟩
      refine own_st (fun t k => X16.iaload hx (j := (3 : Int32)) (v := (.int (1 : Int32))) (by rw [e16]; exact Ar17.1) (State.isArrayOf_alike hZ.alike Ar17.2.1) Ar17.2.2 hin17 (Ha17.at hin17 rfl) (g := (mkF m 60 #[.val (.ref po), .val (.ref fn), .val (.ref b2), .val (.ref b4), .val (.int nn), .val (.int (3 : Int32))] [(.int (3 : Int32)), (.ref fa), (.int nn), (.ref b4)])) rfl rfl (hb hby d10_60) t k) ?_
      show own_Go p e below G (T16.setTop (mkF m 61 #[.val (.ref po), .val (.ref fn), .val (.ref b2), .val (.ref b4), .val (.int nn), .val (.int (3 : Int32))] [(.int (1 : Int32)), (.int nn), (.ref b4)]))
      obtain ⟨cl18, Ar18, qa18, Sa18, Na18, Ha18, Ga18⟩ := V_b4
      have hin18 : ¬ (nn < 0 ∨ cl18.slots.size ≤ (nn).toNatClampNeg) := inb_of Sa18 (own_bd4 ⟨hn0, Int.lt_of_le_of_lt hni (by decide)⟩)
      obtain ⟨T18, h18, X18, e18, W18, st18⟩ := stI X16 hx hZ e16 Ar18 (j := nn) hin18 (g := (mkF m 61 #[.val (.ref po), .val (.ref fn), .val (.ref b2), .val (.ref b4), .val (.int nn), .val (.int (3 : Int32))] [(.int (1 : Int32)), (.int nn), (.ref b4)])) rfl rfl (hb hby d10_61)
      have V_b4 : Arv Z h18 b4 k4 .int (4 : Int32) [(.int (own_sl nn 0 (1 : Int32) y0)), (.int (own_sl nn 1 (1 : Int32) y1)), (.int (own_sl nn 2 (1 : Int32) y2)), (.int (own_sl nn 3 (1 : Int32) y3))] (.int (0 : Int32)) := by
        have q := Arv.set Ar18 qa18 Sa18 Na18 Ha18 Ga18 rfl W18 _ rfl (own_lt4 ⟨hn0, Int.lt_of_le_of_lt hni (by decide)⟩)
        rw [own_set4 ⟨hn0, Int.lt_of_le_of_lt hni (by decide)⟩] at q
        exact q
      replace E_po := E_po.wr W18
      replace F_d := F_d.other W18 (Or.inl ne_po_b4)
      replace F_f := F_f.other W18 (Or.inl ne_po_b4)
      replace V_da := V_da.other W18 ne_da_b4
      replace V_fa := V_fa.other W18 ne_fa_b4
      replace FN := FN.other W18 ne_fn_b4
      replace E_rr := E_rr.wr W18
      replace F_th := F_th.other W18 (Or.inl ne_rr_b4)
      replace F_go := F_go.other W18 (Or.inl ne_cut_b4)
      replace V_gz := V_gz.other W18 ne_gz_b4
      replace V_b2 := V_b2.other W18 ne_b2_b4
      replace Ex_b2 := Ex_b2.wr W18
      replace Ex_b4 := Ex_b4.wr W18
      replace Z0 := Nat.le_trans Z0 (Keep.of_wr W18).1
      replace N0 := Fr.snoc X18 N0 g_b4
      replace K0 := K0.wr W18 (Or.inr ge_b4)
      refine own_st st18 ?_
      show own_Go p e below G (T18.setTop (mkF m 62 #[.val (.ref po), .val (.ref fn), .val (.ref b2), .val (.ref b4), .val (.int nn), .val (.int (3 : Int32))] []))
      refine own_st (fun t k => XS.iinc X18.here hx rfl (hb hby d10_62) rfl (l' := #[.val (.ref po), .val (.ref fn), .val (.ref b2), .val (.ref b4), .val (.int (nn + (1 : Int32))), .val (.int (3 : Int32))]) rfl k) ?_
      show own_Go p e below G (T18.setTop (mkF m 65 #[.val (.ref po), .val (.ref fn), .val (.ref b2), .val (.ref b4), .val (.int (nn + (1 : Int32))), .val (.int (3 : Int32))] []))
      refine own_st (fun t k => XS.iinc X18.here hx rfl (hb hby d10_65) rfl (l' := #[.val (.ref po), .val (.ref fn), .val (.ref b2), .val (.ref b4), .val (.int (nn + (1 : Int32))), .val (.int (4 : Int32))]) rfl k) ?_
      show own_Go p e below G (T18.setTop (mkF m 68 #[.val (.ref po), .val (.ref fn), .val (.ref b2), .val (.ref b4), .val (.int (nn + (1 : Int32))), .val (.int (4 : Int32))] []))
      refine own_st (fun t k => XS.goto X18.here hx rfl (pc0 := 68) (pc' := 20) rfl (hb hby d10_68) (by decide) (by decide) k) ?_
      show own_Go p e below G (T18.setTop (mkF m 20 #[.val (.ref po), .val (.ref fn), .val (.ref b2), .val (.ref b4), .val (.int (nn + (1 : Int32))), .val (.int (4 : Int32))] []))
      exact J4 (nn + (1 : Int32)) (own_sl nn 0 (3 : Int32) x0) (own_sl nn 1 (3 : Int32) x1) (own_sl nn 2 (3 : Int32) x2) (own_sl nn 3 (3 : Int32) x3) (own_sl nn 0 (1 : Int32) y0) (own_sl nn 1 (1 : Int32) y1) (own_sl nn 2 (1 : Int32) y2) (own_sl nn 3 (1 : Int32) y3) _ _ _ X18 e18 N0 Z0 K0 E_po F_d F_f V_da V_fa FN E_rr F_th F_go V_gz V_b2 Ex_b2 V_b4 Ex_b4 (by rw [own_inc hn0 (Int.lt_of_le_of_lt hni (by decide))]; omega) (by rw [own_inc hn0 (Int.lt_of_le_of_lt hni (by decide))]; omega) (by rw [← hst]; exact (if_pos (own_nt0 c37_12)).symm)
  have J2 : ∀ (nn x0 x1 x2 x3 y0 y1 y2 y3 : Int32) (Tj : State) (hj : Heap) (Lj : List Loc), Stand p l e ({ frames := 3, cells := 5, slots := 18, locals := 60 } : Room) s m #[(.ref po), (.ref fn)] below meth c Tj Lj 2 8 → Tj.heap = hj → Fr n0 Lj → n0 ≤ hj.size → Keep h0 hj [] → Exa Z hj po "com/example/thinleaf/thinleaf/core/index/Postings" → Fld Z hj po "com/example/thinleaf/thinleaf/core/index/Postings" "documents" "[I" (.ref da) → Fld Z hj po "com/example/thinleaf/thinleaf/core/index/Postings" "frequencies" "[I" (.ref fa) → Arv Z hj da kd .int (4 : Int32) [(.int (0 : Int32)), (.int (1 : Int32)), (.int (2 : Int32)), (.int (3 : Int32))] (.int (0 : Int32)) → Arv Z hj fa kf .int (4 : Int32) [(.int (1 : Int32)), (.int (1 : Int32)), (.int (1 : Int32)), (.int (1 : Int32))] (.int (0 : Int32)) → own_Fn hj fn cK rr da → Exa Z hj rr "com/example/thinleaf/thinleaf/prune/DocumentCut$1" → Fld Z hj rr "com/example/thinleaf/thinleaf/prune/DocumentCut$1" "this$0" "Lcom/example/thinleaf/thinleaf/prune/DocumentCut;" (.ref cut) → Fld Z hj cut "com/example/thinleaf/thinleaf/prune/DocumentCut" "goes" "[Z" (.ref gz) → Arv Z hj gz kg .boolean (4 : Int32) [(.int g0), (.int g1), (.int g2), (.int g3)] (.int (0 : Int32)) → Arv Z hj b2 k2 .int (4 : Int32) [(.int x0), (.int x1), (.int x2), (.int x3)] (.int (0 : Int32)) → Exa Z hj b2 "[I" → Arv Z hj b4 k4 .int (4 : Int32) [(.int y0), (.int y1), (.int y2), (.int y3)] (.int (0 : Int32)) → Exa Z hj b4 "[I" → 0 ≤ nn.toInt → nn.toInt ≤ 2 → (nn, x0, x1, x2, x3) = (own_stp g1 1 (own_stp g0 0 ((0 : Int32), (0 : Int32), (0 : Int32), (0 : Int32), (0 : Int32)))) → own_Go p e below G (Tj.setTop (mkF m 20 #[.val (.ref po), .val (.ref fn), .val (.ref b2), .val (.ref b4), .val (.int nn), .val (.int (2 : Int32))] [])) := by
    intro nn x0 x1 x2 x3 y0 y1 y2 y3 Tj hj Lj Xj ej N0 Z0 K0 E_po F_d F_f V_da V_fa FN E_rr F_th F_go V_gz V_b2 Ex_b2 V_b4 Ex_b4 hn0 hni hst
    show own_Go p e below G (Tj.setTop (mkF m 20 #[.val (.ref po), .val (.ref fn), .val (.ref b2), .val (.ref b4), .val (.int nn), .val (.int (2 : Int32))] []))
    refine own_st (fun t k => XS.iload Xj.here hx rfl (hb hby d10_20) rfl  k) ?_
    show own_Go p e below G (Tj.setTop (mkF m 22 #[.val (.ref po), .val (.ref fn), .val (.ref b2), .val (.ref b4), .val (.int nn), .val (.int (2 : Int32))] [(.int (2 : Int32))]))
    refine own_st (fun t k => XS.aloadN Xj.here hx rfl (hb hby d10_22) rfl rfl  k) ?_
    show own_Go p e below G (Tj.setTop (mkF m 23 #[.val (.ref po), .val (.ref fn), .val (.ref b2), .val (.ref b4), .val (.int nn), .val (.int (2 : Int32))] [(.ref po), (.int (2 : Int32))]))
    obtain ⟨v19, T19, L19, X19, Q19, st19⟩ := own_callV Xj hx hZ (y := (⟨"com/example/thinleaf/thinleaf/core/index/Postings", "size", "()I"⟩ : MethodName)) (z := (⟨"com/example/thinleaf/thinleaf/core/index/Postings", "size", "()I"⟩ : MethodName)) hown (hw _ (List.mem_of_getElem? (i := 78) rfl)) (hw _ (List.mem_of_getElem? (i := 79) rfl)) (notFace_of_selects (args := #[]) (mvT hZ (hw _ (List.mem_of_getElem? (i := 81) rfl)))) (hw _ (List.mem_of_getElem? (i := 81) rfl)) (hw _ (List.mem_of_getElem? (i := 80) rfl)) (hw _ (List.mem_of_getElem? (i := 41) rfl)) (hw _ (List.mem_of_getElem? (i := 82) rfl)) (by decide) (W := 1) (rm6 l Z a0 hw po da kd _ _ hj F_d V_da) (by decide) (by decide) ej E_po (g := (mkF m 23 #[.val (.ref po), .val (.ref fn), .val (.ref b2), .val (.ref b4), .val (.int nn), .val (.int (2 : Int32))] [(.ref po), (.int (2 : Int32))])) rfl (by rw [hml]; rfl) (argsL := []) (rest := [(.int (2 : Int32))]) own_pd2 rfl rfl (by show 2 * 0 + _ ≤ _; exact Nat.le_of_eq rfl) (hb hby d10_23) rfl (by decide) (by decide)
    obtain ⟨rfl, rfl, e19⟩ := Q19
    simp only [List.append_nil, Nat.add_zero] at X19
    refine own_st st19 ?_
    show own_Go p e below G (T19.setTop (mkF m 26 #[.val (.ref po), .val (.ref fn), .val (.ref b2), .val (.ref b4), .val (.int nn), .val (.int (2 : Int32))] [(.int (4 : Int32)), (.int (2 : Int32))]))
    refine own_st (fun t k => XS.icmpNo X19.here hx rfl (hb hby d10_26) rfl (tlt (by decide)).2.1 k) ?_
    show own_Go p e below G (T19.setTop (mkF m 29 #[.val (.ref po), .val (.ref fn), .val (.ref b2), .val (.ref b4), .val (.int nn), .val (.int (2 : Int32))] []))
    refine own_st (fun t k => XS.aloadN X19.here hx rfl (hb hby d10_29) rfl rfl  k) ?_
    show own_Go p e below G (T19.setTop (mkF m 30 #[.val (.ref po), .val (.ref fn), .val (.ref b2), .val (.ref b4), .val (.int nn), .val (.int (2 : Int32))] [(.ref fn)]))
    refine own_st (fun t k => XS.iload X19.here hx rfl (hb hby d10_30) rfl  k) ?_
    show own_Go p e below G (T19.setTop (mkF m 32 #[.val (.ref po), .val (.ref fn), .val (.ref b2), .val (.ref b4), .val (.int nn), .val (.int (2 : Int32))] [(.int (2 : Int32)), (.ref fn)]))
    have FNc := FN
    obtain ⟨cf20, Fa20, Fb20, Fc20, Fd20, Fe20⟩ := FNc
    obtain ⟨T20, X20, e20, st20⟩ := own_callF X19 hx hZ hY (xi := (⟨"java/util/function/IntPredicate", "test", "(I)Z"⟩ : MethodName)) (y := (⟨"com/example/thinleaf/thinleaf/prune/DocumentCut$1", "lambda$keep$0", "([II)Z"⟩ : MethodName)) (σ := own_sg) hown (hw _ (List.mem_of_getElem? (i := 83) rfl)) (hw _ (List.mem_of_getElem? (i := 84) rfl)) (mvT hZ (hw _ (List.mem_of_getElem? (i := 85) rfl))) (hw _ (List.mem_of_getElem? (i := 86) rfl)) (hw _ (List.mem_of_getElem? (i := 87) rfl)) (hw _ (List.mem_of_getElem? (i := 29) rfl)) (hw _ (List.mem_of_getElem? (i := 30) rfl)) (hw _ (List.mem_of_getElem? (i := 88) rfl)) (hw _ (List.mem_of_getElem? (i := 72) rfl)) own_xi own_yy (by decide) hmd own_ok own_c0 own_c1 Fa20 Fb20 Fc20 Fd20 Fe20 E_rr (rm9 l Z a0 hw rr da cut gz kd kg (2 : Int32) g2 g0 g1 g2 g3 hj F_th F_go V_da V_gz ⟨by decide, by decide⟩ rfl rfl) (own_nt2 _) own_pd4 rfl own_pd5 rfl e19 (g := (mkF m 32 #[.val (.ref po), .val (.ref fn), .val (.ref b2), .val (.ref b4), .val (.int nn), .val (.int (2 : Int32))] [(.int (2 : Int32)), (.ref fn)])) rfl (by rw [hml]; rfl) rfl (hb hby d10_32) (by decide) (by show 2 * 0 + 0 + (2 + 11) + ((3 + 11) + 0) ≤ 60; decide) (by decide) (by decide)
    simp only [Nat.add_zero] at X20
    refine own_st st20 ?_
    show own_Go p e below G (T20.setTop (mkF m 37 #[.val (.ref po), .val (.ref fn), .val (.ref b2), .val (.ref b4), .val (.int nn), .val (.int (2 : Int32))] [(.int (own_nt g2))]))
    by_cases c37_21 : (own_nt g2) = (0 : Int32)
    · skip
      refine own_st (fun t k => XS.ifYes X20.here hx rfl (pc0 := 37) (pc' := 65) rfl (hb hby d10_37) rfl ((if0 _ _).trans (teq c37_21).1) (by decide) (by decide) k) ?_
      show own_Go p e below G (T20.setTop (mkF m 65 #[.val (.ref po), .val (.ref fn), .val (.ref b2), .val (.ref b4), .val (.int nn), .val (.int (2 : Int32))] []))
      refine own_st (fun t k => XS.iinc X20.here hx rfl (hb hby d10_65) rfl (l' := #[.val (.ref po), .val (.ref fn), .val (.ref b2), .val (.ref b4), .val (.int nn), .val (.int (3 : Int32))]) rfl k) ?_
      show own_Go p e below G (T20.setTop (mkF m 68 #[.val (.ref po), .val (.ref fn), .val (.ref b2), .val (.ref b4), .val (.int nn), .val (.int (3 : Int32))] []))
      refine own_st (fun t k => XS.goto X20.here hx rfl (pc0 := 68) (pc' := 20) rfl (hb hby d10_68) (by decide) (by decide) k) ?_
      show own_Go p e below G (T20.setTop (mkF m 20 #[.val (.ref po), .val (.ref fn), .val (.ref b2), .val (.ref b4), .val (.int nn), .val (.int (3 : Int32))] []))
      exact J3 nn x0 x1 x2 x3 y0 y1 y2 y3 _ _ _ X20 e20 N0 Z0 K0 E_po F_d F_f V_da V_fa FN E_rr F_th F_go V_gz V_b2 Ex_b2 V_b4 Ex_b4 hn0 (Int.le_trans hni (by decide)) (by rw [← hst]; exact (if_neg (own_nt1 c37_21)).symm)
    · skip
      refine own_st (fun t k => XS.ifNo X20.here hx rfl (hb hby d10_37) rfl ((if0 _ _).trans (feq c37_21).1) k) ?_
      show own_Go p e below G (T20.setTop (mkF m 40 #[.val (.ref po), .val (.ref fn), .val (.ref b2), .val (.ref b4), .val (.int nn), .val (.int (2 : Int32))] []))
      refine own_st (fun t k => XS.aloadN X20.here hx rfl (hb hby d10_40) rfl rfl  k) ?_
      show own_Go p e below G (T20.setTop (mkF m 41 #[.val (.ref po), .val (.ref fn), .val (.ref b2), .val (.ref b4), .val (.int nn), .val (.int (2 : Int32))] [(.ref b2)]))
      refine own_st (fun t k => XS.iload X20.here hx rfl (hb hby d10_41) rfl  k) ?_
      show own_Go p e below G (T20.setTop (mkF m 43 #[.val (.ref po), .val (.ref fn), .val (.ref b2), .val (.ref b4), .val (.int nn), .val (.int (2 : Int32))] [(.int nn), (.ref b2)]))
      refine own_st (fun t k => XS.aloadN X20.here hx rfl (hb hby d10_43) rfl rfl  k) ?_
      show own_Go p e below G (T20.setTop (mkF m 44 #[.val (.ref po), .val (.ref fn), .val (.ref b2), .val (.ref b4), .val (.int nn), .val (.int (2 : Int32))] [(.ref po), (.int nn), (.ref b2)]))
      obtain ⟨T22, X22, e22, st22⟩ := getF X20 hx hZ hown (host := "") (Or.inl (hw _ (List.mem_of_getElem? (i := 51) rfl))) Via.refl e20 F_d (g := (mkF m 44 #[.val (.ref po), .val (.ref fn), .val (.ref b2), .val (.ref b4), .val (.int nn), .val (.int (2 : Int32))] [(.ref po), (.int nn), (.ref b2)])) rfl rfl (hb hby d10_44)
      refine own_st st22 ?_
      show own_Go p e below G (T22.setTop (mkF m 47 #[.val (.ref po), .val (.ref fn), .val (.ref b2), .val (.ref b4), .val (.int nn), .val (.int (2 : Int32))] [(.ref da), (.int nn), (.ref b2)]))
      refine own_st (fun t k => XS.iload X22.here hx rfl (hb hby d10_47) rfl  k) ?_
      show own_Go p e below G (T22.setTop (mkF m 49 #[.val (.ref po), .val (.ref fn), .val (.ref b2), .val (.ref b4), .val (.int nn), .val (.int (2 : Int32))] [(.int (2 : Int32)), (.ref da), (.int nn), (.ref b2)]))
      have Vc23 := V_da
      obtain ⟨cl23, Ar23, -, Sa23, -, Ha23, -⟩ := Vc23
      have hin23 : ¬ ((2 : Int32) < 0 ∨ cl23.slots.size ≤ ((2 : Int32)).toNatClampNeg) := inb_of Sa23 ⟨by decide, by decide⟩
      refine own_st (fun t k => X22.iaload hx (j := (2 : Int32)) (v := (.int (2 : Int32))) (by rw [e22]; exact Ar23.1) (State.isArrayOf_alike hZ.alike Ar23.2.1) Ar23.2.2 hin23 (Ha23.at hin23 rfl) (g := (mkF m 49 #[.val (.ref po), .val (.ref fn), .val (.ref b2), .val (.ref b4), .val (.int nn), .val (.int (2 : Int32))] [(.int (2 : Int32)), (.ref da), (.int nn), (.ref b2)])) rfl rfl (hb hby d10_49) t k) ?_
      show own_Go p e below G (T22.setTop (mkF m 50 #[.val (.ref po), .val (.ref fn), .val (.ref b2), .val (.ref b4), .val (.int nn), .val (.int (2 : Int32))] [(.int (2 : Int32)), (.int nn), (.ref b2)]))
      obtain ⟨cl24, Ar24, qa24, Sa24, Na24, Ha24, Ga24⟩ := V_b2
      have hin24 : ¬ (nn < 0 ∨ cl24.slots.size ≤ (nn).toNatClampNeg) := inb_of Sa24 (own_bd4 ⟨hn0, Int.lt_of_le_of_lt hni (by decide)⟩)
      obtain ⟨T24, h24, X24, e24, W24, st24⟩ := stI X22 hx hZ e22 Ar24 (j := nn) hin24 (g := (mkF m 50 #[.val (.ref po), .val (.ref fn), .val (.ref b2), .val (.ref b4), .val (.int nn), .val (.int (2 : Int32))] [(.int (2 : Int32)), (.int nn), (.ref b2)])) rfl rfl (hb hby d10_50)
      have V_b2 : Arv Z h24 b2 k2 .int (4 : Int32) [(.int (own_sl nn 0 (2 : Int32) x0)), (.int (own_sl nn 1 (2 : Int32) x1)), (.int (own_sl nn 2 (2 : Int32) x2)), (.int (own_sl nn 3 (2 : Int32) x3))] (.int (0 : Int32)) := by
        have q := Arv.set Ar24 qa24 Sa24 Na24 Ha24 Ga24 rfl W24 _ rfl (own_lt4 ⟨hn0, Int.lt_of_le_of_lt hni (by decide)⟩)
        rw [own_set4 ⟨hn0, Int.lt_of_le_of_lt hni (by decide)⟩] at q
        exact q
      replace E_po := E_po.wr W24
      replace F_d := F_d.other W24 (Or.inl ne_po_b2)
      replace F_f := F_f.other W24 (Or.inl ne_po_b2)
      replace V_da := V_da.other W24 ne_da_b2
      replace V_fa := V_fa.other W24 ne_fa_b2
      replace FN := FN.other W24 ne_fn_b2
      replace E_rr := E_rr.wr W24
      replace F_th := F_th.other W24 (Or.inl ne_rr_b2)
      replace F_go := F_go.other W24 (Or.inl ne_cut_b2)
      replace V_gz := V_gz.other W24 ne_gz_b2
      replace Ex_b2 := Ex_b2.wr W24
      replace V_b4 := V_b4.other W24 (Ne.symm ne_b2_b4)
      replace Ex_b4 := Ex_b4.wr W24
      replace Z0 := Nat.le_trans Z0 (Keep.of_wr W24).1
      replace N0 := Fr.snoc X24 N0 g_b2
      replace K0 := K0.wr W24 (Or.inr ge_b2)
      refine own_st st24 ?_
      show own_Go p e below G (T24.setTop (mkF m 51 #[.val (.ref po), .val (.ref fn), .val (.ref b2), .val (.ref b4), .val (.int nn), .val (.int (2 : Int32))] []))
      refine own_st (fun t k => XS.aloadN X24.here hx rfl (hb hby d10_51) rfl rfl  k) ?_
      show own_Go p e below G (T24.setTop (mkF m 52 #[.val (.ref po), .val (.ref fn), .val (.ref b2), .val (.ref b4), .val (.int nn), .val (.int (2 : Int32))] [(.ref b4)]))
      refine own_st (fun t k => XS.iload X24.here hx rfl (hb hby d10_52) rfl  k) ?_
      show own_Go p e below G (T24.setTop (mkF m 54 #[.val (.ref po), .val (.ref fn), .val (.ref b2), .val (.ref b4), .val (.int nn), .val (.int (2 : Int32))] [(.int nn), (.ref b4)]))
      refine own_st (fun t k => XS.aloadN X24.here hx rfl (hb hby d10_54) rfl rfl  k) ?_
      show own_Go p e below G (T24.setTop (mkF m 55 #[.val (.ref po), .val (.ref fn), .val (.ref b2), .val (.ref b4), .val (.int nn), .val (.int (2 : Int32))] [(.ref po), (.int nn), (.ref b4)]))
      obtain ⟨T25, X25, e25, st25⟩ := getF X24 hx hZ hown (host := "") (Or.inl (hw _ (List.mem_of_getElem? (i := 53) rfl))) Via.refl e24 F_f (g := (mkF m 55 #[.val (.ref po), .val (.ref fn), .val (.ref b2), .val (.ref b4), .val (.int nn), .val (.int (2 : Int32))] [(.ref po), (.int nn), (.ref b4)])) rfl rfl (hb hby d10_55)
      refine own_st st25 ?_
      show own_Go p e below G (T25.setTop (mkF m 58 #[.val (.ref po), .val (.ref fn), .val (.ref b2), .val (.ref b4), .val (.int nn), .val (.int (2 : Int32))] [(.ref fa), (.int nn), (.ref b4)]))
      refine own_st (fun t k => XS.iload X25.here hx rfl (hb hby d10_58) rfl  k) ?_
      show own_Go p e below G (T25.setTop (mkF m 60 #[.val (.ref po), .val (.ref fn), .val (.ref b2), .val (.ref b4), .val (.int nn), .val (.int (2 : Int32))] [(.int (2 : Int32)), (.ref fa), (.int nn), (.ref b4)]))
      have Vc26 := V_fa
      obtain ⟨cl26, Ar26, -, Sa26, -, Ha26, -⟩ := Vc26
      have hin26 : ¬ ((2 : Int32) < 0 ∨ cl26.slots.size ≤ ((2 : Int32)).toNatClampNeg) := inb_of Sa26 ⟨by decide, by decide⟩
      refine own_st (fun t k => X25.iaload hx (j := (2 : Int32)) (v := (.int (1 : Int32))) (by rw [e25]; exact Ar26.1) (State.isArrayOf_alike hZ.alike Ar26.2.1) Ar26.2.2 hin26 (Ha26.at hin26 rfl) (g := (mkF m 60 #[.val (.ref po), .val (.ref fn), .val (.ref b2), .val (.ref b4), .val (.int nn), .val (.int (2 : Int32))] [(.int (2 : Int32)), (.ref fa), (.int nn), (.ref b4)])) rfl rfl (hb hby d10_60) t k) ?_
      show own_Go p e below G (T25.setTop (mkF m 61 #[.val (.ref po), .val (.ref fn), .val (.ref b2), .val (.ref b4), .val (.int nn), .val (.int (2 : Int32))] [(.int (1 : Int32)), (.int nn), (.ref b4)]))
      obtain ⟨cl27, Ar27, qa27, Sa27, Na27, Ha27, Ga27⟩ := V_b4
      have hin27 : ¬ (nn < 0 ∨ cl27.slots.size ≤ (nn).toNatClampNeg) := inb_of Sa27 (own_bd4 ⟨hn0, Int.lt_of_le_of_lt hni (by decide)⟩)
      obtain ⟨T27, h27, X27, e27, W27, st27⟩ := stI X25 hx hZ e25 Ar27 (j := nn) hin27 (g := (mkF m 61 #[.val (.ref po), .val (.ref fn), .val (.ref b2), .val (.ref b4), .val (.int nn), .val (.int (2 : Int32))] [(.int (1 : Int32)), (.int nn), (.ref b4)])) rfl rfl (hb hby d10_61)
      have V_b4 : Arv Z h27 b4 k4 .int (4 : Int32) [(.int (own_sl nn 0 (1 : Int32) y0)), (.int (own_sl nn 1 (1 : Int32) y1)), (.int (own_sl nn 2 (1 : Int32) y2)), (.int (own_sl nn 3 (1 : Int32) y3))] (.int (0 : Int32)) := by
        have q := Arv.set Ar27 qa27 Sa27 Na27 Ha27 Ga27 rfl W27 _ rfl (own_lt4 ⟨hn0, Int.lt_of_le_of_lt hni (by decide)⟩)
        rw [own_set4 ⟨hn0, Int.lt_of_le_of_lt hni (by decide)⟩] at q
        exact q
      replace E_po := E_po.wr W27
      replace F_d := F_d.other W27 (Or.inl ne_po_b4)
      replace F_f := F_f.other W27 (Or.inl ne_po_b4)
      replace V_da := V_da.other W27 ne_da_b4
      replace V_fa := V_fa.other W27 ne_fa_b4
      replace FN := FN.other W27 ne_fn_b4
      replace E_rr := E_rr.wr W27
      replace F_th := F_th.other W27 (Or.inl ne_rr_b4)
      replace F_go := F_go.other W27 (Or.inl ne_cut_b4)
      replace V_gz := V_gz.other W27 ne_gz_b4
      replace V_b2 := V_b2.other W27 ne_b2_b4
      replace Ex_b2 := Ex_b2.wr W27
      replace Ex_b4 := Ex_b4.wr W27
      replace Z0 := Nat.le_trans Z0 (Keep.of_wr W27).1
      replace N0 := Fr.snoc X27 N0 g_b4
      replace K0 := K0.wr W27 (Or.inr ge_b4)
      refine own_st st27 ?_
      show own_Go p e below G (T27.setTop (mkF m 62 #[.val (.ref po), .val (.ref fn), .val (.ref b2), .val (.ref b4), .val (.int nn), .val (.int (2 : Int32))] []))
      refine own_st (fun t k => XS.iinc X27.here hx rfl (hb hby d10_62) rfl (l' := #[.val (.ref po), .val (.ref fn), .val (.ref b2), .val (.ref b4), .val (.int (nn + (1 : Int32))), .val (.int (2 : Int32))]) rfl k) ?_
      show own_Go p e below G (T27.setTop (mkF m 65 #[.val (.ref po), .val (.ref fn), .val (.ref b2), .val (.ref b4), .val (.int (nn + (1 : Int32))), .val (.int (2 : Int32))] []))
      refine own_st (fun t k => XS.iinc X27.here hx rfl (hb hby d10_65) rfl (l' := #[.val (.ref po), .val (.ref fn), .val (.ref b2), .val (.ref b4), .val (.int (nn + (1 : Int32))), .val (.int (3 : Int32))]) rfl k) ?_
      show own_Go p e below G (T27.setTop (mkF m 68 #[.val (.ref po), .val (.ref fn), .val (.ref b2), .val (.ref b4), .val (.int (nn + (1 : Int32))), .val (.int (3 : Int32))] []))
      refine own_st (fun t k => XS.goto X27.here hx rfl (pc0 := 68) (pc' := 20) rfl (hb hby d10_68) (by decide) (by decide) k) ?_
      show own_Go p e below G (T27.setTop (mkF m 20 #[.val (.ref po), .val (.ref fn), .val (.ref b2), .val (.ref b4), .val (.int (nn + (1 : Int32))), .val (.int (3 : Int32))] []))
      exact J3 (nn + (1 : Int32)) (own_sl nn 0 (2 : Int32) x0) (own_sl nn 1 (2 : Int32) x1) (own_sl nn 2 (2 : Int32) x2) (own_sl nn 3 (2 : Int32) x3) (own_sl nn 0 (1 : Int32) y0) (own_sl nn 1 (1 : Int32) y1) (own_sl nn 2 (1 : Int32) y2) (own_sl nn 3 (1 : Int32) y3) _ _ _ X27 e27 N0 Z0 K0 E_po F_d F_f V_da V_fa FN E_rr F_th F_go V_gz V_b2 Ex_b2 V_b4 Ex_b4 (by rw [own_inc hn0 (Int.lt_of_le_of_lt hni (by decide))]; omega) (by rw [own_inc hn0 (Int.lt_of_le_of_lt hni (by decide))]; omega) (by rw [← hst]; exact (if_pos (own_nt0 c37_21)).symm)
  have J1 : ∀ (nn x0 x1 x2 x3 y0 y1 y2 y3 : Int32) (Tj : State) (hj : Heap) (Lj : List Loc), Stand p l e ({ frames := 3, cells := 5, slots := 18, locals := 60 } : Room) s m #[(.ref po), (.ref fn)] below meth c Tj Lj 2 8 → Tj.heap = hj → Fr n0 Lj → n0 ≤ hj.size → Keep h0 hj [] → Exa Z hj po "com/example/thinleaf/thinleaf/core/index/Postings" → Fld Z hj po "com/example/thinleaf/thinleaf/core/index/Postings" "documents" "[I" (.ref da) → Fld Z hj po "com/example/thinleaf/thinleaf/core/index/Postings" "frequencies" "[I" (.ref fa) → Arv Z hj da kd .int (4 : Int32) [(.int (0 : Int32)), (.int (1 : Int32)), (.int (2 : Int32)), (.int (3 : Int32))] (.int (0 : Int32)) → Arv Z hj fa kf .int (4 : Int32) [(.int (1 : Int32)), (.int (1 : Int32)), (.int (1 : Int32)), (.int (1 : Int32))] (.int (0 : Int32)) → own_Fn hj fn cK rr da → Exa Z hj rr "com/example/thinleaf/thinleaf/prune/DocumentCut$1" → Fld Z hj rr "com/example/thinleaf/thinleaf/prune/DocumentCut$1" "this$0" "Lcom/example/thinleaf/thinleaf/prune/DocumentCut;" (.ref cut) → Fld Z hj cut "com/example/thinleaf/thinleaf/prune/DocumentCut" "goes" "[Z" (.ref gz) → Arv Z hj gz kg .boolean (4 : Int32) [(.int g0), (.int g1), (.int g2), (.int g3)] (.int (0 : Int32)) → Arv Z hj b2 k2 .int (4 : Int32) [(.int x0), (.int x1), (.int x2), (.int x3)] (.int (0 : Int32)) → Exa Z hj b2 "[I" → Arv Z hj b4 k4 .int (4 : Int32) [(.int y0), (.int y1), (.int y2), (.int y3)] (.int (0 : Int32)) → Exa Z hj b4 "[I" → 0 ≤ nn.toInt → nn.toInt ≤ 1 → (nn, x0, x1, x2, x3) = (own_stp g0 0 ((0 : Int32), (0 : Int32), (0 : Int32), (0 : Int32), (0 : Int32))) → own_Go p e below G (Tj.setTop (mkF m 20 #[.val (.ref po), .val (.ref fn), .val (.ref b2), .val (.ref b4), .val (.int nn), .val (.int (1 : Int32))] [])) := by
    intro nn x0 x1 x2 x3 y0 y1 y2 y3 Tj hj Lj Xj ej N0 Z0 K0 E_po F_d F_f V_da V_fa FN E_rr F_th F_go V_gz V_b2 Ex_b2 V_b4 Ex_b4 hn0 hni hst
    show own_Go p e below G (Tj.setTop (mkF m 20 #[.val (.ref po), .val (.ref fn), .val (.ref b2), .val (.ref b4), .val (.int nn), .val (.int (1 : Int32))] []))
    refine own_st (fun t k => XS.iload Xj.here hx rfl (hb hby d10_20) rfl  k) ?_
    show own_Go p e below G (Tj.setTop (mkF m 22 #[.val (.ref po), .val (.ref fn), .val (.ref b2), .val (.ref b4), .val (.int nn), .val (.int (1 : Int32))] [(.int (1 : Int32))]))
    refine own_st (fun t k => XS.aloadN Xj.here hx rfl (hb hby d10_22) rfl rfl  k) ?_
    show own_Go p e below G (Tj.setTop (mkF m 23 #[.val (.ref po), .val (.ref fn), .val (.ref b2), .val (.ref b4), .val (.int nn), .val (.int (1 : Int32))] [(.ref po), (.int (1 : Int32))]))
    obtain ⟨v28, T28, L28, X28, Q28, st28⟩ := own_callV Xj hx hZ (y := (⟨"com/example/thinleaf/thinleaf/core/index/Postings", "size", "()I"⟩ : MethodName)) (z := (⟨"com/example/thinleaf/thinleaf/core/index/Postings", "size", "()I"⟩ : MethodName)) hown (hw _ (List.mem_of_getElem? (i := 78) rfl)) (hw _ (List.mem_of_getElem? (i := 79) rfl)) (notFace_of_selects (args := #[]) (mvT hZ (hw _ (List.mem_of_getElem? (i := 81) rfl)))) (hw _ (List.mem_of_getElem? (i := 81) rfl)) (hw _ (List.mem_of_getElem? (i := 80) rfl)) (hw _ (List.mem_of_getElem? (i := 41) rfl)) (hw _ (List.mem_of_getElem? (i := 82) rfl)) (by decide) (W := 1) (rm6 l Z a0 hw po da kd _ _ hj F_d V_da) (by decide) (by decide) ej E_po (g := (mkF m 23 #[.val (.ref po), .val (.ref fn), .val (.ref b2), .val (.ref b4), .val (.int nn), .val (.int (1 : Int32))] [(.ref po), (.int (1 : Int32))])) rfl (by rw [hml]; rfl) (argsL := []) (rest := [(.int (1 : Int32))]) own_pd2 rfl rfl (by show 2 * 0 + _ ≤ _; exact Nat.le_of_eq rfl) (hb hby d10_23) rfl (by decide) (by decide)
    obtain ⟨rfl, rfl, e28⟩ := Q28
    simp only [List.append_nil, Nat.add_zero] at X28
    refine own_st st28 ?_
    show own_Go p e below G (T28.setTop (mkF m 26 #[.val (.ref po), .val (.ref fn), .val (.ref b2), .val (.ref b4), .val (.int nn), .val (.int (1 : Int32))] [(.int (4 : Int32)), (.int (1 : Int32))]))
    refine own_st (fun t k => XS.icmpNo X28.here hx rfl (hb hby d10_26) rfl (tlt (by decide)).2.1 k) ?_
    show own_Go p e below G (T28.setTop (mkF m 29 #[.val (.ref po), .val (.ref fn), .val (.ref b2), .val (.ref b4), .val (.int nn), .val (.int (1 : Int32))] []))
    refine own_st (fun t k => XS.aloadN X28.here hx rfl (hb hby d10_29) rfl rfl  k) ?_
    show own_Go p e below G (T28.setTop (mkF m 30 #[.val (.ref po), .val (.ref fn), .val (.ref b2), .val (.ref b4), .val (.int nn), .val (.int (1 : Int32))] [(.ref fn)]))
    refine own_st (fun t k => XS.iload X28.here hx rfl (hb hby d10_30) rfl  k) ?_
    show own_Go p e below G (T28.setTop (mkF m 32 #[.val (.ref po), .val (.ref fn), .val (.ref b2), .val (.ref b4), .val (.int nn), .val (.int (1 : Int32))] [(.int (1 : Int32)), (.ref fn)]))
    have FNc := FN
    obtain ⟨cf29, Fa29, Fb29, Fc29, Fd29, Fe29⟩ := FNc
    obtain ⟨T29, X29, e29, st29⟩ := own_callF X28 hx hZ hY (xi := (⟨"java/util/function/IntPredicate", "test", "(I)Z"⟩ : MethodName)) (y := (⟨"com/example/thinleaf/thinleaf/prune/DocumentCut$1", "lambda$keep$0", "([II)Z"⟩ : MethodName)) (σ := own_sg) hown (hw _ (List.mem_of_getElem? (i := 83) rfl)) (hw _ (List.mem_of_getElem? (i := 84) rfl)) (mvT hZ (hw _ (List.mem_of_getElem? (i := 85) rfl))) (hw _ (List.mem_of_getElem? (i := 86) rfl)) (hw _ (List.mem_of_getElem? (i := 87) rfl)) (hw _ (List.mem_of_getElem? (i := 29) rfl)) (hw _ (List.mem_of_getElem? (i := 30) rfl)) (hw _ (List.mem_of_getElem? (i := 88) rfl)) (hw _ (List.mem_of_getElem? (i := 72) rfl)) own_xi own_yy (by decide) hmd own_ok own_c0 own_c1 Fa29 Fb29 Fc29 Fd29 Fe29 E_rr (rm9 l Z a0 hw rr da cut gz kd kg (1 : Int32) g1 g0 g1 g2 g3 hj F_th F_go V_da V_gz ⟨by decide, by decide⟩ rfl rfl) (own_nt2 _) own_pd4 rfl own_pd5 rfl e28 (g := (mkF m 32 #[.val (.ref po), .val (.ref fn), .val (.ref b2), .val (.ref b4), .val (.int nn), .val (.int (1 : Int32))] [(.int (1 : Int32)), (.ref fn)])) rfl (by rw [hml]; rfl) rfl (hb hby d10_32) (by decide) (by show 2 * 0 + 0 + (2 + 11) + ((3 + 11) + 0) ≤ 60; decide) (by decide) (by decide)
    simp only [Nat.add_zero] at X29
    refine own_st st29 ?_
    show own_Go p e below G (T29.setTop (mkF m 37 #[.val (.ref po), .val (.ref fn), .val (.ref b2), .val (.ref b4), .val (.int nn), .val (.int (1 : Int32))] [(.int (own_nt g1))]))
    by_cases c37_30 : (own_nt g1) = (0 : Int32)
    · skip
      refine own_st (fun t k => XS.ifYes X29.here hx rfl (pc0 := 37) (pc' := 65) rfl (hb hby d10_37) rfl ((if0 _ _).trans (teq c37_30).1) (by decide) (by decide) k) ?_
      show own_Go p e below G (T29.setTop (mkF m 65 #[.val (.ref po), .val (.ref fn), .val (.ref b2), .val (.ref b4), .val (.int nn), .val (.int (1 : Int32))] []))
      refine own_st (fun t k => XS.iinc X29.here hx rfl (hb hby d10_65) rfl (l' := #[.val (.ref po), .val (.ref fn), .val (.ref b2), .val (.ref b4), .val (.int nn), .val (.int (2 : Int32))]) rfl k) ?_
      show own_Go p e below G (T29.setTop (mkF m 68 #[.val (.ref po), .val (.ref fn), .val (.ref b2), .val (.ref b4), .val (.int nn), .val (.int (2 : Int32))] []))
      refine own_st (fun t k => XS.goto X29.here hx rfl (pc0 := 68) (pc' := 20) rfl (hb hby d10_68) (by decide) (by decide) k) ?_
      show own_Go p e below G (T29.setTop (mkF m 20 #[.val (.ref po), .val (.ref fn), .val (.ref b2), .val (.ref b4), .val (.int nn), .val (.int (2 : Int32))] []))
      exact J2 nn x0 x1 x2 x3 y0 y1 y2 y3 _ _ _ X29 e29 N0 Z0 K0 E_po F_d F_f V_da V_fa FN E_rr F_th F_go V_gz V_b2 Ex_b2 V_b4 Ex_b4 hn0 (Int.le_trans hni (by decide)) (by rw [← hst]; exact (if_neg (own_nt1 c37_30)).symm)
    · skip
      refine own_st (fun t k => XS.ifNo X29.here hx rfl (hb hby d10_37) rfl ((if0 _ _).trans (feq c37_30).1) k) ?_
      show own_Go p e below G (T29.setTop (mkF m 40 #[.val (.ref po), .val (.ref fn), .val (.ref b2), .val (.ref b4), .val (.int nn), .val (.int (1 : Int32))] []))
      refine own_st (fun t k => XS.aloadN X29.here hx rfl (hb hby d10_40) rfl rfl  k) ?_
      show own_Go p e below G (T29.setTop (mkF m 41 #[.val (.ref po), .val (.ref fn), .val (.ref b2), .val (.ref b4), .val (.int nn), .val (.int (1 : Int32))] [(.ref b2)]))
      refine own_st (fun t k => XS.iload X29.here hx rfl (hb hby d10_41) rfl  k) ?_
      show own_Go p e below G (T29.setTop (mkF m 43 #[.val (.ref po), .val (.ref fn), .val (.ref b2), .val (.ref b4), .val (.int nn), .val (.int (1 : Int32))] [(.int nn), (.ref b2)]))
      refine own_st (fun t k => XS.aloadN X29.here hx rfl (hb hby d10_43) rfl rfl  k) ?_
      show own_Go p e below G (T29.setTop (mkF m 44 #[.val (.ref po), .val (.ref fn), .val (.ref b2), .val (.ref b4), .val (.int nn), .val (.int (1 : Int32))] [(.ref po), (.int nn), (.ref b2)]))
      obtain ⟨T31, X31, e31, st31⟩ := getF X29 hx hZ hown (host := "") (Or.inl (hw _ (List.mem_of_getElem? (i := 51) rfl))) Via.refl e29 F_d (g := (mkF m 44 #[.val (.ref po), .val (.ref fn), .val (.ref b2), .val (.ref b4), .val (.int nn), .val (.int (1 : Int32))] [(.ref po), (.int nn), (.ref b2)])) rfl rfl (hb hby d10_44)
      refine own_st st31 ?_
      show own_Go p e below G (T31.setTop (mkF m 47 #[.val (.ref po), .val (.ref fn), .val (.ref b2), .val (.ref b4), .val (.int nn), .val (.int (1 : Int32))] [(.ref da), (.int nn), (.ref b2)]))
      refine own_st (fun t k => XS.iload X31.here hx rfl (hb hby d10_47) rfl  k) ?_
      show own_Go p e below G (T31.setTop (mkF m 49 #[.val (.ref po), .val (.ref fn), .val (.ref b2), .val (.ref b4), .val (.int nn), .val (.int (1 : Int32))] [(.int (1 : Int32)), (.ref da), (.int nn), (.ref b2)]))
      have Vc32 := V_da
      obtain ⟨cl32, Ar32, -, Sa32, -, Ha32, -⟩ := Vc32
      have hin32 : ¬ ((1 : Int32) < 0 ∨ cl32.slots.size ≤ ((1 : Int32)).toNatClampNeg) := inb_of Sa32 ⟨by decide, by decide⟩
      refine own_st (fun t k => X31.iaload hx (j := (1 : Int32)) (v := (.int (1 : Int32))) (by rw [e31]; exact Ar32.1) (State.isArrayOf_alike hZ.alike Ar32.2.1) Ar32.2.2 hin32 (Ha32.at hin32 rfl) (g := (mkF m 49 #[.val (.ref po), .val (.ref fn), .val (.ref b2), .val (.ref b4), .val (.int nn), .val (.int (1 : Int32))] [(.int (1 : Int32)), (.ref da), (.int nn), (.ref b2)])) rfl rfl (hb hby d10_49) t k) ?_
      show own_Go p e below G (T31.setTop (mkF m 50 #[.val (.ref po), .val (.ref fn), .val (.ref b2), .val (.ref b4), .val (.int nn), .val (.int (1 : Int32))] [(.int (1 : Int32)), (.int nn), (.ref b2)]))
      obtain ⟨cl33, Ar33, qa33, Sa33, Na33, Ha33, Ga33⟩ := V_b2
      have hin33 : ¬ (nn < 0 ∨ cl33.slots.size ≤ (nn).toNatClampNeg) := inb_of Sa33 (own_bd4 ⟨hn0, Int.lt_of_le_of_lt hni (by decide)⟩)
      obtain ⟨T33, h33, X33, e33, W33, st33⟩ := stI X31 hx hZ e31 Ar33 (j := nn) hin33 (g := (mkF m 50 #[.val (.ref po), .val (.ref fn), .val (.ref b2), .val (.ref b4), .val (.int nn), .val (.int (1 : Int32))] [(.int (1 : Int32)), (.int nn), (.ref b2)])) rfl rfl (hb hby d10_50)
      have V_b2 : Arv Z h33 b2 k2 .int (4 : Int32) [(.int (own_sl nn 0 (1 : Int32) x0)), (.int (own_sl nn 1 (1 : Int32) x1)), (.int (own_sl nn 2 (1 : Int32) x2)), (.int (own_sl nn 3 (1 : Int32) x3))] (.int (0 : Int32)) := by
        have q := Arv.set Ar33 qa33 Sa33 Na33 Ha33 Ga33 rfl W33 _ rfl (own_lt4 ⟨hn0, Int.lt_of_le_of_lt hni (by decide)⟩)
        rw [own_set4 ⟨hn0, Int.lt_of_le_of_lt hni (by decide)⟩] at q
        exact q
      replace E_po := E_po.wr W33
      replace F_d := F_d.other W33 (Or.inl ne_po_b2)
      replace F_f := F_f.other W33 (Or.inl ne_po_b2)
      replace V_da := V_da.other W33 ne_da_b2
      replace V_fa := V_fa.other W33 ne_fa_b2
      replace FN := FN.other W33 ne_fn_b2
      replace E_rr := E_rr.wr W33
      replace F_th := F_th.other W33 (Or.inl ne_rr_b2)
      replace F_go := F_go.other W33 (Or.inl ne_cut_b2)
      replace V_gz := V_gz.other W33 ne_gz_b2
      replace Ex_b2 := Ex_b2.wr W33
      replace V_b4 := V_b4.other W33 (Ne.symm ne_b2_b4)
      replace Ex_b4 := Ex_b4.wr W33
      replace Z0 := Nat.le_trans Z0 (Keep.of_wr W33).1
      replace N0 := Fr.snoc X33 N0 g_b2
      replace K0 := K0.wr W33 (Or.inr ge_b2)
      refine own_st st33 ?_
      show own_Go p e below G (T33.setTop (mkF m 51 #[.val (.ref po), .val (.ref fn), .val (.ref b2), .val (.ref b4), .val (.int nn), .val (.int (1 : Int32))] []))
      refine own_st (fun t k => XS.aloadN X33.here hx rfl (hb hby d10_51) rfl rfl  k) ?_
      show own_Go p e below G (T33.setTop (mkF m 52 #[.val (.ref po), .val (.ref fn), .val (.ref b2), .val (.ref b4), .val (.int nn), .val (.int (1 : Int32))] [(.ref b4)]))
      refine own_st (fun t k => XS.iload X33.here hx rfl (hb hby d10_52) rfl  k) ?_
      show own_Go p e below G (T33.setTop (mkF m 54 #[.val (.ref po), .val (.ref fn), .val (.ref b2), .val (.ref b4), .val (.int nn), .val (.int (1 : Int32))] [(.int nn), (.ref b4)]))
      refine own_st (fun t k => XS.aloadN X33.here hx rfl (hb hby d10_54) rfl rfl  k) ?_
      show own_Go p e below G (T33.setTop (mkF m 55 #[.val (.ref po), .val (.ref fn), .val (.ref b2), .val (.ref b4), .val (.int nn), .val (.int (1 : Int32))] [(.ref po), (.int nn), (.ref b4)]))
      obtain ⟨T34, X34, e34, st34⟩ := getF X33 hx hZ hown (host := "") (Or.inl (hw _ (List.mem_of_getElem? (i := 53) rfl))) Via.refl e33 F_f (g := (mkF m 55 #[.val (.ref po), .val (.ref fn), .val (.ref b2), .val (.ref b4), .val (.int nn), .val (.int (1 : Int32))] [(.ref po), (.int nn), (.ref b4)])) rfl rfl (hb hby d10_55)
      refine own_st st34 ?_
      show own_Go p e below G (T34.setTop (mkF m 58 #[.val (.ref po), .val (.ref fn), .val (.ref b2), .val (.ref b4), .val (.int nn), .val (.int (1 : Int32))] [(.ref fa), (.int nn), (.ref b4)]))
      refine own_st (fun t k => XS.iload X34.here hx rfl (hb hby d10_58) rfl  k) ?_
      show own_Go p e below G (T34.setTop (mkF m 60 #[.val (.ref po), .val (.ref fn), .val (.ref b2), .val (.ref b4), .val (.int nn), .val (.int (1 : Int32))] [(.int (1 : Int32)), (.ref fa), (.int nn), (.ref b4)]))
      have Vc35 := V_fa
      obtain ⟨cl35, Ar35, -, Sa35, -, Ha35, -⟩ := Vc35
      have hin35 : ¬ ((1 : Int32) < 0 ∨ cl35.slots.size ≤ ((1 : Int32)).toNatClampNeg) := inb_of Sa35 ⟨by decide, by decide⟩
      refine own_st (fun t k => X34.iaload hx (j := (1 : Int32)) (v := (.int (1 : Int32))) (by rw [e34]; exact Ar35.1) (State.isArrayOf_alike hZ.alike Ar35.2.1) Ar35.2.2 hin35 (Ha35.at hin35 rfl) (g := (mkF m 60 #[.val (.ref po), .val (.ref fn), .val (.ref b2), .val (.ref b4), .val (.int nn), .val (.int (1 : Int32))] [(.int (1 : Int32)), (.ref fa), (.int nn), (.ref b4)])) rfl rfl (hb hby d10_60) t k) ?_
      show own_Go p e below G (T34.setTop (mkF m 61 #[.val (.ref po), .val (.ref fn), .val (.ref b2), .val (.ref b4), .val (.int nn), .val (.int (1 : Int32))] [(.int (1 : Int32)), (.int nn), (.ref b4)]))
      obtain ⟨cl36, Ar36, qa36, Sa36, Na36, Ha36, Ga36⟩ := V_b4
      have hin36 : ¬ (nn < 0 ∨ cl36.slots.size ≤ (nn).toNatClampNeg) := inb_of Sa36 (own_bd4 ⟨hn0, Int.lt_of_le_of_lt hni (by decide)⟩)
      obtain ⟨T36, h36, X36, e36, W36, st36⟩ := stI X34 hx hZ e34 Ar36 (j := nn) hin36 (g := (mkF m 61 #[.val (.ref po), .val (.ref fn), .val (.ref b2), .val (.ref b4), .val (.int nn), .val (.int (1 : Int32))] [(.int (1 : Int32)), (.int nn), (.ref b4)])) rfl rfl (hb hby d10_61)
      have V_b4 : Arv Z h36 b4 k4 .int (4 : Int32) [(.int (own_sl nn 0 (1 : Int32) y0)), (.int (own_sl nn 1 (1 : Int32) y1)), (.int (own_sl nn 2 (1 : Int32) y2)), (.int (own_sl nn 3 (1 : Int32) y3))] (.int (0 : Int32)) := by
        have q := Arv.set Ar36 qa36 Sa36 Na36 Ha36 Ga36 rfl W36 _ rfl (own_lt4 ⟨hn0, Int.lt_of_le_of_lt hni (by decide)⟩)
        rw [own_set4 ⟨hn0, Int.lt_of_le_of_lt hni (by decide)⟩] at q
        exact q
      replace E_po := E_po.wr W36
      replace F_d := F_d.other W36 (Or.inl ne_po_b4)
      replace F_f := F_f.other W36 (Or.inl ne_po_b4)
      replace V_da := V_da.other W36 ne_da_b4
      replace V_fa := V_fa.other W36 ne_fa_b4
      replace FN := FN.other W36 ne_fn_b4
      replace E_rr := E_rr.wr W36
      replace F_th := F_th.other W36 (Or.inl ne_rr_b4)
      replace F_go := F_go.other W36 (Or.inl ne_cut_b4)
      replace V_gz := V_gz.other W36 ne_gz_b4
      replace V_b2 := V_b2.other W36 ne_b2_b4
      replace Ex_b2 := Ex_b2.wr W36
      replace Ex_b4 := Ex_b4.wr W36
      replace Z0 := Nat.le_trans Z0 (Keep.of_wr W36).1
      replace N0 := Fr.snoc X36 N0 g_b4
      replace K0 := K0.wr W36 (Or.inr ge_b4)
      refine own_st st36 ?_
      show own_Go p e below G (T36.setTop (mkF m 62 #[.val (.ref po), .val (.ref fn), .val (.ref b2), .val (.ref b4), .val (.int nn), .val (.int (1 : Int32))] []))
      refine own_st (fun t k => XS.iinc X36.here hx rfl (hb hby d10_62) rfl (l' := #[.val (.ref po), .val (.ref fn), .val (.ref b2), .val (.ref b4), .val (.int (nn + (1 : Int32))), .val (.int (1 : Int32))]) rfl k) ?_
      show own_Go p e below G (T36.setTop (mkF m 65 #[.val (.ref po), .val (.ref fn), .val (.ref b2), .val (.ref b4), .val (.int (nn + (1 : Int32))), .val (.int (1 : Int32))] []))
      refine own_st (fun t k => XS.iinc X36.here hx rfl (hb hby d10_65) rfl (l' := #[.val (.ref po), .val (.ref fn), .val (.ref b2), .val (.ref b4), .val (.int (nn + (1 : Int32))), .val (.int (2 : Int32))]) rfl k) ?_
      show own_Go p e below G (T36.setTop (mkF m 68 #[.val (.ref po), .val (.ref fn), .val (.ref b2), .val (.ref b4), .val (.int (nn + (1 : Int32))), .val (.int (2 : Int32))] []))
      refine own_st (fun t k => XS.goto X36.here hx rfl (pc0 := 68) (pc' := 20) rfl (hb hby d10_68) (by decide) (by decide) k) ?_
      show own_Go p e below G (T36.setTop (mkF m 20 #[.val (.ref po), .val (.ref fn), .val (.ref b2), .val (.ref b4), .val (.int (nn + (1 : Int32))), .val (.int (2 : Int32))] []))
      exact J2 (nn + (1 : Int32)) (own_sl nn 0 (1 : Int32) x0) (own_sl nn 1 (1 : Int32) x1) (own_sl nn 2 (1 : Int32) x2) (own_sl nn 3 (1 : Int32) x3) (own_sl nn 0 (1 : Int32) y0) (own_sl nn 1 (1 : Int32) y1) (own_sl nn 2 (1 : Int32) y2) (own_sl nn 3 (1 : Int32) y3) _ _ _ X36 e36 N0 Z0 K0 E_po F_d F_f V_da V_fa FN E_rr F_th F_go V_gz V_b2 Ex_b2 V_b4 Ex_b4 (by rw [own_inc hn0 (Int.lt_of_le_of_lt hni (by decide))]; omega) (by rw [own_inc hn0 (Int.lt_of_le_of_lt hni (by decide))]; omega) (by rw [← hst]; exact (if_pos (own_nt0 c37_30)).symm)
  have J0 : ∀ (nn x0 x1 x2 x3 y0 y1 y2 y3 : Int32) (Tj : State) (hj : Heap) (Lj : List Loc), Stand p l e ({ frames := 3, cells := 5, slots := 18, locals := 60 } : Room) s m #[(.ref po), (.ref fn)] below meth c Tj Lj 2 8 → Tj.heap = hj → Fr n0 Lj → n0 ≤ hj.size → Keep h0 hj [] → Exa Z hj po "com/example/thinleaf/thinleaf/core/index/Postings" → Fld Z hj po "com/example/thinleaf/thinleaf/core/index/Postings" "documents" "[I" (.ref da) → Fld Z hj po "com/example/thinleaf/thinleaf/core/index/Postings" "frequencies" "[I" (.ref fa) → Arv Z hj da kd .int (4 : Int32) [(.int (0 : Int32)), (.int (1 : Int32)), (.int (2 : Int32)), (.int (3 : Int32))] (.int (0 : Int32)) → Arv Z hj fa kf .int (4 : Int32) [(.int (1 : Int32)), (.int (1 : Int32)), (.int (1 : Int32)), (.int (1 : Int32))] (.int (0 : Int32)) → own_Fn hj fn cK rr da → Exa Z hj rr "com/example/thinleaf/thinleaf/prune/DocumentCut$1" → Fld Z hj rr "com/example/thinleaf/thinleaf/prune/DocumentCut$1" "this$0" "Lcom/example/thinleaf/thinleaf/prune/DocumentCut;" (.ref cut) → Fld Z hj cut "com/example/thinleaf/thinleaf/prune/DocumentCut" "goes" "[Z" (.ref gz) → Arv Z hj gz kg .boolean (4 : Int32) [(.int g0), (.int g1), (.int g2), (.int g3)] (.int (0 : Int32)) → Arv Z hj b2 k2 .int (4 : Int32) [(.int x0), (.int x1), (.int x2), (.int x3)] (.int (0 : Int32)) → Exa Z hj b2 "[I" → Arv Z hj b4 k4 .int (4 : Int32) [(.int y0), (.int y1), (.int y2), (.int y3)] (.int (0 : Int32)) → Exa Z hj b4 "[I" → 0 ≤ nn.toInt → nn.toInt ≤ 0 → (nn, x0, x1, x2, x3) = ((0 : Int32), (0 : Int32), (0 : Int32), (0 : Int32), (0 : Int32)) → own_Go p e below G (Tj.setTop (mkF m 20 #[.val (.ref po), .val (.ref fn), .val (.ref b2), .val (.ref b4), .val (.int nn), .val (.int (0 : Int32))] [])) := by
    intro nn x0 x1 x2 x3 y0 y1 y2 y3 Tj hj Lj Xj ej N0 Z0 K0 E_po F_d F_f V_da V_fa FN E_rr F_th F_go V_gz V_b2 Ex_b2 V_b4 Ex_b4 hn0 hni hst
    show own_Go p e below G (Tj.setTop (mkF m 20 #[.val (.ref po), .val (.ref fn), .val (.ref b2), .val (.ref b4), .val (.int nn), .val (.int (0 : Int32))] []))
    refine own_st (fun t k => XS.iload Xj.here hx rfl (hb hby d10_20) rfl  k) ?_
    show own_Go p e below G (Tj.setTop (mkF m 22 #[.val (.ref po), .val (.ref fn), .val (.ref b2), .val (.ref b4), .val (.int nn), .val (.int (0 : Int32))] [(.int (0 : Int32))]))
    refine own_st (fun t k => XS.aloadN Xj.here hx rfl (hb hby d10_22) rfl rfl  k) ?_
    show own_Go p e below G (Tj.setTop (mkF m 23 #[.val (.ref po), .val (.ref fn), .val (.ref b2), .val (.ref b4), .val (.int nn), .val (.int (0 : Int32))] [(.ref po), (.int (0 : Int32))]))
    obtain ⟨v37, T37, L37, X37, Q37, st37⟩ := own_callV Xj hx hZ (y := (⟨"com/example/thinleaf/thinleaf/core/index/Postings", "size", "()I"⟩ : MethodName)) (z := (⟨"com/example/thinleaf/thinleaf/core/index/Postings", "size", "()I"⟩ : MethodName)) hown (hw _ (List.mem_of_getElem? (i := 78) rfl)) (hw _ (List.mem_of_getElem? (i := 79) rfl)) (notFace_of_selects (args := #[]) (mvT hZ (hw _ (List.mem_of_getElem? (i := 81) rfl)))) (hw _ (List.mem_of_getElem? (i := 81) rfl)) (hw _ (List.mem_of_getElem? (i := 80) rfl)) (hw _ (List.mem_of_getElem? (i := 41) rfl)) (hw _ (List.mem_of_getElem? (i := 82) rfl)) (by decide) (W := 1) (rm6 l Z a0 hw po da kd _ _ hj F_d V_da) (by decide) (by decide) ej E_po (g := (mkF m 23 #[.val (.ref po), .val (.ref fn), .val (.ref b2), .val (.ref b4), .val (.int nn), .val (.int (0 : Int32))] [(.ref po), (.int (0 : Int32))])) rfl (by rw [hml]; rfl) (argsL := []) (rest := [(.int (0 : Int32))]) own_pd2 rfl rfl (by show 2 * 0 + _ ≤ _; exact Nat.le_of_eq rfl) (hb hby d10_23) rfl (by decide) (by decide)
    obtain ⟨rfl, rfl, e37⟩ := Q37
    simp only [List.append_nil, Nat.add_zero] at X37
    refine own_st st37 ?_
    show own_Go p e below G (T37.setTop (mkF m 26 #[.val (.ref po), .val (.ref fn), .val (.ref b2), .val (.ref b4), .val (.int nn), .val (.int (0 : Int32))] [(.int (4 : Int32)), (.int (0 : Int32))]))
    refine own_st (fun t k => XS.icmpNo X37.here hx rfl (hb hby d10_26) rfl (tlt (by decide)).2.1 k) ?_
    show own_Go p e below G (T37.setTop (mkF m 29 #[.val (.ref po), .val (.ref fn), .val (.ref b2), .val (.ref b4), .val (.int nn), .val (.int (0 : Int32))] []))
    refine own_st (fun t k => XS.aloadN X37.here hx rfl (hb hby d10_29) rfl rfl  k) ?_
    show own_Go p e below G (T37.setTop (mkF m 30 #[.val (.ref po), .val (.ref fn), .val (.ref b2), .val (.ref b4), .val (.int nn), .val (.int (0 : Int32))] [(.ref fn)]))
    refine own_st (fun t k => XS.iload X37.here hx rfl (hb hby d10_30) rfl  k) ?_
    show own_Go p e below G (T37.setTop (mkF m 32 #[.val (.ref po), .val (.ref fn), .val (.ref b2), .val (.ref b4), .val (.int nn), .val (.int (0 : Int32))] [(.int (0 : Int32)), (.ref fn)]))
    have FNc := FN
    obtain ⟨cf38, Fa38, Fb38, Fc38, Fd38, Fe38⟩ := FNc
    obtain ⟨T38, X38, e38, st38⟩ := own_callF X37 hx hZ hY (xi := (⟨"java/util/function/IntPredicate", "test", "(I)Z"⟩ : MethodName)) (y := (⟨"com/example/thinleaf/thinleaf/prune/DocumentCut$1", "lambda$keep$0", "([II)Z"⟩ : MethodName)) (σ := own_sg) hown (hw _ (List.mem_of_getElem? (i := 83) rfl)) (hw _ (List.mem_of_getElem? (i := 84) rfl)) (mvT hZ (hw _ (List.mem_of_getElem? (i := 85) rfl))) (hw _ (List.mem_of_getElem? (i := 86) rfl)) (hw _ (List.mem_of_getElem? (i := 87) rfl)) (hw _ (List.mem_of_getElem? (i := 29) rfl)) (hw _ (List.mem_of_getElem? (i := 30) rfl)) (hw _ (List.mem_of_getElem? (i := 88) rfl)) (hw _ (List.mem_of_getElem? (i := 72) rfl)) own_xi own_yy (by decide) hmd own_ok own_c0 own_c1 Fa38 Fb38 Fc38 Fd38 Fe38 E_rr (rm9 l Z a0 hw rr da cut gz kd kg (0 : Int32) g0 g0 g1 g2 g3 hj F_th F_go V_da V_gz ⟨by decide, by decide⟩ rfl rfl) (own_nt2 _) own_pd4 rfl own_pd5 rfl e37 (g := (mkF m 32 #[.val (.ref po), .val (.ref fn), .val (.ref b2), .val (.ref b4), .val (.int nn), .val (.int (0 : Int32))] [(.int (0 : Int32)), (.ref fn)])) rfl (by rw [hml]; rfl) rfl (hb hby d10_32) (by decide) (by show 2 * 0 + 0 + (2 + 11) + ((3 + 11) + 0) ≤ 60; decide) (by decide) (by decide)
    simp only [Nat.add_zero] at X38
    refine own_st st38 ?_
    show own_Go p e below G (T38.setTop (mkF m 37 #[.val (.ref po), .val (.ref fn), .val (.ref b2), .val (.ref b4), .val (.int nn), .val (.int (0 : Int32))] [(.int (own_nt g0))]))
    by_cases c37_39 : (own_nt g0) = (0 : Int32)
    · skip
      refine own_st (fun t k => XS.ifYes X38.here hx rfl (pc0 := 37) (pc' := 65) rfl (hb hby d10_37) rfl ((if0 _ _).trans (teq c37_39).1) (by decide) (by decide) k) ?_
      show own_Go p e below G (T38.setTop (mkF m 65 #[.val (.ref po), .val (.ref fn), .val (.ref b2), .val (.ref b4), .val (.int nn), .val (.int (0 : Int32))] []))
      refine own_st (fun t k => XS.iinc X38.here hx rfl (hb hby d10_65) rfl (l' := #[.val (.ref po), .val (.ref fn), .val (.ref b2), .val (.ref b4), .val (.int nn), .val (.int (1 : Int32))]) rfl k) ?_
      show own_Go p e below G (T38.setTop (mkF m 68 #[.val (.ref po), .val (.ref fn), .val (.ref b2), .val (.ref b4), .val (.int nn), .val (.int (1 : Int32))] []))
      refine own_st (fun t k => XS.goto X38.here hx rfl (pc0 := 68) (pc' := 20) rfl (hb hby d10_68) (by decide) (by decide) k) ?_
      show own_Go p e below G (T38.setTop (mkF m 20 #[.val (.ref po), .val (.ref fn), .val (.ref b2), .val (.ref b4), .val (.int nn), .val (.int (1 : Int32))] []))
      exact J1 nn x0 x1 x2 x3 y0 y1 y2 y3 _ _ _ X38 e38 N0 Z0 K0 E_po F_d F_f V_da V_fa FN E_rr F_th F_go V_gz V_b2 Ex_b2 V_b4 Ex_b4 hn0 (Int.le_trans hni (by decide)) (by rw [← hst]; exact (if_neg (own_nt1 c37_39)).symm)
    · skip
      refine own_st (fun t k => XS.ifNo X38.here hx rfl (hb hby d10_37) rfl ((if0 _ _).trans (feq c37_39).1) k) ?_
      show own_Go p e below G (T38.setTop (mkF m 40 #[.val (.ref po), .val (.ref fn), .val (.ref b2), .val (.ref b4), .val (.int nn), .val (.int (0 : Int32))] []))
      refine own_st (fun t k => XS.aloadN X38.here hx rfl (hb hby d10_40) rfl rfl  k) ?_
      show own_Go p e below G (T38.setTop (mkF m 41 #[.val (.ref po), .val (.ref fn), .val (.ref b2), .val (.ref b4), .val (.int nn), .val (.int (0 : Int32))] [(.ref b2)]))
      refine own_st (fun t k => XS.iload X38.here hx rfl (hb hby d10_41) rfl  k) ?_
      show own_Go p e below G (T38.setTop (mkF m 43 #[.val (.ref po), .val (.ref fn), .val (.ref b2), .val (.ref b4), .val (.int nn), .val (.int (0 : Int32))] [(.int nn), (.ref b2)]))
      refine own_st (fun t k => XS.aloadN X38.here hx rfl (hb hby d10_43) rfl rfl  k) ?_
      show own_Go p e below G (T38.setTop (mkF m 44 #[.val (.ref po), .val (.ref fn), .val (.ref b2), .val (.ref b4), .val (.int nn), .val (.int (0 : Int32))] [(.ref po), (.int nn), (.ref b2)]))
      obtain ⟨T40, X40, e40, st40⟩ := getF X38 hx hZ hown (host := "") (Or.inl (hw _ (List.mem_of_getElem? (i := 51) rfl))) Via.refl e38 F_d (g := (mkF m 44 #[.val (.ref po), .val (.ref fn), .val (.ref b2), .val (.ref b4), .val (.int nn), .val (.int (0 : Int32))] [(.ref po), (.int nn), (.ref b2)])) rfl rfl (hb hby d10_44)
      refine own_st st40 ?_
      show own_Go p e below G (T40.setTop (mkF m 47 #[.val (.ref po), .val (.ref fn), .val (.ref b2), .val (.ref b4), .val (.int nn), .val (.int (0 : Int32))] [(.ref da), (.int nn), (.ref b2)]))
      refine own_st (fun t k => XS.iload X40.here hx rfl (hb hby d10_47) rfl  k) ?_
      show own_Go p e below G (T40.setTop (mkF m 49 #[.val (.ref po), .val (.ref fn), .val (.ref b2), .val (.ref b4), .val (.int nn), .val (.int (0 : Int32))] [(.int (0 : Int32)), (.ref da), (.int nn), (.ref b2)]))
      have Vc41 := V_da
      obtain ⟨cl41, Ar41, -, Sa41, -, Ha41, -⟩ := Vc41
      have hin41 : ¬ ((0 : Int32) < 0 ∨ cl41.slots.size ≤ ((0 : Int32)).toNatClampNeg) := inb_of Sa41 ⟨by decide, by decide⟩
      refine own_st (fun t k => X40.iaload hx (j := (0 : Int32)) (v := (.int (0 : Int32))) (by rw [e40]; exact Ar41.1) (State.isArrayOf_alike hZ.alike Ar41.2.1) Ar41.2.2 hin41 (Ha41.at hin41 rfl) (g := (mkF m 49 #[.val (.ref po), .val (.ref fn), .val (.ref b2), .val (.ref b4), .val (.int nn), .val (.int (0 : Int32))] [(.int (0 : Int32)), (.ref da), (.int nn), (.ref b2)])) rfl rfl (hb hby d10_49) t k) ?_
      show own_Go p e below G (T40.setTop (mkF m 50 #[.val (.ref po), .val (.ref fn), .val (.ref b2), .val (.ref b4), .val (.int nn), .val (.int (0 : Int32))] [(.int (0 : Int32)), (.int nn), (.ref b2)]))
      obtain ⟨cl42, Ar42, qa42, Sa42, Na42, Ha42, Ga42⟩ := V_b2
      have hin42 : ¬ (nn < 0 ∨ cl42.slots.size ≤ (nn).toNatClampNeg) := inb_of Sa42 (own_bd4 ⟨hn0, Int.lt_of_le_of_lt hni (by decide)⟩)
      obtain ⟨T42, h42, X42, e42, W42, st42⟩ := stI X40 hx hZ e40 Ar42 (j := nn) hin42 (g := (mkF m 50 #[.val (.ref po), .val (.ref fn), .val (.ref b2), .val (.ref b4), .val (.int nn), .val (.int (0 : Int32))] [(.int (0 : Int32)), (.int nn), (.ref b2)])) rfl rfl (hb hby d10_50)
      have V_b2 : Arv Z h42 b2 k2 .int (4 : Int32) [(.int (own_sl nn 0 (0 : Int32) x0)), (.int (own_sl nn 1 (0 : Int32) x1)), (.int (own_sl nn 2 (0 : Int32) x2)), (.int (own_sl nn 3 (0 : Int32) x3))] (.int (0 : Int32)) := by
        have q := Arv.set Ar42 qa42 Sa42 Na42 Ha42 Ga42 rfl W42 _ rfl (own_lt4 ⟨hn0, Int.lt_of_le_of_lt hni (by decide)⟩)
        rw [own_set4 ⟨hn0, Int.lt_of_le_of_lt hni (by decide)⟩] at q
        exact q
      replace E_po := E_po.wr W42
      replace F_d := F_d.other W42 (Or.inl ne_po_b2)
      replace F_f := F_f.other W42 (Or.inl ne_po_b2)
      replace V_da := V_da.other W42 ne_da_b2
      replace V_fa := V_fa.other W42 ne_fa_b2
      replace FN := FN.other W42 ne_fn_b2
      replace E_rr := E_rr.wr W42
      replace F_th := F_th.other W42 (Or.inl ne_rr_b2)
      replace F_go := F_go.other W42 (Or.inl ne_cut_b2)
      replace V_gz := V_gz.other W42 ne_gz_b2
      replace Ex_b2 := Ex_b2.wr W42
      replace V_b4 := V_b4.other W42 (Ne.symm ne_b2_b4)
      replace Ex_b4 := Ex_b4.wr W42
      replace Z0 := Nat.le_trans Z0 (Keep.of_wr W42).1
      replace N0 := Fr.snoc X42 N0 g_b2
      replace K0 := K0.wr W42 (Or.inr ge_b2)
      refine own_st st42 ?_
      show own_Go p e below G (T42.setTop (mkF m 51 #[.val (.ref po), .val (.ref fn), .val (.ref b2), .val (.ref b4), .val (.int nn), .val (.int (0 : Int32))] []))
      refine own_st (fun t k => XS.aloadN X42.here hx rfl (hb hby d10_51) rfl rfl  k) ?_
      show own_Go p e below G (T42.setTop (mkF m 52 #[.val (.ref po), .val (.ref fn), .val (.ref b2), .val (.ref b4), .val (.int nn), .val (.int (0 : Int32))] [(.ref b4)]))
      refine own_st (fun t k => XS.iload X42.here hx rfl (hb hby d10_52) rfl  k) ?_
      show own_Go p e below G (T42.setTop (mkF m 54 #[.val (.ref po), .val (.ref fn), .val (.ref b2), .val (.ref b4), .val (.int nn), .val (.int (0 : Int32))] [(.int nn), (.ref b4)]))
      refine own_st (fun t k => XS.aloadN X42.here hx rfl (hb hby d10_54) rfl rfl  k) ?_
      show own_Go p e below G (T42.setTop (mkF m 55 #[.val (.ref po), .val (.ref fn), .val (.ref b2), .val (.ref b4), .val (.int nn), .val (.int (0 : Int32))] [(.ref po), (.int nn), (.ref b4)]))
      obtain ⟨T43, X43, e43, st43⟩ := getF X42 hx hZ hown (host := "") (Or.inl (hw _ (List.mem_of_getElem? (i := 53) rfl))) Via.refl e42 F_f (g := (mkF m 55 #[.val (.ref po), .val (.ref fn), .val (.ref b2), .val (.ref b4), .val (.int nn), .val (.int (0 : Int32))] [(.ref po), (.int nn), (.ref b4)])) rfl rfl (hb hby d10_55)
      refine own_st st43 ?_
      show own_Go p e below G (T43.setTop (mkF m 58 #[.val (.ref po), .val (.ref fn), .val (.ref b2), .val (.ref b4), .val (.int nn), .val (.int (0 : Int32))] [(.ref fa), (.int nn), (.ref b4)]))
      refine own_st (fun t k => XS.iload X43.here hx rfl (hb hby d10_58) rfl  k) ?_
      show own_Go p e below G (T43.setTop (mkF m 60 #[.val (.ref po), .val (.ref fn), .val (.ref b2), .val (.ref b4), .val (.int nn), .val (.int (0 : Int32))] [(.int (0 : Int32)), (.ref fa), (.int nn), (.ref b4)]))
      have Vc44 := V_fa
      obtain ⟨cl44, Ar44, -, Sa44, -, Ha44, -⟩ := Vc44
      have hin44 : ¬ ((0 : Int32) < 0 ∨ cl44.slots.size ≤ ((0 : Int32)).toNatClampNeg) := inb_of Sa44 ⟨by decide, by decide⟩
      refine own_st (fun t k => X43.iaload hx (j := (0 : Int32)) (v := (.int (1 : Int32))) (by rw [e43]; exact Ar44.1) (State.isArrayOf_alike hZ.alike Ar44.2.1) Ar44.2.2 hin44 (Ha44.at hin44 rfl) (g := (mkF m 60 #[.val (.ref po), .val (.ref fn), .val (.ref b2), .val (.ref b4), .val (.int nn), .val (.int (0 : Int32))] [(.int (0 : Int32)), (.ref fa), (.int nn), (.ref b4)])) rfl rfl (hb hby d10_60) t k) ?_
      show own_Go p e below G (T43.setTop (mkF m 61 #[.val (.ref po), .val (.ref fn), .val (.ref b2), .val (.ref b4), .val (.int nn), .val (.int (0 : Int32))] [(.int (1 : Int32)), (.int nn), (.ref b4)]))
      obtain ⟨cl45, Ar45, qa45, Sa45, Na45, Ha45, Ga45⟩ := V_b4
      have hin45 : ¬ (nn < 0 ∨ cl45.slots.size ≤ (nn).toNatClampNeg) := inb_of Sa45 (own_bd4 ⟨hn0, Int.lt_of_le_of_lt hni (by decide)⟩)
      obtain ⟨T45, h45, X45, e45, W45, st45⟩ := stI X43 hx hZ e43 Ar45 (j := nn) hin45 (g := (mkF m 61 #[.val (.ref po), .val (.ref fn), .val (.ref b2), .val (.ref b4), .val (.int nn), .val (.int (0 : Int32))] [(.int (1 : Int32)), (.int nn), (.ref b4)])) rfl rfl (hb hby d10_61)
      have V_b4 : Arv Z h45 b4 k4 .int (4 : Int32) [(.int (own_sl nn 0 (1 : Int32) y0)), (.int (own_sl nn 1 (1 : Int32) y1)), (.int (own_sl nn 2 (1 : Int32) y2)), (.int (own_sl nn 3 (1 : Int32) y3))] (.int (0 : Int32)) := by
        have q := Arv.set Ar45 qa45 Sa45 Na45 Ha45 Ga45 rfl W45 _ rfl (own_lt4 ⟨hn0, Int.lt_of_le_of_lt hni (by decide)⟩)
        rw [own_set4 ⟨hn0, Int.lt_of_le_of_lt hni (by decide)⟩] at q
        exact q
      replace E_po := E_po.wr W45
      replace F_d := F_d.other W45 (Or.inl ne_po_b4)
      replace F_f := F_f.other W45 (Or.inl ne_po_b4)
      replace V_da := V_da.other W45 ne_da_b4
      replace V_fa := V_fa.other W45 ne_fa_b4
      replace FN := FN.other W45 ne_fn_b4
      replace E_rr := E_rr.wr W45
      replace F_th := F_th.other W45 (Or.inl ne_rr_b4)
      replace F_go := F_go.other W45 (Or.inl ne_cut_b4)
      replace V_gz := V_gz.other W45 ne_gz_b4
      replace V_b2 := V_b2.other W45 ne_b2_b4
      replace Ex_b2 := Ex_b2.wr W45
      replace Ex_b4 := Ex_b4.wr W45
      replace Z0 := Nat.le_trans Z0 (Keep.of_wr W45).1
      replace N0 := Fr.snoc X45 N0 g_b4
      replace K0 := K0.wr W45 (Or.inr ge_b4)
      refine own_st st45 ?_
      show own_Go p e below G (T45.setTop (mkF m 62 #[.val (.ref po), .val (.ref fn), .val (.ref b2), .val (.ref b4), .val (.int nn), .val (.int (0 : Int32))] []))
      refine own_st (fun t k => XS.iinc X45.here hx rfl (hb hby d10_62) rfl (l' := #[.val (.ref po), .val (.ref fn), .val (.ref b2), .val (.ref b4), .val (.int (nn + (1 : Int32))), .val (.int (0 : Int32))]) rfl k) ?_
      show own_Go p e below G (T45.setTop (mkF m 65 #[.val (.ref po), .val (.ref fn), .val (.ref b2), .val (.ref b4), .val (.int (nn + (1 : Int32))), .val (.int (0 : Int32))] []))
      refine own_st (fun t k => XS.iinc X45.here hx rfl (hb hby d10_65) rfl (l' := #[.val (.ref po), .val (.ref fn), .val (.ref b2), .val (.ref b4), .val (.int (nn + (1 : Int32))), .val (.int (1 : Int32))]) rfl k) ?_
      show own_Go p e below G (T45.setTop (mkF m 68 #[.val (.ref po), .val (.ref fn), .val (.ref b2), .val (.ref b4), .val (.int (nn + (1 : Int32))), .val (.int (1 : Int32))] []))
      refine own_st (fun t k => XS.goto X45.here hx rfl (pc0 := 68) (pc' := 20) rfl (hb hby d10_68) (by decide) (by decide) k) ?_
      show own_Go p e below G (T45.setTop (mkF m 20 #[.val (.ref po), .val (.ref fn), .val (.ref b2), .val (.ref b4), .val (.int (nn + (1 : Int32))), .val (.int (1 : Int32))] []))
      exact J1 (nn + (1 : Int32)) (own_sl nn 0 (0 : Int32) x0) (own_sl nn 1 (0 : Int32) x1) (own_sl nn 2 (0 : Int32) x2) (own_sl nn 3 (0 : Int32) x3) (own_sl nn 0 (1 : Int32) y0) (own_sl nn 1 (1 : Int32) y1) (own_sl nn 2 (1 : Int32) y2) (own_sl nn 3 (1 : Int32) y3) _ _ _ X45 e45 N0 Z0 K0 E_po F_d F_f V_da V_fa FN E_rr F_th F_go V_gz V_b2 Ex_b2 V_b4 Ex_b4 (by rw [own_inc hn0 (Int.lt_of_le_of_lt hni (by decide))]; omega) (by rw [own_inc hn0 (Int.lt_of_le_of_lt hni (by decide))]; omega) (by rw [← hst]; exact (if_pos (own_nt0 c37_39)).symm)
  exact J0 (0 : Int32) (0 : Int32) (0 : Int32) (0 : Int32) (0 : Int32) (0 : Int32) (0 : Int32) (0 : Int32) (0 : Int32) _ _ _ X4 e4 N0 Z0 K0 E_po F_d F_f V_da V_fa FN E_rr F_th F_go V_gz V_b2 Ex_b2 V_b4 Ex_b4 (by decide) (by decide) rfl
theorem d11_0 : decode prog_195_method_3_code 0 = .ok (.aload_n 3, 1) := by decide +kernel
theorem d11_1 : decode prog_195_method_3_code 1 = .ok (.invokevirtual 17, 3) := by decide +kernel
theorem d11_4 : decode prog_195_method_3_code 4 = .ok (.astore 4, 2) := by decide +kernel
theorem d11_6 : decode prog_195_method_3_code 6 = .ok (.aload_n 3, 1) := by decide +kernel
theorem d11_7 : decode prog_195_method_3_code 7 = .ok (.aload_n 0, 1) := by decide +kernel
theorem d11_8 : decode prog_195_method_3_code 8 = .ok (.aload 4, 2) := by decide +kernel
theorem d11_10 : decode prog_195_method_3_code 10 = .ok (.invokedynamic 23, 5) := by decide +kernel
theorem d11_15 : decode prog_195_method_3_code 15 = .ok (.invokevirtual 27, 3) := by decide +kernel
theorem d11_18 : decode prog_195_method_3_code 18 = .ok (.areturn, 1) := by decide +kernel
theorem pn_rm11 : plainFor (⟨"com/example/thinleaf/thinleaf/prune/DocumentCut$1", "keep", "(ILcom/example/thinleaf/thinleaf/core/index/LexiconEntry;Lcom/example/thinleaf/thinleaf/core/index/Postings;)Lcom/example/thinleaf/thinleaf/core/index/Postings;"⟩ : MethodName) = true := by decide +kernel
theorem ef_rm11 (m : MethodId) (x0 : Addr) (x1 : Int32) (x3 : Addr) : entryFrame m #[(.ref x0), (.int x1), .null, (.ref x3)] 5 = mkF m 0 #[.val (.ref x0), .val (.int x1), .val .null, .val (.ref x3), .unset] [] := by first | (simp [entryFrame, mkF, argsToLocals, Value.category]; done) | rfl
set_option maxRecDepth 65536 in
set_option maxHeartbeats 40000000 in
theorem rm11 (l : Launch) (Z : State) (a0 : Array Value) (hw : ∀ d ∈ tables_1, d.before a0 Z = true) (rr : Addr) (i1 : Int32) (po da fa cut gz : Addr) (kd kf kg : ClassId) (g0 g1 g2 g3 : Int32) (h0 : Heap) (n0 : Nat) (Z0 : n0 ≤ h0.size) (E_po : Exa Z h0 po "com/example/thinleaf/thinleaf/core/index/Postings") (F_d : Fld Z h0 po "com/example/thinleaf/thinleaf/core/index/Postings" "documents" "[I" (.ref da)) (F_f : Fld Z h0 po "com/example/thinleaf/thinleaf/core/index/Postings" "frequencies" "[I" (.ref fa)) (V_da : Arv Z h0 da kd .int (4 : Int32) [(.int (0 : Int32)), (.int (1 : Int32)), (.int (2 : Int32)), (.int (3 : Int32))] (.int (0 : Int32))) (V_fa : Arv Z h0 fa kf .int (4 : Int32) [(.int (1 : Int32)), (.int (1 : Int32)), (.int (1 : Int32)), (.int (1 : Int32))] (.int (0 : Int32))) (E_rr : Exa Z h0 rr "com/example/thinleaf/thinleaf/prune/DocumentCut$1") (F_th : Fld Z h0 rr "com/example/thinleaf/thinleaf/prune/DocumentCut$1" "this$0" "Lcom/example/thinleaf/thinleaf/prune/DocumentCut;" (.ref cut)) (F_go : Fld Z h0 cut "com/example/thinleaf/thinleaf/prune/DocumentCut" "goes" "[Z" (.ref gz)) (V_gz : Arv Z h0 gz kg .boolean (4 : Int32) [(.int g0), (.int g1), (.int g2), (.int g3)] (.int (0 : Int32))) :
    own_MetH l Z Z (⟨"com/example/thinleaf/thinleaf/prune/DocumentCut$1", "keep", "(ILcom/example/thinleaf/thinleaf/core/index/LexiconEntry;Lcom/example/thinleaf/thinleaf/core/index/Postings;)Lcom/example/thinleaf/thinleaf/core/index/Postings;"⟩ : MethodName) prog_195_method_3_code 5 (some (.object "com/example/thinleaf/thinleaf/core/index/Postings")) [] ({ frames := 4, cells := 6, slots := 20, locals := 3080 } : Room) #[(.ref rr), (.int i1), .null, (.ref po)] h0 (fun v h L => ∃ (b nd : Addr) (kn : ClassId) (nn x0 x1 x2 x3 : Int32), v = some (.ref b) ∧ Fr n0 L ∧ Keep h0 h [] ∧ h0.size ≤ b ∧ h0.size ≤ nd ∧ Exa Z h b "com/example/thinleaf/thinleaf/core/index/Postings" ∧ Fld Z h b "com/example/thinleaf/thinleaf/core/index/Postings" "documents" "[I" (.ref nd) ∧ Arv Z h nd kn .int nn [(.int x0), (.int x1), (.int x2), (.int x3)] (.int (0 : Int32)) ∧ (nn, x0, x1, x2, x3) = (own_stp g3 3 (own_stp g2 2 (own_stp g1 1 (own_stp g0 0 ((0 : Int32), (0 : Int32), (0 : Int32), (0 : Int32), (0 : Int32))))))) := by
  refine own_bodyH pn_rm11 ?_
  intro p e s m below meth c s₁ hx hby hml hown hnm hret hlk hZ hY hnd X0 e0 G hG
  replace hml : c.maxLocals = 5 := hml
  replace hown : s.vm.findClass "com/example/thinleaf/thinleaf/prune/DocumentCut$1" = some m.cls := hown
  rw [ef_rm11]
  have N0 := Fr.nil n0
  have K0 := Keep.refl h0 []
  show own_Go p e below G (s₁.setTop (mkF m 0 #[.val (.ref rr), .val (.int i1), .val .null, .val (.ref po), .unset] []))
  refine own_st (fun t k => XS.aloadN X0.here hx rfl (hb hby d11_0) rfl rfl  k) ?_
  show own_Go p e below G (s₁.setTop (mkF m 1 #[.val (.ref rr), .val (.int i1), .val .null, .val (.ref po), .unset] [(.ref po)]))
  obtain ⟨v1, T1, L1, X1, Q1, st1⟩ := own_callV X0 hx hZ (y := (⟨"com/example/thinleaf/thinleaf/core/index/Postings", "documents", "()[I"⟩ : MethodName)) (z := (⟨"com/example/thinleaf/thinleaf/core/index/Postings", "documents", "()[I"⟩ : MethodName)) hown (hw _ (List.mem_of_getElem? (i := 64) rfl)) (hw _ (List.mem_of_getElem? (i := 65) rfl)) (notFace_of_selects (args := #[]) (mvT hZ (hw _ (List.mem_of_getElem? (i := 67) rfl)))) (hw _ (List.mem_of_getElem? (i := 67) rfl)) (hw _ (List.mem_of_getElem? (i := 66) rfl)) (hw _ (List.mem_of_getElem? (i := 41) rfl)) (hw _ (List.mem_of_getElem? (i := 68) rfl)) (by decide) (W := 0) (rm5 l Z a0 hw po da h0 F_d) (by decide) (by decide) e0 E_po (g := (mkF m 1 #[.val (.ref rr), .val (.int i1), .val .null, .val (.ref po), .unset] [(.ref po)])) rfl (by rw [hml]; rfl) (argsL := []) (rest := []) own_pd6 rfl rfl (by show 2 * 0 + _ ≤ _; exact Nat.le_of_eq rfl) (hb hby d11_1) rfl (by decide) (by decide)
  obtain ⟨rfl, rfl, e1⟩ := Q1
  simp only [List.append_nil, Nat.add_zero] at X1
  refine own_st st1 ?_
  show own_Go p e below G (T1.setTop (mkF m 4 #[.val (.ref rr), .val (.int i1), .val .null, .val (.ref po), .unset] [(.ref da)]))
  refine own_st (fun t k => XS.astore X1.here hx rfl (hb hby d11_4) rfl rfl (l' := #[.val (.ref rr), .val (.int i1), .val .null, .val (.ref po), .val (.ref da)]) rfl k) ?_
  show own_Go p e below G (T1.setTop (mkF m 6 #[.val (.ref rr), .val (.int i1), .val .null, .val (.ref po), .val (.ref da)] []))
  refine own_st (fun t k => XS.aloadN X1.here hx rfl (hb hby d11_6) rfl rfl  k) ?_
  show own_Go p e below G (T1.setTop (mkF m 7 #[.val (.ref rr), .val (.int i1), .val .null, .val (.ref po), .val (.ref da)] [(.ref po)]))
  refine own_st (fun t k => XS.aloadN X1.here hx rfl (hb hby d11_7) rfl rfl  k) ?_
  show own_Go p e below G (T1.setTop (mkF m 8 #[.val (.ref rr), .val (.int i1), .val .null, .val (.ref po), .val (.ref da)] [(.ref rr), (.ref po)]))
  refine own_st (fun t k => XS.aload X1.here hx rfl (hb hby d11_8) rfl rfl  k) ?_
  show own_Go p e below G (T1.setTop (mkF m 10 #[.val (.ref rr), .val (.int i1), .val .null, .val (.ref po), .val (.ref da)] [(.ref da), (.ref rr), (.ref po)]))
  obtain ⟨cK2, T2, h2, hmd2, X2, e2, E2, A2, st2⟩ := own_site X1 hx hY (x := (⟨"com/example/thinleaf/thinleaf/prune/DocumentCut$1", "keep", "(ILcom/example/thinleaf/thinleaf/core/index/LexiconEntry;Lcom/example/thinleaf/thinleaf/core/index/Postings;)Lcom/example/thinleaf/thinleaf/core/index/Postings;"⟩ : MethodName)) (pc := 10) (index := 23) (fi := 17) (σ := own_sg) hnd (hw _ (List.mem_of_getElem? (i := 69) rfl)) (List.cons_ne_nil _ _) own_c0 (hw _ (List.mem_of_getElem? (i := 72) rfl)) e1 (g := (mkF m 10 #[.val (.ref rr), .val (.int i1), .val .null, .val (.ref po), .val (.ref da)] [(.ref da), (.ref rr), (.ref po)])) rfl rfl (by rw [hml]; rfl) (hb hby d11_10) (rest := [(.ref po)]) rfl rfl own_cr (by show 2 * 0 + 3 + 3072 ≤ 3080; decide) (by decide) (by decide)
  obtain ⟨b2, gb2⟩ : ∃ z, z = h0.size := ⟨_, rfl⟩
  rw [← gb2] at A2 st2
  have g_b2 : n0 ≤ b2 := Nat.le_trans Z0 (Nat.le_of_eq gb2.symm)
  have ne_po_b2 : po ≠ b2 := Nat.ne_of_lt (Nat.lt_of_lt_of_le E_po.lt (Nat.le_of_eq gb2.symm))
  have ne_da_b2 : da ≠ b2 := Nat.ne_of_lt (Nat.lt_of_lt_of_le V_da.lt (Nat.le_of_eq gb2.symm))
  have ne_fa_b2 : fa ≠ b2 := Nat.ne_of_lt (Nat.lt_of_lt_of_le V_fa.lt (Nat.le_of_eq gb2.symm))
  have ne_rr_b2 : rr ≠ b2 := Nat.ne_of_lt (Nat.lt_of_lt_of_le E_rr.lt (Nat.le_of_eq gb2.symm))
  have ne_cut_b2 : cut ≠ b2 := Nat.ne_of_lt (Nat.lt_of_lt_of_le F_go.lt (Nat.le_of_eq gb2.symm))
  have ne_gz_b2 : gz ≠ b2 := Nat.ne_of_lt (Nat.lt_of_lt_of_le V_gz.lt (Nat.le_of_eq gb2.symm))
  replace Z0 := Nat.le_trans Z0 E2.1
  replace E_po := E_po.ext E2
  replace F_d := F_d.ext E2
  replace F_f := F_f.ext E2
  replace V_da := V_da.ext E2
  replace V_fa := V_fa.ext E2
  replace E_rr := E_rr.ext E2
  replace F_th := F_th.ext E2
  replace F_go := F_go.ext E2
  replace V_gz := V_gz.ext E2
  have FN : own_Fn h2 b2 cK2 rr da := ⟨_, A2, rfl, rfl, rfl, rfl⟩
  have ge_b2 : h0.size ≤ b2 := Nat.le_trans K0.1 (Nat.le_of_eq gb2.symm)
  replace K0 := K0.ext E2
  refine own_st st2 ?_
  show own_Go p e below G (T2.setTop (mkF m 15 #[.val (.ref rr), .val (.int i1), .val .null, .val (.ref po), .val (.ref da)] [(.ref b2), (.ref po)]))
  obtain ⟨v3, T3, L3, X3, Q3, st3⟩ := own_callVH X2 hx hZ hY (y := (⟨"com/example/thinleaf/thinleaf/core/index/Postings", "keeping", "(Ljava/util/function/IntPredicate;)Lcom/example/thinleaf/thinleaf/core/index/Postings;"⟩ : MethodName)) (z := (⟨"com/example/thinleaf/thinleaf/core/index/Postings", "keeping", "(Ljava/util/function/IntPredicate;)Lcom/example/thinleaf/thinleaf/core/index/Postings;"⟩ : MethodName)) hown (hw _ (List.mem_of_getElem? (i := 73) rfl)) (hw _ (List.mem_of_getElem? (i := 74) rfl)) (notFace_of_selects (args := #[]) (mvT hZ (hw _ (List.mem_of_getElem? (i := 76) rfl)))) (hw _ (List.mem_of_getElem? (i := 76) rfl)) (hw _ (List.mem_of_getElem? (i := 75) rfl)) (hw _ (List.mem_of_getElem? (i := 41) rfl)) (hw _ (List.mem_of_getElem? (i := 77) rfl)) (by decide) (W := 0) (rm10 l Z a0 hw po b2 da fa rr cut gz kd kf kg cK2 g0 g1 g2 g3 h2 n0 Z0 E_po F_d F_f V_da V_fa FN E_rr F_th F_go V_gz hmd2) (by decide) (by decide) e2 E_po (g := (mkF m 15 #[.val (.ref rr), .val (.int i1), .val .null, .val (.ref po), .val (.ref da)] [(.ref b2), (.ref po)])) rfl (by rw [hml]; rfl) (argsL := [(.ref b2)]) (rest := []) own_pd7 rfl rfl (by show 2 * 0 + _ ≤ _; exact Nat.le_of_eq rfl) (hb hby d11_15) rfl (by decide) (by decide)
  obtain ⟨kb, nd, kn, nn, x0, x1, x2, x3, rfl, Nq, Kq, geb, gend, Eq, Fq, Vq, hst⟩ := Q3
  replace N0 := Fr.app N0 Nq
  have geb' := Nat.le_trans K0.1 geb
  have gend' := Nat.le_trans K0.1 gend
  replace K0 := K0.trans Kq (fun x hx => nomatch hx)
  refine own_st st3 ?_
  show own_Go p e below G (T3.setTop (mkF m 18 #[.val (.ref rr), .val (.int i1), .val .null, .val (.ref po), .val (.ref da)] [(.ref kb)]))
  rw [hG]
  exact own_retA X3 hx hlk hret rfl rfl (hb hby d11_18) ⟨kb, nd, kn, nn, x0, x1, x2, x3, rfl, N0, K0, geb', gend', Eq, Fq, Vq, hst⟩ (by decide) (by decide)
theorem own_m31 (x : Int32) : 0 ≤ (x &&& 2147483647).toInt := (c_andS x 2147483647).2.2 (by decide)
theorem own_fr (x : Int32) : 0 ≤ ((x &&& 7) % 5).toInt ∧ ((x &&& 7) % 5).toInt ≤ 4 := by
  have h1 := (c_andS x 7).2.2 (by decide)
  have h2 := (c_irem (x &&& 7) 5 5 rfl).1 h1
  omega
theorem own_m3 (x : Int32) : 0 ≤ (x &&& 3).toInt ∧ (x &&& 3).toInt ≤ 3 := by
  have m1 := c_mask x 3 2 (by decide) (by decide)
  simp only [Nat.reducePow, Int.cast_ofNat_Int] at m1
  omega
theorem own_up : ∀ x : Fin 4, (own_i4 x &&& 3 = own_i4 x ∧ (own_i4 x + 1) &&& 3 = own_i4 (x + 1) ∧ (own_i4 x + 2) &&& 3 = own_i4 (x + 2) ∧ (own_i4 x + 3) &&& 3 = own_i4 (x + 3)) ∧ x ≠ x + 1 ∧ x ≠ x + 2 ∧ x ≠ x + 3 ∧ x + 1 ≠ x + 2 ∧ x + 1 ≠ x + 3 ∧ x + 2 ≠ x + 3 := by decide +kernel
theorem own_dn : ∀ x : Fin 4, (own_i4 x &&& 3 = own_i4 x ∧ (own_i4 x - 1) &&& 3 = own_i4 (x + 3) ∧ (own_i4 x - 2) &&& 3 = own_i4 (x + 2) ∧ (own_i4 x - 3) &&& 3 = own_i4 (x + 1)) ∧ x ≠ x + 3 ∧ x ≠ x + 2 ∧ x ≠ x + 1 ∧ x + 3 ≠ x + 2 ∧ x + 3 ≠ x + 1 ∧ x + 2 ≠ x + 1 := by decide +kernel
theorem own_perm {ro rv o0 o1 o2 o3 : Int32} (hr : 0 ≤ ro.toInt ∧ ro.toInt ≤ 3) (h0 : o0 = (ro &&& 3)) (h1 : o1 = if rv = 0 then (ro + 1) &&& 3 else (ro - 1) &&& 3) (h2 : o2 = if rv = 0 then (ro + 2) &&& 3 else (ro - 2) &&& 3) (h3 : o3 = if rv = 0 then (ro + 3) &&& 3 else (ro - 3) &&& 3) : own_Pm o0 o1 o2 o3 := by
  obtain ⟨x, rfl⟩ := own_isF hr.1 (by omega)
  by_cases c : rv = 0
  · rw [if_pos c] at h1 h2 h3
    subst h0 h1 h2 h3
    exact ⟨x, x + 1, x + 2, x + 3, own_up x⟩
  · rw [if_neg c] at h1 h2 h3
    subst h0 h1 h2 h3
    exact ⟨x, x + 3, x + 2, x + 1, own_dn x⟩
theorem own_pmb {o0 o1 o2 o3 : Int32} (hP : own_Pm o0 o1 o2 o3) : (0 ≤ o0.toInt ∧ o0.toInt < 4) ∧ (0 ≤ o1.toInt ∧ o1.toInt < 4) ∧ (0 ≤ o2.toInt ∧ o2.toInt < 4) ∧ (0 ≤ o3.toInt ∧ o3.toInt < 4) := by
  obtain ⟨a, b, c, d, ⟨rfl, rfl, rfl, rfl⟩, -⟩ := hP
  have q : ∀ x : Fin 4, 0 ≤ (own_i4 x).toInt ∧ (own_i4 x).toInt < 4 := by decide
  exact ⟨q a, q b, q c, q d⟩
theorem own_p5T {q0 q1 q2 q3 : Int32} (h0 : 0 ≤ q0.toInt) (h1 : 0 ≤ q1.toInt) (h2 : 0 ≤ q2.toInt) (h3 : 0 ≤ q3.toInt) {j : Int32} (hj : 0 ≤ j.toInt ∧ j.toInt ≤ 4) :
    (own_p5 j (0 : Int64) ((0 : Int64) + (q0.toInt64)) (((0 : Int64) + (q0.toInt64)) + (q1.toInt64)) ((((0 : Int64) + (q0.toInt64)) + (q1.toInt64)) + (q2.toInt64)) (((((0 : Int64) + (q0.toInt64)) + (q1.toInt64)) + (q2.toInt64)) + (q3.toInt64))).toInt = own_T q0 q1 q2 q3 j.toInt := by
  have l0 := Int32.toInt_lt q0; have l1 := Int32.toInt_lt q1; have l2 := Int32.toInt_lt q2
  have z : (0 : Int64).toInt = 0 := rfl
  have a1 := own_addL (r := (0 : Int64)) (q := q0) (by decide) (by decide) h0
  have a2 := own_addL (r := (0 : Int64) + (q0.toInt64)) (q := q1) (by omega) (by omega) h1
  have a3 := own_addL (r := ((0 : Int64) + (q0.toInt64)) + (q1.toInt64)) (q := q2) (by omega) (by omega) h2
  have a4 := own_addL (r := (((0 : Int64) + (q0.toInt64)) + (q1.toInt64)) + (q2.toInt64)) (q := q3) (by omega) (by omega) h3
  have : j = 0 ∨ j = 1 ∨ j = 2 ∨ j = 3 ∨ j = 4 := by
    simp only [← Int32.toInt_inj, show (0 : Int32).toInt = 0 from rfl, show (1 : Int32).toInt = 1 from rfl, show (2 : Int32).toInt = 2 from rfl, show (3 : Int32).toInt = 3 from rfl, show (4 : Int32).toInt = 4 from rfl]
    omega
  rcases this with rfl | rfl | rfl | rfl | rfl
  · rfl
  · show ((0 : Int64) + (q0.toInt64)).toInt = q0.toInt; omega
  · show (((0 : Int64) + (q0.toInt64)) + (q1.toInt64)).toInt = q0.toInt + q1.toInt; omega
  · show ((((0 : Int64) + (q0.toInt64)) + (q1.toInt64)) + (q2.toInt64)).toInt = q0.toInt + q1.toInt + q2.toInt; omega
  · show (((((0 : Int64) + (q0.toInt64)) + (q1.toInt64)) + (q2.toInt64)) + (q3.toInt64)).toInt = q0.toInt + q1.toInt + q2.toInt + q3.toInt; omega
theorem own_subL {a b : Int64} {x y : Int} (ha : a.toInt = x) (hb : b.toInt = y) (h1 : 0 ≤ x ∧ x < 8589934592) (h2 : 0 ≤ y ∧ y < 8589934592) : (a - b).toInt = x - y := by
  rw [Int64.toInt_sub, ha, hb]; exact Int.bmod_eq_of_le (by omega) (by omega)
theorem own_share {s re : Int64} (h0 : 0 ≤ re.toInt) (h1 : re.toInt < 8589934592) : (re + (1 : Int64)) ≠ 0 ∧ 0 ≤ ((s &&& (9223372036854775807 : Int64)) - ((s &&& (9223372036854775807 : Int64)) / (re + (1 : Int64))) * (re + (1 : Int64))).toInt ∧ ((s &&& (9223372036854775807 : Int64)) - ((s &&& (9223372036854775807 : Int64)) / (re + (1 : Int64))) * (re + (1 : Int64))).toInt ≤ re.toInt := by
  have hy : (re + (1 : Int64)).toInt = re.toInt + 1 := by
    rw [Int64.toInt_add, show (1 : Int64).toInt = 1 from rfl]; exact Int.bmod_eq_of_le (by omega) (by omega)
  have hx := (c_andSL s 9223372036854775807).2.2 (by decide)
  have q := (c_lrem (s &&& (9223372036854775807 : Int64)) (re + (1 : Int64)) (re.toInt + 1) hy).1 hx
  have e1 := Int.emod_nonneg (s &&& (9223372036854775807 : Int64)).toInt (show re.toInt + 1 ≠ 0 by omega)
  have e2 := Int.emod_lt_of_pos (s &&& (9223372036854775807 : Int64)).toInt (show 0 < re.toInt + 1 by omega)
  refine ⟨fun z => ?_, by rw [q]; exact e1, by rw [q]; omega⟩
  rw [z] at hy
  have : (0 : Int64).toInt = 0 := rfl
  omega
theorem own_nlt {a b : Int32} (h : b.toInt ≤ a.toInt) : ¬ a < b := by rw [Int32.lt_iff_toInt_lt]; omega
theorem own_ltL {a b : Int64} (h : a.toInt < b.toInt) : a < b := Int64.lt_iff_toInt_lt.mpr h
theorem own_nltL {a b : Int64} (h : b.toInt ≤ a.toInt) : ¬ a < b := by rw [Int64.lt_iff_toInt_lt]; omega
theorem own_dec {t : Int32} (h0 : 0 < t.toInt) (h4 : t.toInt ≤ 4) : (t - (1 : Int32)).toInt = t.toInt - 1 := by
  rw [Int32.toInt_sub, show (1 : Int32).toInt = 1 from rfl]; exact Int.bmod_eq_of_le (by omega) (by omega)
theorem own_inj {a b c d e a' b' c' d' e' : Int32} (h : (a, b, c, d, e) = (a', b', c', d', e')) : a = a' ∧ b = b' ∧ c = c' ∧ d = d' ∧ e = e' := by
  cases h; exact ⟨rfl, rfl, rfl, rfl, rfl⟩

theorem pn_rm0 : plainFor (⟨"com/example/thinleaf/thinleaf/prune/DocumentCutRemovePinLaw", "law", "(IIIIJI)Z"⟩ : MethodName) = true := by decide +kernel
theorem ef_rm0 (m : MethodId) (x0 : Int32) (x1 : Int32) (x2 : Int32) (x3 : Int32) (x4 : Int64) (x5 : Int32) : entryFrame m #[(.int x0), (.int x1), (.int x2), (.int x3), (.long x4), (.int x5)] maxLocals = mkF m 0 #[iv x0, iv x1, iv x2, iv x3, .val (.long x4), .second, iv x5, .unset, .unset, .unset, .unset, .unset, .unset, .unset, .unset, .unset, .unset, .unset, .unset, .unset, .unset, .unset, .unset, .unset] [] := by first | (simp [entryFrame, mkF, argsToLocals, Value.category, maxLocals]; done) | rfl
set_option maxRecDepth 65536 in
set_option maxHeartbeats 40000000 in
theorem rm0 (l : Launch) (Z : State) (a0 : Array Value) (hw : ∀ d ∈ tables_1, d.before a0 Z = true) (ws : List Jvm.Cond) (x0 x1 x2 x3 : Int32) (x4 : Int64) (x5 : Int32) (h0 : Heap) (n0 : Nat) (Z0 : n0 ≤ h0.size) :
    own_MetH l Z Z x code maxLocals ret ws room_1 #[(.int x0), (.int x1), (.int x2), (.int x3), (.long x4), (.int x5)] h0 (fun v h L => v = some (.int 1) ∧ Fr n0 L) := by
  refine own_bodyH pn_rm0 ?_
  intro p e s m below meth c s₁ hx hby hml hown hnm hret hlk hZ hY hnd X0 e0 G hG
  replace hml : c.maxLocals = 24 := hml
  replace hown : s.vm.findClass "com/example/thinleaf/thinleaf/prune/DocumentCutRemovePinLaw" = some m.cls := hown
  rw [ef_rm0]
  have N0 := Fr.nil n0
  show own_Go p e below G (s₁.setTop (mkF m 0 #[iv x0, iv x1, iv x2, iv x3, .val (.long x4), .second, iv x5, .unset, .unset, .unset, .unset, .unset, .unset, .unset, .unset, .unset, .unset, .unset, .unset, .unset, .unset, .unset, .unset, .unset] []))
  refine own_st (fun t k => XS.iconst X0.here hx rfl (hb hby at_0) k) ?_
  show own_Go p e below G (s₁.setTop (mkF m 1 #[iv x0, iv x1, iv x2, iv x3, .val (.long x4), .second, iv x5, .unset, .unset, .unset, .unset, .unset, .unset, .unset, .unset, .unset, .unset, .unset, .unset, .unset, .unset, .unset, .unset, .unset] [(.int (4 : Int32))]))
  obtain ⟨T1, h1, k1, X1, e1, E1, A1, st1⟩ := newP X0 hx hZ (hw _ (List.mem_of_getElem? (i := 0) rfl)) e0 (g := (mkF m 1 #[iv x0, iv x1, iv x2, iv x3, .val (.long x4), .second, iv x5, .unset, .unset, .unset, .unset, .unset, .unset, .unset, .unset, .unset, .unset, .unset, .unset, .unset, .unset, .unset, .unset, .unset] [(.int (4 : Int32))])) rfl (hb hby at_1) rfl (by decide) (cap := 4) (by decide) (by decide) (by decide) (by decide)
  obtain ⟨b1, gb1⟩ : ∃ z, z = h0.size := ⟨_, rfl⟩
  rw [← gb1] at A1 st1
  have g_b1 : n0 ≤ b1 := Nat.le_trans Z0 (Nat.le_of_eq gb1.symm)
  replace Z0 := Nat.le_trans Z0 E1.1
  have V_b1 : Arv Z h1 b1 k1 .int (4 : Int32) [(.int (0 : Int32)), (.int (0 : Int32)), (.int (0 : Int32)), (.int (0 : Int32))] (.int (0 : Int32)) := (Arv.new A1 (by decide)).pad (pad_rep [] (.int (0 : Int32)) 4)
  refine own_st st1 ?_
  show own_Go p e below G (T1.setTop (mkF m 3 #[iv x0, iv x1, iv x2, iv x3, .val (.long x4), .second, iv x5, .unset, .unset, .unset, .unset, .unset, .unset, .unset, .unset, .unset, .unset, .unset, .unset, .unset, .unset, .unset, .unset, .unset] [(.ref b1)]))
  refine own_st (fun t k => XS.dup X1.here hx rfl (hb hby at_3) rfl rfl k) ?_
  refine own_st (fun t k => XS.iconst X1.here hx rfl (hb hby at_4) k) ?_
  refine own_st (fun t k => XS.iloadN X1.here hx rfl (hb hby at_5) rfl  k) ?_
  show own_Go p e below G (T1.setTop (mkF m 6 #[iv x0, iv x1, iv x2, iv x3, .val (.long x4), .second, iv x5, .unset, .unset, .unset, .unset, .unset, .unset, .unset, .unset, .unset, .unset, .unset, .unset, .unset, .unset, .unset, .unset, .unset] [(.int x0), (.int (0 : Int32)), (.ref b1), (.ref b1)]))
  refine own_st (fun t k => X1.ldcInt hx hown (mvT hZ (hw _ (List.mem_of_getElem? (i := 1) rfl))) (g := (mkF m 6 #[iv x0, iv x1, iv x2, iv x3, .val (.long x4), .second, iv x5, .unset, .unset, .unset, .unset, .unset, .unset, .unset, .unset, .unset, .unset, .unset, .unset, .unset, .unset, .unset, .unset, .unset] [(.int x0), (.int (0 : Int32)), (.ref b1), (.ref b1)])) rfl (hb hby at_6) t k) ?_
  show own_Go p e below G (T1.setTop (mkF m 8 #[iv x0, iv x1, iv x2, iv x3, .val (.long x4), .second, iv x5, .unset, .unset, .unset, .unset, .unset, .unset, .unset, .unset, .unset, .unset, .unset, .unset, .unset, .unset, .unset, .unset, .unset] [(.int (2147483647 : Int32)), (.int x0), (.int (0 : Int32)), (.ref b1), (.ref b1)]))
  refine own_st (fun t k => XS.iand X1.here hx rfl (hb hby at_8) rfl k) ?_
  show own_Go p e below G (T1.setTop (mkF m 9 #[iv x0, iv x1, iv x2, iv x3, .val (.long x4), .second, iv x5, .unset, .unset, .unset, .unset, .unset, .unset, .unset, .unset, .unset, .unset, .unset, .unset, .unset, .unset, .unset, .unset, .unset] [(.int (x0 &&& (2147483647 : Int32))), (.int (0 : Int32)), (.ref b1), (.ref b1)]))
  obtain ⟨cl2, Ar2, qa2, Sa2, Na2, Ha2, Ga2⟩ := V_b1
  have hin2 : ¬ ((0 : Int32) < 0 ∨ cl2.slots.size ≤ ((0 : Int32)).toNatClampNeg) := inb_of Sa2 ⟨by decide, by decide⟩
  obtain ⟨T2, h2, X2, e2, W2, st2⟩ := stI X1 hx hZ e1 Ar2 (j := (0 : Int32)) hin2 (g := (mkF m 9 #[iv x0, iv x1, iv x2, iv x3, .val (.long x4), .second, iv x5, .unset, .unset, .unset, .unset, .unset, .unset, .unset, .unset, .unset, .unset, .unset, .unset, .unset, .unset, .unset, .unset, .unset] [(.int (x0 &&& (2147483647 : Int32))), (.int (0 : Int32)), (.ref b1), (.ref b1)])) rfl rfl (hb hby at_9)
  have V_b1 : Arv Z h2 b1 k1 .int (4 : Int32) [(.int (x0 &&& (2147483647 : Int32))), (.int (0 : Int32)), (.int (0 : Int32)), (.int (0 : Int32))] (.int (0 : Int32)) := Arv.set Ar2 qa2 Sa2 Na2 Ha2 Ga2 rfl W2 0 rfl (Nat.le_of_ble_eq_true rfl)
  replace Z0 := Nat.le_trans Z0 (Keep.of_wr W2).1
  replace N0 := Fr.snoc X2 N0 g_b1
  refine own_st st2 ?_
  show own_Go p e below G (T2.setTop (mkF m 10 #[iv x0, iv x1, iv x2, iv x3, .val (.long x4), .second, iv x5, .unset, .unset, .unset, .unset, .unset, .unset, .unset, .unset, .unset, .unset, .unset, .unset, .unset, .unset, .unset, .unset, .unset] [(.ref b1)]))
  refine own_st (fun t k => XS.dup X2.here hx rfl (hb hby at_10) rfl rfl k) ?_
  refine own_st (fun t k => XS.iconst X2.here hx rfl (hb hby at_11) k) ?_
  refine own_st (fun t k => XS.iloadN X2.here hx rfl (hb hby at_12) rfl  k) ?_
  show own_Go p e below G (T2.setTop (mkF m 13 #[iv x0, iv x1, iv x2, iv x3, .val (.long x4), .second, iv x5, .unset, .unset, .unset, .unset, .unset, .unset, .unset, .unset, .unset, .unset, .unset, .unset, .unset, .unset, .unset, .unset, .unset] [(.int x1), (.int (1 : Int32)), (.ref b1), (.ref b1)]))
  refine own_st (fun t k => X2.ldcInt hx hown (mvT hZ (hw _ (List.mem_of_getElem? (i := 1) rfl))) (g := (mkF m 13 #[iv x0, iv x1, iv x2, iv x3, .val (.long x4), .second, iv x5, .unset, .unset, .unset, .unset, .unset, .unset, .unset, .unset, .unset, .unset, .unset, .unset, .unset, .unset, .unset, .unset, .unset] [(.int x1), (.int (1 : Int32)), (.ref b1), (.ref b1)])) rfl (hb hby at_13) t k) ?_
  show own_Go p e below G (T2.setTop (mkF m 15 #[iv x0, iv x1, iv x2, iv x3, .val (.long x4), .second, iv x5, .unset, .unset, .unset, .unset, .unset, .unset, .unset, .unset, .unset, .unset, .unset, .unset, .unset, .unset, .unset, .unset, .unset] [(.int (2147483647 : Int32)), (.int x1), (.int (1 : Int32)), (.ref b1), (.ref b1)]))
  refine own_st (fun t k => XS.iand X2.here hx rfl (hb hby at_15) rfl k) ?_
  show own_Go p e below G (T2.setTop (mkF m 16 #[iv x0, iv x1, iv x2, iv x3, .val (.long x4), .second, iv x5, .unset, .unset, .unset, .unset, .unset, .unset, .unset, .unset, .unset, .unset, .unset, .unset, .unset, .unset, .unset, .unset, .unset] [(.int (x1 &&& (2147483647 : Int32))), (.int (1 : Int32)), (.ref b1), (.ref b1)]))
  obtain ⟨cl3, Ar3, qa3, Sa3, Na3, Ha3, Ga3⟩ := V_b1
  have hin3 : ¬ ((1 : Int32) < 0 ∨ cl3.slots.size ≤ ((1 : Int32)).toNatClampNeg) := inb_of Sa3 ⟨by decide, by decide⟩
  obtain ⟨T3, h3, X3, e3, W3, st3⟩ := stI X2 hx hZ e2 Ar3 (j := (1 : Int32)) hin3 (g := (mkF m 16 #[iv x0, iv x1, iv x2, iv x3, .val (.long x4), .second, iv x5, .unset, .unset, .unset, .unset, .unset, .unset, .unset, .unset, .unset, .unset, .unset, .unset, .unset, .unset, .unset, .unset, .unset] [(.int (x1 &&& (2147483647 : Int32))), (.int (1 : Int32)), (.ref b1), (.ref b1)])) rfl rfl (hb hby at_16)
  have V_b1 : Arv Z h3 b1 k1 .int (4 : Int32) [(.int (x0 &&& (2147483647 : Int32))), (.int (x1 &&& (2147483647 : Int32))), (.int (0 : Int32)), (.int (0 : Int32))] (.int (0 : Int32)) := Arv.set Ar3 qa3 Sa3 Na3 Ha3 Ga3 rfl W3 1 rfl (Nat.le_of_ble_eq_true rfl)
  replace Z0 := Nat.le_trans Z0 (Keep.of_wr W3).1
  replace N0 := Fr.snoc X3 N0 g_b1
  refine own_st st3 ?_
  show own_Go p e below G (T3.setTop (mkF m 17 #[iv x0, iv x1, iv x2, iv x3, .val (.long x4), .second, iv x5, .unset, .unset, .unset, .unset, .unset, .unset, .unset, .unset, .unset, .unset, .unset, .unset, .unset, .unset, .unset, .unset, .unset] [(.ref b1)]))
  refine own_st (fun t k => XS.dup X3.here hx rfl (hb hby at_17) rfl rfl k) ?_
  refine own_st (fun t k => XS.iconst X3.here hx rfl (hb hby at_18) k) ?_
  refine own_st (fun t k => XS.iloadN X3.here hx rfl (hb hby at_19) rfl  k) ?_
  show own_Go p e below G (T3.setTop (mkF m 20 #[iv x0, iv x1, iv x2, iv x3, .val (.long x4), .second, iv x5, .unset, .unset, .unset, .unset, .unset, .unset, .unset, .unset, .unset, .unset, .unset, .unset, .unset, .unset, .unset, .unset, .unset] [(.int x2), (.int (2 : Int32)), (.ref b1), (.ref b1)]))
  refine own_st (fun t k => X3.ldcInt hx hown (mvT hZ (hw _ (List.mem_of_getElem? (i := 1) rfl))) (g := (mkF m 20 #[iv x0, iv x1, iv x2, iv x3, .val (.long x4), .second, iv x5, .unset, .unset, .unset, .unset, .unset, .unset, .unset, .unset, .unset, .unset, .unset, .unset, .unset, .unset, .unset, .unset, .unset] [(.int x2), (.int (2 : Int32)), (.ref b1), (.ref b1)])) rfl (hb hby at_20) t k) ?_
  show own_Go p e below G (T3.setTop (mkF m 22 #[iv x0, iv x1, iv x2, iv x3, .val (.long x4), .second, iv x5, .unset, .unset, .unset, .unset, .unset, .unset, .unset, .unset, .unset, .unset, .unset, .unset, .unset, .unset, .unset, .unset, .unset] [(.int (2147483647 : Int32)), (.int x2), (.int (2 : Int32)), (.ref b1), (.ref b1)]))
  refine own_st (fun t k => XS.iand X3.here hx rfl (hb hby at_22) rfl k) ?_
  show own_Go p e below G (T3.setTop (mkF m 23 #[iv x0, iv x1, iv x2, iv x3, .val (.long x4), .second, iv x5, .unset, .unset, .unset, .unset, .unset, .unset, .unset, .unset, .unset, .unset, .unset, .unset, .unset, .unset, .unset, .unset, .unset] [(.int (x2 &&& (2147483647 : Int32))), (.int (2 : Int32)), (.ref b1), (.ref b1)]))
  obtain ⟨cl4, Ar4, qa4, Sa4, Na4, Ha4, Ga4⟩ := V_b1
  have hin4 : ¬ ((2 : Int32) < 0 ∨ cl4.slots.size ≤ ((2 : Int32)).toNatClampNeg) := inb_of Sa4 ⟨by decide, by decide⟩
  obtain ⟨T4, h4, X4, e4, W4, st4⟩ := stI X3 hx hZ e3 Ar4 (j := (2 : Int32)) hin4 (g := (mkF m 23 #[iv x0, iv x1, iv x2, iv x3, .val (.long x4), .second, iv x5, .unset, .unset, .unset, .unset, .unset, .unset, .unset, .unset, .unset, .unset, .unset, .unset, .unset, .unset, .unset, .unset, .unset] [(.int (x2 &&& (2147483647 : Int32))), (.int (2 : Int32)), (.ref b1), (.ref b1)])) rfl rfl (hb hby at_23)
  have V_b1 : Arv Z h4 b1 k1 .int (4 : Int32) [(.int (x0 &&& (2147483647 : Int32))), (.int (x1 &&& (2147483647 : Int32))), (.int (x2 &&& (2147483647 : Int32))), (.int (0 : Int32))] (.int (0 : Int32)) := Arv.set Ar4 qa4 Sa4 Na4 Ha4 Ga4 rfl W4 2 rfl (Nat.le_of_ble_eq_true rfl)
  replace Z0 := Nat.le_trans Z0 (Keep.of_wr W4).1
  replace N0 := Fr.snoc X4 N0 g_b1
  refine own_st st4 ?_
  show own_Go p e below G (T4.setTop (mkF m 24 #[iv x0, iv x1, iv x2, iv x3, .val (.long x4), .second, iv x5, .unset, .unset, .unset, .unset, .unset, .unset, .unset, .unset, .unset, .unset, .unset, .unset, .unset, .unset, .unset, .unset, .unset] [(.ref b1)]))
  refine own_st (fun t k => XS.dup X4.here hx rfl (hb hby at_24) rfl rfl k) ?_
  refine own_st (fun t k => XS.iconst X4.here hx rfl (hb hby at_25) k) ?_
  refine own_st (fun t k => XS.iloadN X4.here hx rfl (hb hby at_26) rfl  k) ?_
  show own_Go p e below G (T4.setTop (mkF m 27 #[iv x0, iv x1, iv x2, iv x3, .val (.long x4), .second, iv x5, .unset, .unset, .unset, .unset, .unset, .unset, .unset, .unset, .unset, .unset, .unset, .unset, .unset, .unset, .unset, .unset, .unset] [(.int x3), (.int (3 : Int32)), (.ref b1), (.ref b1)]))
  refine own_st (fun t k => X4.ldcInt hx hown (mvT hZ (hw _ (List.mem_of_getElem? (i := 1) rfl))) (g := (mkF m 27 #[iv x0, iv x1, iv x2, iv x3, .val (.long x4), .second, iv x5, .unset, .unset, .unset, .unset, .unset, .unset, .unset, .unset, .unset, .unset, .unset, .unset, .unset, .unset, .unset, .unset, .unset] [(.int x3), (.int (3 : Int32)), (.ref b1), (.ref b1)])) rfl (hb hby at_27) t k) ?_
  show own_Go p e below G (T4.setTop (mkF m 29 #[iv x0, iv x1, iv x2, iv x3, .val (.long x4), .second, iv x5, .unset, .unset, .unset, .unset, .unset, .unset, .unset, .unset, .unset, .unset, .unset, .unset, .unset, .unset, .unset, .unset, .unset] [(.int (2147483647 : Int32)), (.int x3), (.int (3 : Int32)), (.ref b1), (.ref b1)]))
  refine own_st (fun t k => XS.iand X4.here hx rfl (hb hby at_29) rfl k) ?_
  show own_Go p e below G (T4.setTop (mkF m 30 #[iv x0, iv x1, iv x2, iv x3, .val (.long x4), .second, iv x5, .unset, .unset, .unset, .unset, .unset, .unset, .unset, .unset, .unset, .unset, .unset, .unset, .unset, .unset, .unset, .unset, .unset] [(.int (x3 &&& (2147483647 : Int32))), (.int (3 : Int32)), (.ref b1), (.ref b1)]))
  obtain ⟨cl5, Ar5, qa5, Sa5, Na5, Ha5, Ga5⟩ := V_b1
  have hin5 : ¬ ((3 : Int32) < 0 ∨ cl5.slots.size ≤ ((3 : Int32)).toNatClampNeg) := inb_of Sa5 ⟨by decide, by decide⟩
  obtain ⟨T5, h5, X5, e5, W5, st5⟩ := stI X4 hx hZ e4 Ar5 (j := (3 : Int32)) hin5 (g := (mkF m 30 #[iv x0, iv x1, iv x2, iv x3, .val (.long x4), .second, iv x5, .unset, .unset, .unset, .unset, .unset, .unset, .unset, .unset, .unset, .unset, .unset, .unset, .unset, .unset, .unset, .unset, .unset] [(.int (x3 &&& (2147483647 : Int32))), (.int (3 : Int32)), (.ref b1), (.ref b1)])) rfl rfl (hb hby at_30)
  have V_b1 : Arv Z h5 b1 k1 .int (4 : Int32) [(.int (x0 &&& (2147483647 : Int32))), (.int (x1 &&& (2147483647 : Int32))), (.int (x2 &&& (2147483647 : Int32))), (.int (x3 &&& (2147483647 : Int32)))] (.int (0 : Int32)) := Arv.set Ar5 qa5 Sa5 Na5 Ha5 Ga5 rfl W5 3 rfl (Nat.le_of_ble_eq_true rfl)
  replace Z0 := Nat.le_trans Z0 (Keep.of_wr W5).1
  replace N0 := Fr.snoc X5 N0 g_b1
  refine own_st st5 ?_
  show own_Go p e below G (T5.setTop (mkF m 31 #[iv x0, iv x1, iv x2, iv x3, .val (.long x4), .second, iv x5, .unset, .unset, .unset, .unset, .unset, .unset, .unset, .unset, .unset, .unset, .unset, .unset, .unset, .unset, .unset, .unset, .unset] [(.ref b1)]))
  refine own_st (fun t k => XS.astore X5.here hx rfl (hb hby at_31) rfl rfl (l' := #[iv x0, iv x1, iv x2, iv x3, .val (.long x4), .second, iv x5, rv b1, .unset, .unset, .unset, .unset, .unset, .unset, .unset, .unset, .unset, .unset, .unset, .unset, .unset, .unset, .unset, .unset]) rfl k) ?_
  show own_Go p e below G (T5.setTop (mkF m 33 #[iv x0, iv x1, iv x2, iv x3, .val (.long x4), .second, iv x5, rv b1, .unset, .unset, .unset, .unset, .unset, .unset, .unset, .unset, .unset, .unset, .unset, .unset, .unset, .unset, .unset, .unset] []))
  obtain ⟨p0, hp0⟩ : ∃ z, z = (x0 &&& (2147483647 : Int32)) := ⟨_, rfl⟩
  rw [← hp0] at V_b1
  obtain ⟨p1, hp1⟩ : ∃ z, z = (x1 &&& (2147483647 : Int32)) := ⟨_, rfl⟩
  rw [← hp1] at V_b1
  obtain ⟨p2, hp2⟩ : ∃ z, z = (x2 &&& (2147483647 : Int32)) := ⟨_, rfl⟩
  rw [← hp2] at V_b1
  obtain ⟨p3, hp3⟩ : ∃ z, z = (x3 &&& (2147483647 : Int32)) := ⟨_, rfl⟩
  rw [← hp3] at V_b1
  have hpn : 0 ≤ p0.toInt ∧ 0 ≤ p1.toInt ∧ 0 ≤ p2.toInt ∧ 0 ≤ p3.toInt := ⟨by rw [hp0]; exact own_m31 _, by rw [hp1]; exact own_m31 _, by rw [hp2]; exact own_m31 _, by rw [hp3]; exact own_m31 _⟩
  refine own_st (fun t k => XS.iload X5.here hx rfl (hb hby at_33) rfl  k) ?_
  refine own_st (fun t k => XS.bipush X5.here hx rfl (hb hby at_35) k) ?_
  refine own_st (fun t k => XS.iand X5.here hx rfl (hb hby at_37) rfl k) ?_
  show own_Go p e below G (T5.setTop (mkF m 38 #[iv x0, iv x1, iv x2, iv x3, .val (.long x4), .second, iv x5, rv b1, .unset, .unset, .unset, .unset, .unset, .unset, .unset, .unset, .unset, .unset, .unset, .unset, .unset, .unset, .unset, .unset] [(.int (x5 &&& (7 : Int32)))]))
  refine own_st (fun t k => XS.iconst X5.here hx rfl (hb hby at_38) k) ?_
  show own_Go p e below G (T5.setTop (mkF m 39 #[iv x0, iv x1, iv x2, iv x3, .val (.long x4), .second, iv x5, rv b1, .unset, .unset, .unset, .unset, .unset, .unset, .unset, .unset, .unset, .unset, .unset, .unset, .unset, .unset, .unset, .unset] [(.int (5 : Int32)), (.int (x5 &&& (7 : Int32)))]))
  refine own_st (fun t k => iremM X5 hx rfl (hb hby at_39) rfl (by decide) k) ?_
  show own_Go p e below G (T5.setTop (mkF m 40 #[iv x0, iv x1, iv x2, iv x3, .val (.long x4), .second, iv x5, rv b1, .unset, .unset, .unset, .unset, .unset, .unset, .unset, .unset, .unset, .unset, .unset, .unset, .unset, .unset, .unset, .unset] [(.int ((x5 &&& (7 : Int32)) % (5 : Int32)))]))
  refine own_st (fun t k => XS.istore X5.here hx rfl (hb hby at_40) rfl (l' := #[iv x0, iv x1, iv x2, iv x3, .val (.long x4), .second, iv x5, rv b1, iv ((x5 &&& (7 : Int32)) % (5 : Int32)), .unset, .unset, .unset, .unset, .unset, .unset, .unset, .unset, .unset, .unset, .unset, .unset, .unset, .unset, .unset]) rfl k) ?_
  show own_Go p e below G (T5.setTop (mkF m 42 #[iv x0, iv x1, iv x2, iv x3, .val (.long x4), .second, iv x5, rv b1, iv ((x5 &&& (7 : Int32)) % (5 : Int32)), .unset, .unset, .unset, .unset, .unset, .unset, .unset, .unset, .unset, .unset, .unset, .unset, .unset, .unset, .unset] []))
  have hfr := own_fr x5
  generalize ((x5 &&& (7 : Int32)) % (5 : Int32)) = fr at hfr ⊢
  refine own_st (fun t k => XS.iload X5.here hx rfl (hb hby at_42) rfl  k) ?_
  refine own_st (fun t k => XS.iconst X5.here hx rfl (hb hby at_44) k) ?_
  refine own_st (fun t k => XS.iushr X5.here hx rfl (hb hby at_45) rfl k) ?_
  show own_Go p e below G (T5.setTop (mkF m 46 #[iv x0, iv x1, iv x2, iv x3, .val (.long x4), .second, iv x5, rv b1, iv fr, .unset, .unset, .unset, .unset, .unset, .unset, .unset, .unset, .unset, .unset, .unset, .unset, .unset, .unset, .unset] [(.int ((x5.toUInt32 >>> ((3 : Int32) &&& 31).toUInt32).toInt32))]))
  refine own_st (fun t k => XS.iconst X5.here hx rfl (hb hby at_46) k) ?_
  refine own_st (fun t k => XS.iand X5.here hx rfl (hb hby at_47) rfl k) ?_
  refine own_st (fun t k => XS.istore X5.here hx rfl (hb hby at_48) rfl (l' := #[iv x0, iv x1, iv x2, iv x3, .val (.long x4), .second, iv x5, rv b1, iv fr, iv (((x5.toUInt32 >>> ((3 : Int32) &&& 31).toUInt32).toInt32) &&& (3 : Int32)), .unset, .unset, .unset, .unset, .unset, .unset, .unset, .unset, .unset, .unset, .unset, .unset, .unset, .unset]) rfl k) ?_
  show own_Go p e below G (T5.setTop (mkF m 50 #[iv x0, iv x1, iv x2, iv x3, .val (.long x4), .second, iv x5, rv b1, iv fr, iv (((x5.toUInt32 >>> ((3 : Int32) &&& 31).toUInt32).toInt32) &&& (3 : Int32)), .unset, .unset, .unset, .unset, .unset, .unset, .unset, .unset, .unset, .unset, .unset, .unset, .unset, .unset] []))
  have hr := own_m3 ((x5.toUInt32 >>> ((3 : Int32) &&& 31).toUInt32).toInt32)
  generalize (((x5.toUInt32 >>> ((3 : Int32) &&& 31).toUInt32).toInt32) &&& (3 : Int32)) = ro at hr ⊢
  refine own_st (fun t k => XS.iload X5.here hx rfl (hb hby at_50) rfl  k) ?_
  refine own_st (fun t k => XS.bipush X5.here hx rfl (hb hby at_52) k) ?_
  refine own_st (fun t k => XS.iand X5.here hx rfl (hb hby at_54) rfl k) ?_
  show own_Go p e below G (T5.setTop (mkF m 55 #[iv x0, iv x1, iv x2, iv x3, .val (.long x4), .second, iv x5, rv b1, iv fr, iv ro, .unset, .unset, .unset, .unset, .unset, .unset, .unset, .unset, .unset, .unset, .unset, .unset, .unset, .unset] [(.int (x5 &&& (32 : Int32)))]))
  have J63 : ∀ (rvx : Int32), own_Go p e below G (T5.setTop (mkF m 63 #[iv x0, iv x1, iv x2, iv x3, .val (.long x4), .second, iv x5, rv b1, iv fr, iv ro, .unset, .unset, .unset, .unset, .unset, .unset, .unset, .unset, .unset, .unset, .unset, .unset, .unset, .unset] [(.int rvx)])) := by
    intro rvx
    refine own_st (fun t k => XS.istore X5.here hx rfl (hb hby at_63) rfl (l' := #[iv x0, iv x1, iv x2, iv x3, .val (.long x4), .second, iv x5, rv b1, iv fr, iv ro, iv rvx, .unset, .unset, .unset, .unset, .unset, .unset, .unset, .unset, .unset, .unset, .unset, .unset, .unset]) rfl k) ?_
    refine own_st (fun t k => XS.iconst X5.here hx rfl (hb hby at_65) k) ?_
    show own_Go p e below G (T5.setTop (mkF m 66 #[iv x0, iv x1, iv x2, iv x3, .val (.long x4), .second, iv x5, rv b1, iv fr, iv ro, iv rvx, .unset, .unset, .unset, .unset, .unset, .unset, .unset, .unset, .unset, .unset, .unset, .unset, .unset] [(.int (4 : Int32))]))
    obtain ⟨T6, h6, k6, X6, e6, E6, A6, st6⟩ := newP X5 hx hZ (hw _ (List.mem_of_getElem? (i := 0) rfl)) e5 (g := (mkF m 66 #[iv x0, iv x1, iv x2, iv x3, .val (.long x4), .second, iv x5, rv b1, iv fr, iv ro, iv rvx, .unset, .unset, .unset, .unset, .unset, .unset, .unset, .unset, .unset, .unset, .unset, .unset, .unset] [(.int (4 : Int32))])) rfl (hb hby at_66) rfl (by decide) (cap := 4) (by decide) (by decide) (by decide) (by decide)
    obtain ⟨b6, gb6⟩ : ∃ z, z = h5.size := ⟨_, rfl⟩
    rw [← gb6] at A6 st6
    have g_b6 : n0 ≤ b6 := Nat.le_trans Z0 (Nat.le_of_eq gb6.symm)
    have ne_b1_b6 : b1 ≠ b6 := Nat.ne_of_lt (Nat.lt_of_lt_of_le V_b1.lt (Nat.le_of_eq gb6.symm))
    replace Z0 := Nat.le_trans Z0 E6.1
    replace V_b1 := V_b1.ext E6
    have V_b6 : Arv Z h6 b6 k6 .int (4 : Int32) [(.int (0 : Int32)), (.int (0 : Int32)), (.int (0 : Int32)), (.int (0 : Int32))] (.int (0 : Int32)) := (Arv.new A6 (by decide)).pad (pad_rep [] (.int (0 : Int32)) 4)
    refine own_st st6 ?_
    show own_Go p e below G (T6.setTop (mkF m 68 #[iv x0, iv x1, iv x2, iv x3, .val (.long x4), .second, iv x5, rv b1, iv fr, iv ro, iv rvx, .unset, .unset, .unset, .unset, .unset, .unset, .unset, .unset, .unset, .unset, .unset, .unset, .unset] [(.ref b6)]))
    refine own_st (fun t k => XS.astore X6.here hx rfl (hb hby at_68) rfl rfl (l' := #[iv x0, iv x1, iv x2, iv x3, .val (.long x4), .second, iv x5, rv b1, iv fr, iv ro, iv rvx, rv b6, .unset, .unset, .unset, .unset, .unset, .unset, .unset, .unset, .unset, .unset, .unset, .unset]) rfl k) ?_
    refine own_st (fun t k => XS.aload X6.here hx rfl (hb hby at_70) rfl rfl  k) ?_
    refine own_st (fun t k => XS.iconst X6.here hx rfl (hb hby at_72) k) ?_
    show own_Go p e below G (T6.setTop (mkF m 73 #[iv x0, iv x1, iv x2, iv x3, .val (.long x4), .second, iv x5, rv b1, iv fr, iv ro, iv rvx, rv b6, .unset, .unset, .unset, .unset, .unset, .unset, .unset, .unset, .unset, .unset, .unset, .unset] [(.int (0 : Int32)), (.ref b6)]))
    refine own_st (fun t k => XS.iload X6.here hx rfl (hb hby at_73) rfl  k) ?_
    refine own_st (fun t k => XS.iconst X6.here hx rfl (hb hby at_75) k) ?_
    refine own_st (fun t k => XS.iand X6.here hx rfl (hb hby at_76) rfl k) ?_
    show own_Go p e below G (T6.setTop (mkF m 77 #[iv x0, iv x1, iv x2, iv x3, .val (.long x4), .second, iv x5, rv b1, iv fr, iv ro, iv rvx, rv b6, .unset, .unset, .unset, .unset, .unset, .unset, .unset, .unset, .unset, .unset, .unset, .unset] [(.int (ro &&& (3 : Int32))), (.int (0 : Int32)), (.ref b6)]))
    obtain ⟨cl7, Ar7, qa7, Sa7, Na7, Ha7, Ga7⟩ := V_b6
    have hin7 : ¬ ((0 : Int32) < 0 ∨ cl7.slots.size ≤ ((0 : Int32)).toNatClampNeg) := inb_of Sa7 ⟨by decide, by decide⟩
    obtain ⟨T7, h7, X7, e7, W7, st7⟩ := stI X6 hx hZ e6 Ar7 (j := (0 : Int32)) hin7 (g := (mkF m 77 #[iv x0, iv x1, iv x2, iv x3, .val (.long x4), .second, iv x5, rv b1, iv fr, iv ro, iv rvx, rv b6, .unset, .unset, .unset, .unset, .unset, .unset, .unset, .unset, .unset, .unset, .unset, .unset] [(.int (ro &&& (3 : Int32))), (.int (0 : Int32)), (.ref b6)])) rfl rfl (hb hby at_77)
    have V_b6 : Arv Z h7 b6 k6 .int (4 : Int32) [(.int (ro &&& (3 : Int32))), (.int (0 : Int32)), (.int (0 : Int32)), (.int (0 : Int32))] (.int (0 : Int32)) := Arv.set Ar7 qa7 Sa7 Na7 Ha7 Ga7 rfl W7 0 rfl (Nat.le_of_ble_eq_true rfl)
    replace V_b1 := V_b1.other W7 ne_b1_b6
    replace Z0 := Nat.le_trans Z0 (Keep.of_wr W7).1
    replace N0 := Fr.snoc X7 N0 g_b6
    refine own_st st7 ?_
    show own_Go p e below G (T7.setTop (mkF m 78 #[iv x0, iv x1, iv x2, iv x3, .val (.long x4), .second, iv x5, rv b1, iv fr, iv ro, iv rvx, rv b6, .unset, .unset, .unset, .unset, .unset, .unset, .unset, .unset, .unset, .unset, .unset, .unset] []))
    refine own_st (fun t k => XS.aload X7.here hx rfl (hb hby at_78) rfl rfl  k) ?_
    refine own_st (fun t k => XS.iconst X7.here hx rfl (hb hby at_80) k) ?_
    refine own_st (fun t k => XS.iload X7.here hx rfl (hb hby at_81) rfl  k) ?_
    show own_Go p e below G (T7.setTop (mkF m 83 #[iv x0, iv x1, iv x2, iv x3, .val (.long x4), .second, iv x5, rv b1, iv fr, iv ro, iv rvx, rv b6, .unset, .unset, .unset, .unset, .unset, .unset, .unset, .unset, .unset, .unset, .unset, .unset] [(.int rvx), (.int (1 : Int32)), (.ref b6)]))
    have J101 : ∀ (o1 : Int32) (ho1 : o1 = if rvx = 0 then (ro + 1) &&& 3 else (ro - 1) &&& 3), own_Go p e below G (T7.setTop (mkF m 101 #[iv x0, iv x1, iv x2, iv x3, .val (.long x4), .second, iv x5, rv b1, iv fr, iv ro, iv rvx, rv b6, .unset, .unset, .unset, .unset, .unset, .unset, .unset, .unset, .unset, .unset, .unset, .unset] [(.int o1), (.int (1 : Int32)), (.ref b6)])) := by
      intro o1 ho1
      obtain ⟨cl8, Ar8, qa8, Sa8, Na8, Ha8, Ga8⟩ := V_b6
      have hin8 : ¬ ((1 : Int32) < 0 ∨ cl8.slots.size ≤ ((1 : Int32)).toNatClampNeg) := inb_of Sa8 ⟨by decide, by decide⟩
      obtain ⟨T8, h8, X8, e8, W8, st8⟩ := stI X7 hx hZ e7 Ar8 (j := (1 : Int32)) hin8 (g := (mkF m 101 #[iv x0, iv x1, iv x2, iv x3, .val (.long x4), .second, iv x5, rv b1, iv fr, iv ro, iv rvx, rv b6, .unset, .unset, .unset, .unset, .unset, .unset, .unset, .unset, .unset, .unset, .unset, .unset] [(.int o1), (.int (1 : Int32)), (.ref b6)])) rfl rfl (hb hby at_101)
      have V_b6 : Arv Z h8 b6 k6 .int (4 : Int32) [(.int (ro &&& (3 : Int32))), (.int o1), (.int (0 : Int32)), (.int (0 : Int32))] (.int (0 : Int32)) := Arv.set Ar8 qa8 Sa8 Na8 Ha8 Ga8 rfl W8 1 rfl (Nat.le_of_ble_eq_true rfl)
      replace V_b1 := V_b1.other W8 ne_b1_b6
      replace Z0 := Nat.le_trans Z0 (Keep.of_wr W8).1
      replace N0 := Fr.snoc X8 N0 g_b6
      refine own_st st8 ?_
      show own_Go p e below G (T8.setTop (mkF m 102 #[iv x0, iv x1, iv x2, iv x3, .val (.long x4), .second, iv x5, rv b1, iv fr, iv ro, iv rvx, rv b6, .unset, .unset, .unset, .unset, .unset, .unset, .unset, .unset, .unset, .unset, .unset, .unset] []))
      refine own_st (fun t k => XS.aload X8.here hx rfl (hb hby at_102) rfl rfl  k) ?_
      refine own_st (fun t k => XS.iconst X8.here hx rfl (hb hby at_104) k) ?_
      refine own_st (fun t k => XS.iload X8.here hx rfl (hb hby at_105) rfl  k) ?_
      show own_Go p e below G (T8.setTop (mkF m 107 #[iv x0, iv x1, iv x2, iv x3, .val (.long x4), .second, iv x5, rv b1, iv fr, iv ro, iv rvx, rv b6, .unset, .unset, .unset, .unset, .unset, .unset, .unset, .unset, .unset, .unset, .unset, .unset] [(.int rvx), (.int (2 : Int32)), (.ref b6)]))
      have J125 : ∀ (o2 : Int32) (ho2 : o2 = if rvx = 0 then (ro + 2) &&& 3 else (ro - 2) &&& 3), own_Go p e below G (T8.setTop (mkF m 125 #[iv x0, iv x1, iv x2, iv x3, .val (.long x4), .second, iv x5, rv b1, iv fr, iv ro, iv rvx, rv b6, .unset, .unset, .unset, .unset, .unset, .unset, .unset, .unset, .unset, .unset, .unset, .unset] [(.int o2), (.int (2 : Int32)), (.ref b6)])) := by
        intro o2 ho2
        obtain ⟨cl9, Ar9, qa9, Sa9, Na9, Ha9, Ga9⟩ := V_b6
        have hin9 : ¬ ((2 : Int32) < 0 ∨ cl9.slots.size ≤ ((2 : Int32)).toNatClampNeg) := inb_of Sa9 ⟨by decide, by decide⟩
        obtain ⟨T9, h9, X9, e9, W9, st9⟩ := stI X8 hx hZ e8 Ar9 (j := (2 : Int32)) hin9 (g := (mkF m 125 #[iv x0, iv x1, iv x2, iv x3, .val (.long x4), .second, iv x5, rv b1, iv fr, iv ro, iv rvx, rv b6, .unset, .unset, .unset, .unset, .unset, .unset, .unset, .unset, .unset, .unset, .unset, .unset] [(.int o2), (.int (2 : Int32)), (.ref b6)])) rfl rfl (hb hby at_125)
        have V_b6 : Arv Z h9 b6 k6 .int (4 : Int32) [(.int (ro &&& (3 : Int32))), (.int o1), (.int o2), (.int (0 : Int32))] (.int (0 : Int32)) := Arv.set Ar9 qa9 Sa9 Na9 Ha9 Ga9 rfl W9 2 rfl (Nat.le_of_ble_eq_true rfl)
        replace V_b1 := V_b1.other W9 ne_b1_b6
        replace Z0 := Nat.le_trans Z0 (Keep.of_wr W9).1
        replace N0 := Fr.snoc X9 N0 g_b6
        refine own_st st9 ?_
        show own_Go p e below G (T9.setTop (mkF m 126 #[iv x0, iv x1, iv x2, iv x3, .val (.long x4), .second, iv x5, rv b1, iv fr, iv ro, iv rvx, rv b6, .unset, .unset, .unset, .unset, .unset, .unset, .unset, .unset, .unset, .unset, .unset, .unset] []))
        refine own_st (fun t k => XS.aload X9.here hx rfl (hb hby at_126) rfl rfl  k) ?_
        refine own_st (fun t k => XS.iconst X9.here hx rfl (hb hby at_128) k) ?_
        refine own_st (fun t k => XS.iload X9.here hx rfl (hb hby at_129) rfl  k) ?_
        show own_Go p e below G (T9.setTop (mkF m 131 #[iv x0, iv x1, iv x2, iv x3, .val (.long x4), .second, iv x5, rv b1, iv fr, iv ro, iv rvx, rv b6, .unset, .unset, .unset, .unset, .unset, .unset, .unset, .unset, .unset, .unset, .unset, .unset] [(.int rvx), (.int (3 : Int32)), (.ref b6)]))
        have J149 : ∀ (o3 : Int32) (ho3 : o3 = if rvx = 0 then (ro + 3) &&& 3 else (ro - 3) &&& 3), own_Go p e below G (T9.setTop (mkF m 149 #[iv x0, iv x1, iv x2, iv x3, .val (.long x4), .second, iv x5, rv b1, iv fr, iv ro, iv rvx, rv b6, .unset, .unset, .unset, .unset, .unset, .unset, .unset, .unset, .unset, .unset, .unset, .unset] [(.int o3), (.int (3 : Int32)), (.ref b6)])) := by
          intro o3 ho3
          obtain ⟨cl10, Ar10, qa10, Sa10, Na10, Ha10, Ga10⟩ := V_b6
          have hin10 : ¬ ((3 : Int32) < 0 ∨ cl10.slots.size ≤ ((3 : Int32)).toNatClampNeg) := inb_of Sa10 ⟨by decide, by decide⟩
          obtain ⟨T10, h10, X10, e10, W10, st10⟩ := stI X9 hx hZ e9 Ar10 (j := (3 : Int32)) hin10 (g := (mkF m 149 #[iv x0, iv x1, iv x2, iv x3, .val (.long x4), .second, iv x5, rv b1, iv fr, iv ro, iv rvx, rv b6, .unset, .unset, .unset, .unset, .unset, .unset, .unset, .unset, .unset, .unset, .unset, .unset] [(.int o3), (.int (3 : Int32)), (.ref b6)])) rfl rfl (hb hby at_149)
          have V_b6 : Arv Z h10 b6 k6 .int (4 : Int32) [(.int (ro &&& (3 : Int32))), (.int o1), (.int o2), (.int o3)] (.int (0 : Int32)) := Arv.set Ar10 qa10 Sa10 Na10 Ha10 Ga10 rfl W10 3 rfl (Nat.le_of_ble_eq_true rfl)
          replace V_b1 := V_b1.other W10 ne_b1_b6
          replace Z0 := Nat.le_trans Z0 (Keep.of_wr W10).1
          replace N0 := Fr.snoc X10 N0 g_b6
          refine own_st st10 ?_
          show own_Go p e below G (T10.setTop (mkF m 150 #[iv x0, iv x1, iv x2, iv x3, .val (.long x4), .second, iv x5, rv b1, iv fr, iv ro, iv rvx, rv b6, .unset, .unset, .unset, .unset, .unset, .unset, .unset, .unset, .unset, .unset, .unset, .unset] []))
          obtain ⟨o0, ho0⟩ : ∃ z, z = (ro &&& (3 : Int32)) := ⟨_, rfl⟩
          rw [← ho0] at V_b6
          have hP := own_perm hr ho0 ho1 ho2 ho3
          have hPb := own_pmb hP
          refine own_st (fun t k => XS.iconst X10.here hx rfl (hb hby at_150) k) ?_
          show own_Go p e below G (T10.setTop (mkF m 151 #[iv x0, iv x1, iv x2, iv x3, .val (.long x4), .second, iv x5, rv b1, iv fr, iv ro, iv rvx, rv b6, .unset, .unset, .unset, .unset, .unset, .unset, .unset, .unset, .unset, .unset, .unset, .unset] [(.int (5 : Int32))]))
          obtain ⟨T11, h11, k11, X11, e11, E11, A11, st11⟩ := newP X10 hx hZ (hw _ (List.mem_of_getElem? (i := 2) rfl)) e10 (g := (mkF m 151 #[iv x0, iv x1, iv x2, iv x3, .val (.long x4), .second, iv x5, rv b1, iv fr, iv ro, iv rvx, rv b6, .unset, .unset, .unset, .unset, .unset, .unset, .unset, .unset, .unset, .unset, .unset, .unset] [(.int (5 : Int32))])) rfl (hb hby at_151) rfl (by decide) (cap := 5) (by decide) (by decide) (by decide) (by decide)
          obtain ⟨b11, gb11⟩ : ∃ z, z = h10.size := ⟨_, rfl⟩
          rw [← gb11] at A11 st11
          have g_b11 : n0 ≤ b11 := Nat.le_trans Z0 (Nat.le_of_eq gb11.symm)
          have ne_b1_b11 : b1 ≠ b11 := Nat.ne_of_lt (Nat.lt_of_lt_of_le V_b1.lt (Nat.le_of_eq gb11.symm))
          have ne_b6_b11 : b6 ≠ b11 := Nat.ne_of_lt (Nat.lt_of_lt_of_le V_b6.lt (Nat.le_of_eq gb11.symm))
          replace Z0 := Nat.le_trans Z0 E11.1
          replace V_b1 := V_b1.ext E11
          replace V_b6 := V_b6.ext E11
          have V_b11 : Arv Z h11 b11 k11 .long (5 : Int32) [(.long (0 : Int64)), (.long (0 : Int64)), (.long (0 : Int64)), (.long (0 : Int64)), (.long (0 : Int64))] (.long (0 : Int64)) := (Arv.new A11 (by decide)).pad (pad_rep [] (.long (0 : Int64)) 5)
          refine own_st st11 ?_
          show own_Go p e below G (T11.setTop (mkF m 153 #[iv x0, iv x1, iv x2, iv x3, .val (.long x4), .second, iv x5, rv b1, iv fr, iv ro, iv rvx, rv b6, .unset, .unset, .unset, .unset, .unset, .unset, .unset, .unset, .unset, .unset, .unset, .unset] [(.ref b11)]))
          refine own_st (fun t k => XS.astore X11.here hx rfl (hb hby at_153) rfl rfl (l' := #[iv x0, iv x1, iv x2, iv x3, .val (.long x4), .second, iv x5, rv b1, iv fr, iv ro, iv rvx, rv b6, rv b11, .unset, .unset, .unset, .unset, .unset, .unset, .unset, .unset, .unset, .unset, .unset]) rfl k) ?_
          refine own_st (fun t k => XS.aload X11.here hx rfl (hb hby at_155) rfl rfl  k) ?_
          refine own_st (fun t k => XS.iconst X11.here hx rfl (hb hby at_157) k) ?_
          show own_Go p e below G (T11.setTop (mkF m 158 #[iv x0, iv x1, iv x2, iv x3, .val (.long x4), .second, iv x5, rv b1, iv fr, iv ro, iv rvx, rv b6, rv b11, .unset, .unset, .unset, .unset, .unset, .unset, .unset, .unset, .unset, .unset, .unset] [(.int (1 : Int32)), (.ref b11)]))
          refine own_st (fun t k => XS.aload X11.here hx rfl (hb hby at_158) rfl rfl  k) ?_
          refine own_st (fun t k => XS.iconst X11.here hx rfl (hb hby at_160) k) ?_
          show own_Go p e below G (T11.setTop (mkF m 161 #[iv x0, iv x1, iv x2, iv x3, .val (.long x4), .second, iv x5, rv b1, iv fr, iv ro, iv rvx, rv b6, rv b11, .unset, .unset, .unset, .unset, .unset, .unset, .unset, .unset, .unset, .unset, .unset] [(.int (0 : Int32)), (.ref b11), (.int (1 : Int32)), (.ref b11)]))
          have Vc12 := V_b11
          obtain ⟨cl12, Ar12, -, Sa12, -, Ha12, -⟩ := Vc12
          have hin12 : ¬ ((0 : Int32) < 0 ∨ cl12.slots.size ≤ ((0 : Int32)).toNatClampNeg) := inb_of Sa12 ⟨by decide, by decide⟩
          refine own_st (fun t k => X11.laload hx (j := (0 : Int32)) (v := (.long (0 : Int64))) (by rw [e11]; exact Ar12.1) (State.isArrayOf_alike hZ.alike Ar12.2.1) Ar12.2.2 hin12 (Ha12.at hin12 rfl) (g := (mkF m 161 #[iv x0, iv x1, iv x2, iv x3, .val (.long x4), .second, iv x5, rv b1, iv fr, iv ro, iv rvx, rv b6, rv b11, .unset, .unset, .unset, .unset, .unset, .unset, .unset, .unset, .unset, .unset, .unset] [(.int (0 : Int32)), (.ref b11), (.int (1 : Int32)), (.ref b11)])) rfl rfl (hb hby at_161) t k) ?_
          show own_Go p e below G (T11.setTop (mkF m 162 #[iv x0, iv x1, iv x2, iv x3, .val (.long x4), .second, iv x5, rv b1, iv fr, iv ro, iv rvx, rv b6, rv b11, .unset, .unset, .unset, .unset, .unset, .unset, .unset, .unset, .unset, .unset, .unset] [(.long (0 : Int64)), (.int (1 : Int32)), (.ref b11)]))
          refine own_st (fun t k => XS.aload X11.here hx rfl (hb hby at_162) rfl rfl  k) ?_
          refine own_st (fun t k => XS.aload X11.here hx rfl (hb hby at_164) rfl rfl  k) ?_
          refine own_st (fun t k => XS.iconst X11.here hx rfl (hb hby at_166) k) ?_
          show own_Go p e below G (T11.setTop (mkF m 167 #[iv x0, iv x1, iv x2, iv x3, .val (.long x4), .second, iv x5, rv b1, iv fr, iv ro, iv rvx, rv b6, rv b11, .unset, .unset, .unset, .unset, .unset, .unset, .unset, .unset, .unset, .unset, .unset] [(.int (0 : Int32)), (.ref b6), (.ref b1), (.long (0 : Int64)), (.int (1 : Int32)), (.ref b11)]))
          have Vc13 := V_b6
          obtain ⟨cl13, Ar13, -, Sa13, -, Ha13, -⟩ := Vc13
          have hin13 : ¬ ((0 : Int32) < 0 ∨ cl13.slots.size ≤ ((0 : Int32)).toNatClampNeg) := inb_of Sa13 ⟨by decide, by decide⟩
          refine own_st (fun t k => X11.iaload hx (j := (0 : Int32)) (v := (.int o0)) (by rw [e11]; exact Ar13.1) (State.isArrayOf_alike hZ.alike Ar13.2.1) Ar13.2.2 hin13 (Ha13.at hin13 rfl) (g := (mkF m 167 #[iv x0, iv x1, iv x2, iv x3, .val (.long x4), .second, iv x5, rv b1, iv fr, iv ro, iv rvx, rv b6, rv b11, .unset, .unset, .unset, .unset, .unset, .unset, .unset, .unset, .unset, .unset, .unset] [(.int (0 : Int32)), (.ref b6), (.ref b1), (.long (0 : Int64)), (.int (1 : Int32)), (.ref b11)])) rfl rfl (hb hby at_167) t k) ?_
          show own_Go p e below G (T11.setTop (mkF m 168 #[iv x0, iv x1, iv x2, iv x3, .val (.long x4), .second, iv x5, rv b1, iv fr, iv ro, iv rvx, rv b6, rv b11, .unset, .unset, .unset, .unset, .unset, .unset, .unset, .unset, .unset, .unset, .unset] [(.int o0), (.ref b1), (.long (0 : Int64)), (.int (1 : Int32)), (.ref b11)]))
          have Vc14 := V_b1
          obtain ⟨cl14, Ar14, -, Sa14, -, Ha14, -⟩ := Vc14
          have hin14 : ¬ (o0 < 0 ∨ cl14.slots.size ≤ (o0).toNatClampNeg) := inb_of Sa14 (own_bd4 hPb.1)
          refine own_st (fun t k => X11.iaload hx (j := o0) (v := (.int (own_pk o0 p0 p1 p2 p3))) (by rw [e11]; exact Ar14.1) (State.isArrayOf_alike hZ.alike Ar14.2.1) Ar14.2.2 hin14 (Ha14.at hin14 (own_at4 hPb.1)) (g := (mkF m 168 #[iv x0, iv x1, iv x2, iv x3, .val (.long x4), .second, iv x5, rv b1, iv fr, iv ro, iv rvx, rv b6, rv b11, .unset, .unset, .unset, .unset, .unset, .unset, .unset, .unset, .unset, .unset, .unset] [(.int o0), (.ref b1), (.long (0 : Int64)), (.int (1 : Int32)), (.ref b11)])) rfl rfl (hb hby at_168) t k) ?_
          generalize hq0 : own_pk o0 p0 p1 p2 p3 = q0
          have hqn0 : 0 ≤ q0.toInt := by rw [← hq0]; exact own_pk0 hpn
          show own_Go p e below G (T11.setTop (mkF m 169 #[iv x0, iv x1, iv x2, iv x3, .val (.long x4), .second, iv x5, rv b1, iv fr, iv ro, iv rvx, rv b6, rv b11, .unset, .unset, .unset, .unset, .unset, .unset, .unset, .unset, .unset, .unset, .unset] [(.int q0), (.long (0 : Int64)), (.int (1 : Int32)), (.ref b11)]))
          refine own_st (fun t k => XS.i2l X11.here hx rfl (hb hby at_169) rfl k) ?_
          show own_Go p e below G (T11.setTop (mkF m 170 #[iv x0, iv x1, iv x2, iv x3, .val (.long x4), .second, iv x5, rv b1, iv fr, iv ro, iv rvx, rv b6, rv b11, .unset, .unset, .unset, .unset, .unset, .unset, .unset, .unset, .unset, .unset, .unset] [(.long (q0.toInt64)), (.long (0 : Int64)), (.int (1 : Int32)), (.ref b11)]))
          refine own_st (fun t k => XS.ladd X11.here hx rfl (hb hby at_170) rfl k) ?_
          show own_Go p e below G (T11.setTop (mkF m 171 #[iv x0, iv x1, iv x2, iv x3, .val (.long x4), .second, iv x5, rv b1, iv fr, iv ro, iv rvx, rv b6, rv b11, .unset, .unset, .unset, .unset, .unset, .unset, .unset, .unset, .unset, .unset, .unset] [(.long ((0 : Int64) + (q0.toInt64))), (.int (1 : Int32)), (.ref b11)]))
          obtain ⟨cl15, Ar15, qa15, Sa15, Na15, Ha15, Ga15⟩ := V_b11
          have hin15 : ¬ ((1 : Int32) < 0 ∨ cl15.slots.size ≤ ((1 : Int32)).toNatClampNeg) := inb_of Sa15 ⟨by decide, by decide⟩
          obtain ⟨T15, h15, X15, e15, W15, st15⟩ := stJ X11 hx hZ e11 Ar15 (j := (1 : Int32)) hin15 (g := (mkF m 171 #[iv x0, iv x1, iv x2, iv x3, .val (.long x4), .second, iv x5, rv b1, iv fr, iv ro, iv rvx, rv b6, rv b11, .unset, .unset, .unset, .unset, .unset, .unset, .unset, .unset, .unset, .unset, .unset] [(.long ((0 : Int64) + (q0.toInt64))), (.int (1 : Int32)), (.ref b11)])) rfl rfl (hb hby at_171)
          have V_b11 : Arv Z h15 b11 k11 .long (5 : Int32) [(.long (0 : Int64)), (.long ((0 : Int64) + (q0.toInt64))), (.long (0 : Int64)), (.long (0 : Int64)), (.long (0 : Int64))] (.long (0 : Int64)) := Arv.set Ar15 qa15 Sa15 Na15 Ha15 Ga15 rfl W15 1 rfl (Nat.le_of_ble_eq_true rfl)
          replace V_b1 := V_b1.other W15 ne_b1_b11
          replace V_b6 := V_b6.other W15 ne_b6_b11
          replace Z0 := Nat.le_trans Z0 (Keep.of_wr W15).1
          replace N0 := Fr.snoc X15 N0 g_b11
          refine own_st st15 ?_
          show own_Go p e below G (T15.setTop (mkF m 172 #[iv x0, iv x1, iv x2, iv x3, .val (.long x4), .second, iv x5, rv b1, iv fr, iv ro, iv rvx, rv b6, rv b11, .unset, .unset, .unset, .unset, .unset, .unset, .unset, .unset, .unset, .unset, .unset] []))
          refine own_st (fun t k => XS.aload X15.here hx rfl (hb hby at_172) rfl rfl  k) ?_
          refine own_st (fun t k => XS.iconst X15.here hx rfl (hb hby at_174) k) ?_
          refine own_st (fun t k => XS.aload X15.here hx rfl (hb hby at_175) rfl rfl  k) ?_
          show own_Go p e below G (T15.setTop (mkF m 177 #[iv x0, iv x1, iv x2, iv x3, .val (.long x4), .second, iv x5, rv b1, iv fr, iv ro, iv rvx, rv b6, rv b11, .unset, .unset, .unset, .unset, .unset, .unset, .unset, .unset, .unset, .unset, .unset] [(.ref b11), (.int (2 : Int32)), (.ref b11)]))
          refine own_st (fun t k => XS.iconst X15.here hx rfl (hb hby at_177) k) ?_
          show own_Go p e below G (T15.setTop (mkF m 178 #[iv x0, iv x1, iv x2, iv x3, .val (.long x4), .second, iv x5, rv b1, iv fr, iv ro, iv rvx, rv b6, rv b11, .unset, .unset, .unset, .unset, .unset, .unset, .unset, .unset, .unset, .unset, .unset] [(.int (1 : Int32)), (.ref b11), (.int (2 : Int32)), (.ref b11)]))
          have Vc16 := V_b11
          obtain ⟨cl16, Ar16, -, Sa16, -, Ha16, -⟩ := Vc16
          have hin16 : ¬ ((1 : Int32) < 0 ∨ cl16.slots.size ≤ ((1 : Int32)).toNatClampNeg) := inb_of Sa16 ⟨by decide, by decide⟩
          refine own_st (fun t k => X15.laload hx (j := (1 : Int32)) (v := (.long ((0 : Int64) + (q0.toInt64)))) (by rw [e15]; exact Ar16.1) (State.isArrayOf_alike hZ.alike Ar16.2.1) Ar16.2.2 hin16 (Ha16.at hin16 rfl) (g := (mkF m 178 #[iv x0, iv x1, iv x2, iv x3, .val (.long x4), .second, iv x5, rv b1, iv fr, iv ro, iv rvx, rv b6, rv b11, .unset, .unset, .unset, .unset, .unset, .unset, .unset, .unset, .unset, .unset, .unset] [(.int (1 : Int32)), (.ref b11), (.int (2 : Int32)), (.ref b11)])) rfl rfl (hb hby at_178) t k) ?_
          show own_Go p e below G (T15.setTop (mkF m 179 #[iv x0, iv x1, iv x2, iv x3, .val (.long x4), .second, iv x5, rv b1, iv fr, iv ro, iv rvx, rv b6, rv b11, .unset, .unset, .unset, .unset, .unset, .unset, .unset, .unset, .unset, .unset, .unset] [(.long ((0 : Int64) + (q0.toInt64))), (.int (2 : Int32)), (.ref b11)]))
          refine own_st (fun t k => XS.aload X15.here hx rfl (hb hby at_179) rfl rfl  k) ?_
          refine own_st (fun t k => XS.aload X15.here hx rfl (hb hby at_181) rfl rfl  k) ?_
          refine own_st (fun t k => XS.iconst X15.here hx rfl (hb hby at_183) k) ?_
          show own_Go p e below G (T15.setTop (mkF m 184 #[iv x0, iv x1, iv x2, iv x3, .val (.long x4), .second, iv x5, rv b1, iv fr, iv ro, iv rvx, rv b6, rv b11, .unset, .unset, .unset, .unset, .unset, .unset, .unset, .unset, .unset, .unset, .unset] [(.int (1 : Int32)), (.ref b6), (.ref b1), (.long ((0 : Int64) + (q0.toInt64))), (.int (2 : Int32)), (.ref b11)]))
          have Vc17 := V_b6
          obtain ⟨cl17, Ar17, -, Sa17, -, Ha17, -⟩ := Vc17
          have hin17 : ¬ ((1 : Int32) < 0 ∨ cl17.slots.size ≤ ((1 : Int32)).toNatClampNeg) := inb_of Sa17 ⟨by decide, by decide⟩
          refine own_st (fun t k => X15.iaload hx (j := (1 : Int32)) (v := (.int o1)) (by rw [e15]; exact Ar17.1) (State.isArrayOf_alike hZ.alike Ar17.2.1) Ar17.2.2 hin17 (Ha17.at hin17 rfl) (g := (mkF m 184 #[iv x0, iv x1, iv x2, iv x3, .val (.long x4), .second, iv x5, rv b1, iv fr, iv ro, iv rvx, rv b6, rv b11, .unset, .unset, .unset, .unset, .unset, .unset, .unset, .unset, .unset, .unset, .unset] [(.int (1 : Int32)), (.ref b6), (.ref b1), (.long ((0 : Int64) + (q0.toInt64))), (.int (2 : Int32)), (.ref b11)])) rfl rfl (hb hby at_184) t k) ?_
          show own_Go p e below G (T15.setTop (mkF m 185 #[iv x0, iv x1, iv x2, iv x3, .val (.long x4), .second, iv x5, rv b1, iv fr, iv ro, iv rvx, rv b6, rv b11, .unset, .unset, .unset, .unset, .unset, .unset, .unset, .unset, .unset, .unset, .unset] [(.int o1), (.ref b1), (.long ((0 : Int64) + (q0.toInt64))), (.int (2 : Int32)), (.ref b11)]))
          have Vc18 := V_b1
          obtain ⟨cl18, Ar18, -, Sa18, -, Ha18, -⟩ := Vc18
          have hin18 : ¬ (o1 < 0 ∨ cl18.slots.size ≤ (o1).toNatClampNeg) := inb_of Sa18 (own_bd4 hPb.2.1)
          refine own_st (fun t k => X15.iaload hx (j := o1) (v := (.int (own_pk o1 p0 p1 p2 p3))) (by rw [e15]; exact Ar18.1) (State.isArrayOf_alike hZ.alike Ar18.2.1) Ar18.2.2 hin18 (Ha18.at hin18 (own_at4 hPb.2.1)) (g := (mkF m 185 #[iv x0, iv x1, iv x2, iv x3, .val (.long x4), .second, iv x5, rv b1, iv fr, iv ro, iv rvx, rv b6, rv b11, .unset, .unset, .unset, .unset, .unset, .unset, .unset, .unset, .unset, .unset, .unset] [(.int o1), (.ref b1), (.long ((0 : Int64) + (q0.toInt64))), (.int (2 : Int32)), (.ref b11)])) rfl rfl (hb hby at_185) t k) ?_
          generalize hq1 : own_pk o1 p0 p1 p2 p3 = q1
          have hqn1 : 0 ≤ q1.toInt := by rw [← hq1]; exact own_pk0 hpn
          show own_Go p e below G (T15.setTop (mkF m 186 #[iv x0, iv x1, iv x2, iv x3, .val (.long x4), .second, iv x5, rv b1, iv fr, iv ro, iv rvx, rv b6, rv b11, .unset, .unset, .unset, .unset, .unset, .unset, .unset, .unset, .unset, .unset, .unset] [(.int q1), (.long ((0 : Int64) + (q0.toInt64))), (.int (2 : Int32)), (.ref b11)]))
          refine own_st (fun t k => XS.i2l X15.here hx rfl (hb hby at_186) rfl k) ?_
          show own_Go p e below G (T15.setTop (mkF m 187 #[iv x0, iv x1, iv x2, iv x3, .val (.long x4), .second, iv x5, rv b1, iv fr, iv ro, iv rvx, rv b6, rv b11, .unset, .unset, .unset, .unset, .unset, .unset, .unset, .unset, .unset, .unset, .unset] [(.long (q1.toInt64)), (.long ((0 : Int64) + (q0.toInt64))), (.int (2 : Int32)), (.ref b11)]))
          refine own_st (fun t k => XS.ladd X15.here hx rfl (hb hby at_187) rfl k) ?_
          show own_Go p e below G (T15.setTop (mkF m 188 #[iv x0, iv x1, iv x2, iv x3, .val (.long x4), .second, iv x5, rv b1, iv fr, iv ro, iv rvx, rv b6, rv b11, .unset, .unset, .unset, .unset, .unset, .unset, .unset, .unset, .unset, .unset, .unset] [(.long (((0 : Int64) + (q0.toInt64)) + (q1.toInt64))), (.int (2 : Int32)), (.ref b11)]))
          obtain ⟨cl19, Ar19, qa19, Sa19, Na19, Ha19, Ga19⟩ := V_b11
          have hin19 : ¬ ((2 : Int32) < 0 ∨ cl19.slots.size ≤ ((2 : Int32)).toNatClampNeg) := inb_of Sa19 ⟨by decide, by decide⟩
          obtain ⟨T19, h19, X19, e19, W19, st19⟩ := stJ X15 hx hZ e15 Ar19 (j := (2 : Int32)) hin19 (g := (mkF m 188 #[iv x0, iv x1, iv x2, iv x3, .val (.long x4), .second, iv x5, rv b1, iv fr, iv ro, iv rvx, rv b6, rv b11, .unset, .unset, .unset, .unset, .unset, .unset, .unset, .unset, .unset, .unset, .unset] [(.long (((0 : Int64) + (q0.toInt64)) + (q1.toInt64))), (.int (2 : Int32)), (.ref b11)])) rfl rfl (hb hby at_188)
          have V_b11 : Arv Z h19 b11 k11 .long (5 : Int32) [(.long (0 : Int64)), (.long ((0 : Int64) + (q0.toInt64))), (.long (((0 : Int64) + (q0.toInt64)) + (q1.toInt64))), (.long (0 : Int64)), (.long (0 : Int64))] (.long (0 : Int64)) := Arv.set Ar19 qa19 Sa19 Na19 Ha19 Ga19 rfl W19 2 rfl (Nat.le_of_ble_eq_true rfl)
          replace V_b1 := V_b1.other W19 ne_b1_b11
          replace V_b6 := V_b6.other W19 ne_b6_b11
          replace Z0 := Nat.le_trans Z0 (Keep.of_wr W19).1
          replace N0 := Fr.snoc X19 N0 g_b11
          refine own_st st19 ?_
          show own_Go p e below G (T19.setTop (mkF m 189 #[iv x0, iv x1, iv x2, iv x3, .val (.long x4), .second, iv x5, rv b1, iv fr, iv ro, iv rvx, rv b6, rv b11, .unset, .unset, .unset, .unset, .unset, .unset, .unset, .unset, .unset, .unset, .unset] []))
          refine own_st (fun t k => XS.aload X19.here hx rfl (hb hby at_189) rfl rfl  k) ?_
          refine own_st (fun t k => XS.iconst X19.here hx rfl (hb hby at_191) k) ?_
          refine own_st (fun t k => XS.aload X19.here hx rfl (hb hby at_192) rfl rfl  k) ?_
          show own_Go p e below G (T19.setTop (mkF m 194 #[iv x0, iv x1, iv x2, iv x3, .val (.long x4), .second, iv x5, rv b1, iv fr, iv ro, iv rvx, rv b6, rv b11, .unset, .unset, .unset, .unset, .unset, .unset, .unset, .unset, .unset, .unset, .unset] [(.ref b11), (.int (3 : Int32)), (.ref b11)]))
          refine own_st (fun t k => XS.iconst X19.here hx rfl (hb hby at_194) k) ?_
          show own_Go p e below G (T19.setTop (mkF m 195 #[iv x0, iv x1, iv x2, iv x3, .val (.long x4), .second, iv x5, rv b1, iv fr, iv ro, iv rvx, rv b6, rv b11, .unset, .unset, .unset, .unset, .unset, .unset, .unset, .unset, .unset, .unset, .unset] [(.int (2 : Int32)), (.ref b11), (.int (3 : Int32)), (.ref b11)]))
          have Vc20 := V_b11
          obtain ⟨cl20, Ar20, -, Sa20, -, Ha20, -⟩ := Vc20
          have hin20 : ¬ ((2 : Int32) < 0 ∨ cl20.slots.size ≤ ((2 : Int32)).toNatClampNeg) := inb_of Sa20 ⟨by decide, by decide⟩
          refine own_st (fun t k => X19.laload hx (j := (2 : Int32)) (v := (.long (((0 : Int64) + (q0.toInt64)) + (q1.toInt64)))) (by rw [e19]; exact Ar20.1) (State.isArrayOf_alike hZ.alike Ar20.2.1) Ar20.2.2 hin20 (Ha20.at hin20 rfl) (g := (mkF m 195 #[iv x0, iv x1, iv x2, iv x3, .val (.long x4), .second, iv x5, rv b1, iv fr, iv ro, iv rvx, rv b6, rv b11, .unset, .unset, .unset, .unset, .unset, .unset, .unset, .unset, .unset, .unset, .unset] [(.int (2 : Int32)), (.ref b11), (.int (3 : Int32)), (.ref b11)])) rfl rfl (hb hby at_195) t k) ?_
          show own_Go p e below G (T19.setTop (mkF m 196 #[iv x0, iv x1, iv x2, iv x3, .val (.long x4), .second, iv x5, rv b1, iv fr, iv ro, iv rvx, rv b6, rv b11, .unset, .unset, .unset, .unset, .unset, .unset, .unset, .unset, .unset, .unset, .unset] [(.long (((0 : Int64) + (q0.toInt64)) + (q1.toInt64))), (.int (3 : Int32)), (.ref b11)]))
          refine own_st (fun t k => XS.aload X19.here hx rfl (hb hby at_196) rfl rfl  k) ?_
          refine own_st (fun t k => XS.aload X19.here hx rfl (hb hby at_198) rfl rfl  k) ?_
          refine own_st (fun t k => XS.iconst X19.here hx rfl (hb hby at_200) k) ?_
          show own_Go p e below G (T19.setTop (mkF m 201 #[iv x0, iv x1, iv x2, iv x3, .val (.long x4), .second, iv x5, rv b1, iv fr, iv ro, iv rvx, rv b6, rv b11, .unset, .unset, .unset, .unset, .unset, .unset, .unset, .unset, .unset, .unset, .unset] [(.int (2 : Int32)), (.ref b6), (.ref b1), (.long (((0 : Int64) + (q0.toInt64)) + (q1.toInt64))), (.int (3 : Int32)), (.ref b11)]))
          have Vc21 := V_b6
          obtain ⟨cl21, Ar21, -, Sa21, -, Ha21, -⟩ := Vc21
          have hin21 : ¬ ((2 : Int32) < 0 ∨ cl21.slots.size ≤ ((2 : Int32)).toNatClampNeg) := inb_of Sa21 ⟨by decide, by decide⟩
          refine own_st (fun t k => X19.iaload hx (j := (2 : Int32)) (v := (.int o2)) (by rw [e19]; exact Ar21.1) (State.isArrayOf_alike hZ.alike Ar21.2.1) Ar21.2.2 hin21 (Ha21.at hin21 rfl) (g := (mkF m 201 #[iv x0, iv x1, iv x2, iv x3, .val (.long x4), .second, iv x5, rv b1, iv fr, iv ro, iv rvx, rv b6, rv b11, .unset, .unset, .unset, .unset, .unset, .unset, .unset, .unset, .unset, .unset, .unset] [(.int (2 : Int32)), (.ref b6), (.ref b1), (.long (((0 : Int64) + (q0.toInt64)) + (q1.toInt64))), (.int (3 : Int32)), (.ref b11)])) rfl rfl (hb hby at_201) t k) ?_
          show own_Go p e below G (T19.setTop (mkF m 202 #[iv x0, iv x1, iv x2, iv x3, .val (.long x4), .second, iv x5, rv b1, iv fr, iv ro, iv rvx, rv b6, rv b11, .unset, .unset, .unset, .unset, .unset, .unset, .unset, .unset, .unset, .unset, .unset] [(.int o2), (.ref b1), (.long (((0 : Int64) + (q0.toInt64)) + (q1.toInt64))), (.int (3 : Int32)), (.ref b11)]))
          have Vc22 := V_b1
          obtain ⟨cl22, Ar22, -, Sa22, -, Ha22, -⟩ := Vc22
          have hin22 : ¬ (o2 < 0 ∨ cl22.slots.size ≤ (o2).toNatClampNeg) := inb_of Sa22 (own_bd4 hPb.2.2.1)
          refine own_st (fun t k => X19.iaload hx (j := o2) (v := (.int (own_pk o2 p0 p1 p2 p3))) (by rw [e19]; exact Ar22.1) (State.isArrayOf_alike hZ.alike Ar22.2.1) Ar22.2.2 hin22 (Ha22.at hin22 (own_at4 hPb.2.2.1)) (g := (mkF m 202 #[iv x0, iv x1, iv x2, iv x3, .val (.long x4), .second, iv x5, rv b1, iv fr, iv ro, iv rvx, rv b6, rv b11, .unset, .unset, .unset, .unset, .unset, .unset, .unset, .unset, .unset, .unset, .unset] [(.int o2), (.ref b1), (.long (((0 : Int64) + (q0.toInt64)) + (q1.toInt64))), (.int (3 : Int32)), (.ref b11)])) rfl rfl (hb hby at_202) t k) ?_
          generalize hq2 : own_pk o2 p0 p1 p2 p3 = q2
          have hqn2 : 0 ≤ q2.toInt := by rw [← hq2]; exact own_pk0 hpn
          show own_Go p e below G (T19.setTop (mkF m 203 #[iv x0, iv x1, iv x2, iv x3, .val (.long x4), .second, iv x5, rv b1, iv fr, iv ro, iv rvx, rv b6, rv b11, .unset, .unset, .unset, .unset, .unset, .unset, .unset, .unset, .unset, .unset, .unset] [(.int q2), (.long (((0 : Int64) + (q0.toInt64)) + (q1.toInt64))), (.int (3 : Int32)), (.ref b11)]))
          refine own_st (fun t k => XS.i2l X19.here hx rfl (hb hby at_203) rfl k) ?_
          show own_Go p e below G (T19.setTop (mkF m 204 #[iv x0, iv x1, iv x2, iv x3, .val (.long x4), .second, iv x5, rv b1, iv fr, iv ro, iv rvx, rv b6, rv b11, .unset, .unset, .unset, .unset, .unset, .unset, .unset, .unset, .unset, .unset, .unset] [(.long (q2.toInt64)), (.long (((0 : Int64) + (q0.toInt64)) + (q1.toInt64))), (.int (3 : Int32)), (.ref b11)]))
          refine own_st (fun t k => XS.ladd X19.here hx rfl (hb hby at_204) rfl k) ?_
          show own_Go p e below G (T19.setTop (mkF m 205 #[iv x0, iv x1, iv x2, iv x3, .val (.long x4), .second, iv x5, rv b1, iv fr, iv ro, iv rvx, rv b6, rv b11, .unset, .unset, .unset, .unset, .unset, .unset, .unset, .unset, .unset, .unset, .unset] [(.long ((((0 : Int64) + (q0.toInt64)) + (q1.toInt64)) + (q2.toInt64))), (.int (3 : Int32)), (.ref b11)]))
          obtain ⟨cl23, Ar23, qa23, Sa23, Na23, Ha23, Ga23⟩ := V_b11
          have hin23 : ¬ ((3 : Int32) < 0 ∨ cl23.slots.size ≤ ((3 : Int32)).toNatClampNeg) := inb_of Sa23 ⟨by decide, by decide⟩
          obtain ⟨T23, h23, X23, e23, W23, st23⟩ := stJ X19 hx hZ e19 Ar23 (j := (3 : Int32)) hin23 (g := (mkF m 205 #[iv x0, iv x1, iv x2, iv x3, .val (.long x4), .second, iv x5, rv b1, iv fr, iv ro, iv rvx, rv b6, rv b11, .unset, .unset, .unset, .unset, .unset, .unset, .unset, .unset, .unset, .unset, .unset] [(.long ((((0 : Int64) + (q0.toInt64)) + (q1.toInt64)) + (q2.toInt64))), (.int (3 : Int32)), (.ref b11)])) rfl rfl (hb hby at_205)
          have V_b11 : Arv Z h23 b11 k11 .long (5 : Int32) [(.long (0 : Int64)), (.long ((0 : Int64) + (q0.toInt64))), (.long (((0 : Int64) + (q0.toInt64)) + (q1.toInt64))), (.long ((((0 : Int64) + (q0.toInt64)) + (q1.toInt64)) + (q2.toInt64))), (.long (0 : Int64))] (.long (0 : Int64)) := Arv.set Ar23 qa23 Sa23 Na23 Ha23 Ga23 rfl W23 3 rfl (Nat.le_of_ble_eq_true rfl)
          replace V_b1 := V_b1.other W23 ne_b1_b11
          replace V_b6 := V_b6.other W23 ne_b6_b11
          replace Z0 := Nat.le_trans Z0 (Keep.of_wr W23).1
          replace N0 := Fr.snoc X23 N0 g_b11
          refine own_st st23 ?_
          show own_Go p e below G (T23.setTop (mkF m 206 #[iv x0, iv x1, iv x2, iv x3, .val (.long x4), .second, iv x5, rv b1, iv fr, iv ro, iv rvx, rv b6, rv b11, .unset, .unset, .unset, .unset, .unset, .unset, .unset, .unset, .unset, .unset, .unset] []))
          refine own_st (fun t k => XS.aload X23.here hx rfl (hb hby at_206) rfl rfl  k) ?_
          refine own_st (fun t k => XS.iconst X23.here hx rfl (hb hby at_208) k) ?_
          refine own_st (fun t k => XS.aload X23.here hx rfl (hb hby at_209) rfl rfl  k) ?_
          show own_Go p e below G (T23.setTop (mkF m 211 #[iv x0, iv x1, iv x2, iv x3, .val (.long x4), .second, iv x5, rv b1, iv fr, iv ro, iv rvx, rv b6, rv b11, .unset, .unset, .unset, .unset, .unset, .unset, .unset, .unset, .unset, .unset, .unset] [(.ref b11), (.int (4 : Int32)), (.ref b11)]))
          refine own_st (fun t k => XS.iconst X23.here hx rfl (hb hby at_211) k) ?_
          show own_Go p e below G (T23.setTop (mkF m 212 #[iv x0, iv x1, iv x2, iv x3, .val (.long x4), .second, iv x5, rv b1, iv fr, iv ro, iv rvx, rv b6, rv b11, .unset, .unset, .unset, .unset, .unset, .unset, .unset, .unset, .unset, .unset, .unset] [(.int (3 : Int32)), (.ref b11), (.int (4 : Int32)), (.ref b11)]))
          have Vc24 := V_b11
          obtain ⟨cl24, Ar24, -, Sa24, -, Ha24, -⟩ := Vc24
          have hin24 : ¬ ((3 : Int32) < 0 ∨ cl24.slots.size ≤ ((3 : Int32)).toNatClampNeg) := inb_of Sa24 ⟨by decide, by decide⟩
          refine own_st (fun t k => X23.laload hx (j := (3 : Int32)) (v := (.long ((((0 : Int64) + (q0.toInt64)) + (q1.toInt64)) + (q2.toInt64)))) (by rw [e23]; exact Ar24.1) (State.isArrayOf_alike hZ.alike Ar24.2.1) Ar24.2.2 hin24 (Ha24.at hin24 rfl) (g := (mkF m 212 #[iv x0, iv x1, iv x2, iv x3, .val (.long x4), .second, iv x5, rv b1, iv fr, iv ro, iv rvx, rv b6, rv b11, .unset, .unset, .unset, .unset, .unset, .unset, .unset, .unset, .unset, .unset, .unset] [(.int (3 : Int32)), (.ref b11), (.int (4 : Int32)), (.ref b11)])) rfl rfl (hb hby at_212) t k) ?_
          show own_Go p e below G (T23.setTop (mkF m 213 #[iv x0, iv x1, iv x2, iv x3, .val (.long x4), .second, iv x5, rv b1, iv fr, iv ro, iv rvx, rv b6, rv b11, .unset, .unset, .unset, .unset, .unset, .unset, .unset, .unset, .unset, .unset, .unset] [(.long ((((0 : Int64) + (q0.toInt64)) + (q1.toInt64)) + (q2.toInt64))), (.int (4 : Int32)), (.ref b11)]))
          refine own_st (fun t k => XS.aload X23.here hx rfl (hb hby at_213) rfl rfl  k) ?_
          refine own_st (fun t k => XS.aload X23.here hx rfl (hb hby at_215) rfl rfl  k) ?_
          refine own_st (fun t k => XS.iconst X23.here hx rfl (hb hby at_217) k) ?_
          show own_Go p e below G (T23.setTop (mkF m 218 #[iv x0, iv x1, iv x2, iv x3, .val (.long x4), .second, iv x5, rv b1, iv fr, iv ro, iv rvx, rv b6, rv b11, .unset, .unset, .unset, .unset, .unset, .unset, .unset, .unset, .unset, .unset, .unset] [(.int (3 : Int32)), (.ref b6), (.ref b1), (.long ((((0 : Int64) + (q0.toInt64)) + (q1.toInt64)) + (q2.toInt64))), (.int (4 : Int32)), (.ref b11)]))
          have Vc25 := V_b6
          obtain ⟨cl25, Ar25, -, Sa25, -, Ha25, -⟩ := Vc25
          have hin25 : ¬ ((3 : Int32) < 0 ∨ cl25.slots.size ≤ ((3 : Int32)).toNatClampNeg) := inb_of Sa25 ⟨by decide, by decide⟩
          refine own_st (fun t k => X23.iaload hx (j := (3 : Int32)) (v := (.int o3)) (by rw [e23]; exact Ar25.1) (State.isArrayOf_alike hZ.alike Ar25.2.1) Ar25.2.2 hin25 (Ha25.at hin25 rfl) (g := (mkF m 218 #[iv x0, iv x1, iv x2, iv x3, .val (.long x4), .second, iv x5, rv b1, iv fr, iv ro, iv rvx, rv b6, rv b11, .unset, .unset, .unset, .unset, .unset, .unset, .unset, .unset, .unset, .unset, .unset] [(.int (3 : Int32)), (.ref b6), (.ref b1), (.long ((((0 : Int64) + (q0.toInt64)) + (q1.toInt64)) + (q2.toInt64))), (.int (4 : Int32)), (.ref b11)])) rfl rfl (hb hby at_218) t k) ?_
          show own_Go p e below G (T23.setTop (mkF m 219 #[iv x0, iv x1, iv x2, iv x3, .val (.long x4), .second, iv x5, rv b1, iv fr, iv ro, iv rvx, rv b6, rv b11, .unset, .unset, .unset, .unset, .unset, .unset, .unset, .unset, .unset, .unset, .unset] [(.int o3), (.ref b1), (.long ((((0 : Int64) + (q0.toInt64)) + (q1.toInt64)) + (q2.toInt64))), (.int (4 : Int32)), (.ref b11)]))
          have Vc26 := V_b1
          obtain ⟨cl26, Ar26, -, Sa26, -, Ha26, -⟩ := Vc26
          have hin26 : ¬ (o3 < 0 ∨ cl26.slots.size ≤ (o3).toNatClampNeg) := inb_of Sa26 (own_bd4 hPb.2.2.2)
          refine own_st (fun t k => X23.iaload hx (j := o3) (v := (.int (own_pk o3 p0 p1 p2 p3))) (by rw [e23]; exact Ar26.1) (State.isArrayOf_alike hZ.alike Ar26.2.1) Ar26.2.2 hin26 (Ha26.at hin26 (own_at4 hPb.2.2.2)) (g := (mkF m 219 #[iv x0, iv x1, iv x2, iv x3, .val (.long x4), .second, iv x5, rv b1, iv fr, iv ro, iv rvx, rv b6, rv b11, .unset, .unset, .unset, .unset, .unset, .unset, .unset, .unset, .unset, .unset, .unset] [(.int o3), (.ref b1), (.long ((((0 : Int64) + (q0.toInt64)) + (q1.toInt64)) + (q2.toInt64))), (.int (4 : Int32)), (.ref b11)])) rfl rfl (hb hby at_219) t k) ?_
          generalize hq3 : own_pk o3 p0 p1 p2 p3 = q3
          have hqn3 : 0 ≤ q3.toInt := by rw [← hq3]; exact own_pk0 hpn
          show own_Go p e below G (T23.setTop (mkF m 220 #[iv x0, iv x1, iv x2, iv x3, .val (.long x4), .second, iv x5, rv b1, iv fr, iv ro, iv rvx, rv b6, rv b11, .unset, .unset, .unset, .unset, .unset, .unset, .unset, .unset, .unset, .unset, .unset] [(.int q3), (.long ((((0 : Int64) + (q0.toInt64)) + (q1.toInt64)) + (q2.toInt64))), (.int (4 : Int32)), (.ref b11)]))
          refine own_st (fun t k => XS.i2l X23.here hx rfl (hb hby at_220) rfl k) ?_
          show own_Go p e below G (T23.setTop (mkF m 221 #[iv x0, iv x1, iv x2, iv x3, .val (.long x4), .second, iv x5, rv b1, iv fr, iv ro, iv rvx, rv b6, rv b11, .unset, .unset, .unset, .unset, .unset, .unset, .unset, .unset, .unset, .unset, .unset] [(.long (q3.toInt64)), (.long ((((0 : Int64) + (q0.toInt64)) + (q1.toInt64)) + (q2.toInt64))), (.int (4 : Int32)), (.ref b11)]))
          refine own_st (fun t k => XS.ladd X23.here hx rfl (hb hby at_221) rfl k) ?_
          show own_Go p e below G (T23.setTop (mkF m 222 #[iv x0, iv x1, iv x2, iv x3, .val (.long x4), .second, iv x5, rv b1, iv fr, iv ro, iv rvx, rv b6, rv b11, .unset, .unset, .unset, .unset, .unset, .unset, .unset, .unset, .unset, .unset, .unset] [(.long (((((0 : Int64) + (q0.toInt64)) + (q1.toInt64)) + (q2.toInt64)) + (q3.toInt64))), (.int (4 : Int32)), (.ref b11)]))
          obtain ⟨cl27, Ar27, qa27, Sa27, Na27, Ha27, Ga27⟩ := V_b11
          have hin27 : ¬ ((4 : Int32) < 0 ∨ cl27.slots.size ≤ ((4 : Int32)).toNatClampNeg) := inb_of Sa27 ⟨by decide, by decide⟩
          obtain ⟨T27, h27, X27, e27, W27, st27⟩ := stJ X23 hx hZ e23 Ar27 (j := (4 : Int32)) hin27 (g := (mkF m 222 #[iv x0, iv x1, iv x2, iv x3, .val (.long x4), .second, iv x5, rv b1, iv fr, iv ro, iv rvx, rv b6, rv b11, .unset, .unset, .unset, .unset, .unset, .unset, .unset, .unset, .unset, .unset, .unset] [(.long (((((0 : Int64) + (q0.toInt64)) + (q1.toInt64)) + (q2.toInt64)) + (q3.toInt64))), (.int (4 : Int32)), (.ref b11)])) rfl rfl (hb hby at_222)
          have V_b11 : Arv Z h27 b11 k11 .long (5 : Int32) [(.long (0 : Int64)), (.long ((0 : Int64) + (q0.toInt64))), (.long (((0 : Int64) + (q0.toInt64)) + (q1.toInt64))), (.long ((((0 : Int64) + (q0.toInt64)) + (q1.toInt64)) + (q2.toInt64))), (.long (((((0 : Int64) + (q0.toInt64)) + (q1.toInt64)) + (q2.toInt64)) + (q3.toInt64)))] (.long (0 : Int64)) := Arv.set Ar27 qa27 Sa27 Na27 Ha27 Ga27 rfl W27 4 rfl (Nat.le_of_ble_eq_true rfl)
          replace V_b1 := V_b1.other W27 ne_b1_b11
          replace V_b6 := V_b6.other W27 ne_b6_b11
          replace Z0 := Nat.le_trans Z0 (Keep.of_wr W27).1
          replace N0 := Fr.snoc X27 N0 g_b11
          refine own_st st27 ?_
          show own_Go p e below G (T27.setTop (mkF m 223 #[iv x0, iv x1, iv x2, iv x3, .val (.long x4), .second, iv x5, rv b1, iv fr, iv ro, iv rvx, rv b6, rv b11, .unset, .unset, .unset, .unset, .unset, .unset, .unset, .unset, .unset, .unset, .unset] []))
          refine own_st (fun t k => XS.aload X27.here hx rfl (hb hby at_223) rfl rfl  k) ?_
          refine own_st (fun t k => XS.iconst X27.here hx rfl (hb hby at_225) k) ?_
          show own_Go p e below G (T27.setTop (mkF m 226 #[iv x0, iv x1, iv x2, iv x3, .val (.long x4), .second, iv x5, rv b1, iv fr, iv ro, iv rvx, rv b6, rv b11, .unset, .unset, .unset, .unset, .unset, .unset, .unset, .unset, .unset, .unset, .unset] [(.int (4 : Int32)), (.ref b11)]))
          have Vc28 := V_b11
          obtain ⟨cl28, Ar28, -, Sa28, -, Ha28, -⟩ := Vc28
          have hin28 : ¬ ((4 : Int32) < 0 ∨ cl28.slots.size ≤ ((4 : Int32)).toNatClampNeg) := inb_of Sa28 ⟨by decide, by decide⟩
          refine own_st (fun t k => X27.laload hx (j := (4 : Int32)) (v := (.long (((((0 : Int64) + (q0.toInt64)) + (q1.toInt64)) + (q2.toInt64)) + (q3.toInt64)))) (by rw [e27]; exact Ar28.1) (State.isArrayOf_alike hZ.alike Ar28.2.1) Ar28.2.2 hin28 (Ha28.at hin28 rfl) (g := (mkF m 226 #[iv x0, iv x1, iv x2, iv x3, .val (.long x4), .second, iv x5, rv b1, iv fr, iv ro, iv rvx, rv b6, rv b11, .unset, .unset, .unset, .unset, .unset, .unset, .unset, .unset, .unset, .unset, .unset] [(.int (4 : Int32)), (.ref b11)])) rfl rfl (hb hby at_226) t k) ?_
          show own_Go p e below G (T27.setTop (mkF m 227 #[iv x0, iv x1, iv x2, iv x3, .val (.long x4), .second, iv x5, rv b1, iv fr, iv ro, iv rvx, rv b6, rv b11, .unset, .unset, .unset, .unset, .unset, .unset, .unset, .unset, .unset, .unset, .unset] [(.long (((((0 : Int64) + (q0.toInt64)) + (q1.toInt64)) + (q2.toInt64)) + (q3.toInt64)))]))
          refine own_st (fun t k => XS.aload X27.here hx rfl (hb hby at_227) rfl rfl  k) ?_
          refine own_st (fun t k => XS.iload X27.here hx rfl (hb hby at_229) rfl  k) ?_
          show own_Go p e below G (T27.setTop (mkF m 231 #[iv x0, iv x1, iv x2, iv x3, .val (.long x4), .second, iv x5, rv b1, iv fr, iv ro, iv rvx, rv b6, rv b11, .unset, .unset, .unset, .unset, .unset, .unset, .unset, .unset, .unset, .unset, .unset] [(.int fr), (.ref b11), (.long (((((0 : Int64) + (q0.toInt64)) + (q1.toInt64)) + (q2.toInt64)) + (q3.toInt64)))]))
          have Vc29 := V_b11
          obtain ⟨cl29, Ar29, -, Sa29, -, Ha29, -⟩ := Vc29
          have hin29 : ¬ (fr < 0 ∨ cl29.slots.size ≤ (fr).toNatClampNeg) := inb_of Sa29 (own_bd5 hfr)
          refine own_st (fun t k => X27.laload hx (j := fr) (v := (.long (own_p5 fr (0 : Int64) ((0 : Int64) + (q0.toInt64)) (((0 : Int64) + (q0.toInt64)) + (q1.toInt64)) ((((0 : Int64) + (q0.toInt64)) + (q1.toInt64)) + (q2.toInt64)) (((((0 : Int64) + (q0.toInt64)) + (q1.toInt64)) + (q2.toInt64)) + (q3.toInt64))))) (by rw [e27]; exact Ar29.1) (State.isArrayOf_alike hZ.alike Ar29.2.1) Ar29.2.2 hin29 (Ha29.at hin29 (own_at5 hfr)) (g := (mkF m 231 #[iv x0, iv x1, iv x2, iv x3, .val (.long x4), .second, iv x5, rv b1, iv fr, iv ro, iv rvx, rv b6, rv b11, .unset, .unset, .unset, .unset, .unset, .unset, .unset, .unset, .unset, .unset, .unset] [(.int fr), (.ref b11), (.long (((((0 : Int64) + (q0.toInt64)) + (q1.toInt64)) + (q2.toInt64)) + (q3.toInt64)))])) rfl rfl (hb hby at_231) t k) ?_
          have tpf := own_p5T hqn0 hqn1 hqn2 hqn3 (j := fr) hfr
          generalize hpf : (own_p5 fr (0 : Int64) ((0 : Int64) + (q0.toInt64)) (((0 : Int64) + (q0.toInt64)) + (q1.toInt64)) ((((0 : Int64) + (q0.toInt64)) + (q1.toInt64)) + (q2.toInt64)) (((((0 : Int64) + (q0.toInt64)) + (q1.toInt64)) + (q2.toInt64)) + (q3.toInt64))) = pf at tpf ⊢
          show own_Go p e below G (T27.setTop (mkF m 232 #[iv x0, iv x1, iv x2, iv x3, .val (.long x4), .second, iv x5, rv b1, iv fr, iv ro, iv rvx, rv b6, rv b11, .unset, .unset, .unset, .unset, .unset, .unset, .unset, .unset, .unset, .unset, .unset] [(.long pf), (.long (((((0 : Int64) + (q0.toInt64)) + (q1.toInt64)) + (q2.toInt64)) + (q3.toInt64)))]))
          refine own_st (fun t k => XS.lsub X27.here hx rfl (hb hby at_232) rfl k) ?_
          show own_Go p e below G (T27.setTop (mkF m 233 #[iv x0, iv x1, iv x2, iv x3, .val (.long x4), .second, iv x5, rv b1, iv fr, iv ro, iv rvx, rv b6, rv b11, .unset, .unset, .unset, .unset, .unset, .unset, .unset, .unset, .unset, .unset, .unset] [(.long ((((((0 : Int64) + (q0.toInt64)) + (q1.toInt64)) + (q2.toInt64)) + (q3.toInt64)) - pf))]))
          refine own_st (fun t k => XS.lstore X27.here hx rfl (hb hby at_233) rfl (l' := #[iv x0, iv x1, iv x2, iv x3, .val (.long x4), .second, iv x5, rv b1, iv fr, iv ro, iv rvx, rv b6, rv b11, .val (.long ((((((0 : Int64) + (q0.toInt64)) + (q1.toInt64)) + (q2.toInt64)) + (q3.toInt64)) - pf)), .second, .unset, .unset, .unset, .unset, .unset, .unset, .unset, .unset, .unset]) rfl k) ?_
          show own_Go p e below G (T27.setTop (mkF m 235 #[iv x0, iv x1, iv x2, iv x3, .val (.long x4), .second, iv x5, rv b1, iv fr, iv ro, iv rvx, rv b6, rv b11, .val (.long ((((((0 : Int64) + (q0.toInt64)) + (q1.toInt64)) + (q2.toInt64)) + (q3.toInt64)) - pf)), .second, .unset, .unset, .unset, .unset, .unset, .unset, .unset, .unset, .unset] []))
          have tA : ((((((0 : Int64) + (q0.toInt64)) + (q1.toInt64)) + (q2.toInt64)) + (q3.toInt64))).toInt = own_T q0 q1 q2 q3 4 := own_p5T hqn0 hqn1 hqn2 hqn3 (j := 4) (by decide)
          have bT := own_Tb hqn0 hqn1 hqn2 hqn3
          have tre := own_subL tA tpf ⟨(bT 4).1, (bT 4).2.1⟩ ⟨(bT fr.toInt).1, (bT fr.toInt).2.1⟩
          generalize hre : ((((((0 : Int64) + (q0.toInt64)) + (q1.toInt64)) + (q2.toInt64)) + (q3.toInt64)) - pf) = re at tre ⊢
          have hsr := own_share (s := x4) (re := re) (by have := (bT fr.toInt).2.2; omega) (by have := bT fr.toInt; have := bT 4; omega)
          refine own_st (fun t k => XS.lload X27.here hx rfl (hb hby at_235) rfl  k) ?_
          show own_Go p e below G (T27.setTop (mkF m 237 #[iv x0, iv x1, iv x2, iv x3, .val (.long x4), .second, iv x5, rv b1, iv fr, iv ro, iv rvx, rv b6, rv b11, .val (.long re), .second, .unset, .unset, .unset, .unset, .unset, .unset, .unset, .unset, .unset] [(.long x4)]))
          refine own_st (fun t k => X27.ldc2Long hx hown (mvT hZ (hw _ (List.mem_of_getElem? (i := 3) rfl))) (g := (mkF m 237 #[iv x0, iv x1, iv x2, iv x3, .val (.long x4), .second, iv x5, rv b1, iv fr, iv ro, iv rvx, rv b6, rv b11, .val (.long re), .second, .unset, .unset, .unset, .unset, .unset, .unset, .unset, .unset, .unset] [(.long x4)])) rfl (hb hby at_237) t k) ?_
          show own_Go p e below G (T27.setTop (mkF m 240 #[iv x0, iv x1, iv x2, iv x3, .val (.long x4), .second, iv x5, rv b1, iv fr, iv ro, iv rvx, rv b6, rv b11, .val (.long re), .second, .unset, .unset, .unset, .unset, .unset, .unset, .unset, .unset, .unset] [(.long (9223372036854775807 : Int64)), (.long x4)]))
          refine own_st (fun t k => XS.land X27.here hx rfl (hb hby at_240) rfl k) ?_
          show own_Go p e below G (T27.setTop (mkF m 241 #[iv x0, iv x1, iv x2, iv x3, .val (.long x4), .second, iv x5, rv b1, iv fr, iv ro, iv rvx, rv b6, rv b11, .val (.long re), .second, .unset, .unset, .unset, .unset, .unset, .unset, .unset, .unset, .unset] [(.long (x4 &&& (9223372036854775807 : Int64)))]))
          refine own_st (fun t k => XS.lload X27.here hx rfl (hb hby at_241) rfl  k) ?_
          refine own_st (fun t k => XS.lconst X27.here hx rfl (hb hby at_243) k) ?_
          show own_Go p e below G (T27.setTop (mkF m 244 #[iv x0, iv x1, iv x2, iv x3, .val (.long x4), .second, iv x5, rv b1, iv fr, iv ro, iv rvx, rv b6, rv b11, .val (.long re), .second, .unset, .unset, .unset, .unset, .unset, .unset, .unset, .unset, .unset] [(.long (1 : Int64)), (.long re), (.long (x4 &&& (9223372036854775807 : Int64)))]))
          refine own_st (fun t k => XS.ladd X27.here hx rfl (hb hby at_244) rfl k) ?_
          show own_Go p e below G (T27.setTop (mkF m 245 #[iv x0, iv x1, iv x2, iv x3, .val (.long x4), .second, iv x5, rv b1, iv fr, iv ro, iv rvx, rv b6, rv b11, .val (.long re), .second, .unset, .unset, .unset, .unset, .unset, .unset, .unset, .unset, .unset] [(.long (re + (1 : Int64))), (.long (x4 &&& (9223372036854775807 : Int64)))]))
          refine own_st (fun t k => XS.lrem X27.here hx rfl (hb hby at_245) rfl hsr.1 k) ?_
          generalize hgs : (x4 &&& (9223372036854775807 : Int64)) - ((x4 &&& (9223372036854775807 : Int64)) / (re + (1 : Int64))) * (re + (1 : Int64)) = sh at hsr ⊢
          show own_Go p e below G (T27.setTop (mkF m 246 #[iv x0, iv x1, iv x2, iv x3, .val (.long x4), .second, iv x5, rv b1, iv fr, iv ro, iv rvx, rv b6, rv b11, .val (.long re), .second, .unset, .unset, .unset, .unset, .unset, .unset, .unset, .unset, .unset] [(.long sh)]))
          refine own_st (fun t k => XS.lstore X27.here hx rfl (hb hby at_246) rfl (l' := #[iv x0, iv x1, iv x2, iv x3, .val (.long x4), .second, iv x5, rv b1, iv fr, iv ro, iv rvx, rv b6, rv b11, .val (.long re), .second, .val (.long sh), .second, .unset, .unset, .unset, .unset, .unset, .unset, .unset]) rfl k) ?_
          refine own_st (fun t k => XS.iconst X27.here hx rfl (hb hby at_248) k) ?_
          show own_Go p e below G (T27.setTop (mkF m 249 #[iv x0, iv x1, iv x2, iv x3, .val (.long x4), .second, iv x5, rv b1, iv fr, iv ro, iv rvx, rv b6, rv b11, .val (.long re), .second, .val (.long sh), .second, .unset, .unset, .unset, .unset, .unset, .unset, .unset] [(.int (4 : Int32))]))
          obtain ⟨T30, h30, k30, X30, e30, E30, A30, st30⟩ := newP X27 hx hZ (hw _ (List.mem_of_getElem? (i := 0) rfl)) e27 (g := (mkF m 249 #[iv x0, iv x1, iv x2, iv x3, .val (.long x4), .second, iv x5, rv b1, iv fr, iv ro, iv rvx, rv b6, rv b11, .val (.long re), .second, .val (.long sh), .second, .unset, .unset, .unset, .unset, .unset, .unset, .unset] [(.int (4 : Int32))])) rfl (hb hby at_249) rfl (by decide) (cap := 4) (by decide) (by decide) (by decide) (by decide)
          obtain ⟨b30, gb30⟩ : ∃ z, z = h27.size := ⟨_, rfl⟩
          rw [← gb30] at A30 st30
          have g_b30 : n0 ≤ b30 := Nat.le_trans Z0 (Nat.le_of_eq gb30.symm)
          have ne_b1_b30 : b1 ≠ b30 := Nat.ne_of_lt (Nat.lt_of_lt_of_le V_b1.lt (Nat.le_of_eq gb30.symm))
          have ne_b6_b30 : b6 ≠ b30 := Nat.ne_of_lt (Nat.lt_of_lt_of_le V_b6.lt (Nat.le_of_eq gb30.symm))
          have ne_b11_b30 : b11 ≠ b30 := Nat.ne_of_lt (Nat.lt_of_lt_of_le V_b11.lt (Nat.le_of_eq gb30.symm))
          replace Z0 := Nat.le_trans Z0 E30.1
          replace V_b1 := V_b1.ext E30
          replace V_b6 := V_b6.ext E30
          replace V_b11 := V_b11.ext E30
          have V_b30 : Arv Z h30 b30 k30 .int (4 : Int32) [(.int (0 : Int32)), (.int (0 : Int32)), (.int (0 : Int32)), (.int (0 : Int32))] (.int (0 : Int32)) := (Arv.new A30 (by decide)).pad (pad_rep [] (.int (0 : Int32)) 4)
          refine own_st st30 ?_
          show own_Go p e below G (T30.setTop (mkF m 251 #[iv x0, iv x1, iv x2, iv x3, .val (.long x4), .second, iv x5, rv b1, iv fr, iv ro, iv rvx, rv b6, rv b11, .val (.long re), .second, .val (.long sh), .second, .unset, .unset, .unset, .unset, .unset, .unset, .unset] [(.ref b30)]))
          refine own_st (fun t k => XS.astore X30.here hx rfl (hb hby at_251) rfl rfl (l' := #[iv x0, iv x1, iv x2, iv x3, .val (.long x4), .second, iv x5, rv b1, iv fr, iv ro, iv rvx, rv b6, rv b11, .val (.long re), .second, .val (.long sh), .second, rv b30, .unset, .unset, .unset, .unset, .unset, .unset]) rfl k) ?_
          refine own_st (fun t k => XS.aload X30.here hx rfl (hb hby at_253) rfl rfl  k) ?_
          refine own_st (fun t k => XS.aload X30.here hx rfl (hb hby at_255) rfl rfl  k) ?_
          show own_Go p e below G (T30.setTop (mkF m 257 #[iv x0, iv x1, iv x2, iv x3, .val (.long x4), .second, iv x5, rv b1, iv fr, iv ro, iv rvx, rv b6, rv b11, .val (.long re), .second, .val (.long sh), .second, rv b30, .unset, .unset, .unset, .unset, .unset, .unset] [(.ref b6), (.ref b30)]))
          refine own_st (fun t k => XS.iconst X30.here hx rfl (hb hby at_257) k) ?_
          show own_Go p e below G (T30.setTop (mkF m 258 #[iv x0, iv x1, iv x2, iv x3, .val (.long x4), .second, iv x5, rv b1, iv fr, iv ro, iv rvx, rv b6, rv b11, .val (.long re), .second, .val (.long sh), .second, rv b30, .unset, .unset, .unset, .unset, .unset, .unset] [(.int (0 : Int32)), (.ref b6), (.ref b30)]))
          have Vc31 := V_b6
          obtain ⟨cl31, Ar31, -, Sa31, -, Ha31, -⟩ := Vc31
          have hin31 : ¬ ((0 : Int32) < 0 ∨ cl31.slots.size ≤ ((0 : Int32)).toNatClampNeg) := inb_of Sa31 ⟨by decide, by decide⟩
          refine own_st (fun t k => X30.iaload hx (j := (0 : Int32)) (v := (.int o0)) (by rw [e30]; exact Ar31.1) (State.isArrayOf_alike hZ.alike Ar31.2.1) Ar31.2.2 hin31 (Ha31.at hin31 rfl) (g := (mkF m 258 #[iv x0, iv x1, iv x2, iv x3, .val (.long x4), .second, iv x5, rv b1, iv fr, iv ro, iv rvx, rv b6, rv b11, .val (.long re), .second, .val (.long sh), .second, rv b30, .unset, .unset, .unset, .unset, .unset, .unset] [(.int (0 : Int32)), (.ref b6), (.ref b30)])) rfl rfl (hb hby at_258) t k) ?_
          show own_Go p e below G (T30.setTop (mkF m 259 #[iv x0, iv x1, iv x2, iv x3, .val (.long x4), .second, iv x5, rv b1, iv fr, iv ro, iv rvx, rv b6, rv b11, .val (.long re), .second, .val (.long sh), .second, rv b30, .unset, .unset, .unset, .unset, .unset, .unset] [(.int o0), (.ref b30)]))
          refine own_st (fun t k => XS.iconst X30.here hx rfl (hb hby at_259) k) ?_
          show own_Go p e below G (T30.setTop (mkF m 260 #[iv x0, iv x1, iv x2, iv x3, .val (.long x4), .second, iv x5, rv b1, iv fr, iv ro, iv rvx, rv b6, rv b11, .val (.long re), .second, .val (.long sh), .second, rv b30, .unset, .unset, .unset, .unset, .unset, .unset] [(.int (0 : Int32)), (.int o0), (.ref b30)]))
          obtain ⟨cl32, Ar32, qa32, Sa32, Na32, Ha32, Ga32⟩ := V_b30
          have hin32 : ¬ (o0 < 0 ∨ cl32.slots.size ≤ (o0).toNatClampNeg) := inb_of Sa32 (own_bd4 hPb.1)
          obtain ⟨T32, h32, X32, e32, W32, st32⟩ := stI X30 hx hZ e30 Ar32 (j := o0) hin32 (g := (mkF m 260 #[iv x0, iv x1, iv x2, iv x3, .val (.long x4), .second, iv x5, rv b1, iv fr, iv ro, iv rvx, rv b6, rv b11, .val (.long re), .second, .val (.long sh), .second, rv b30, .unset, .unset, .unset, .unset, .unset, .unset] [(.int (0 : Int32)), (.int o0), (.ref b30)])) rfl rfl (hb hby at_260)
          have V_b30 : Arv Z h32 b30 k30 .int (4 : Int32) [(.int (own_sl o0 0 (0 : Int32) (0 : Int32))), (.int (own_sl o0 1 (0 : Int32) (0 : Int32))), (.int (own_sl o0 2 (0 : Int32) (0 : Int32))), (.int (own_sl o0 3 (0 : Int32) (0 : Int32)))] (.int (0 : Int32)) := by
            have q := Arv.set Ar32 qa32 Sa32 Na32 Ha32 Ga32 rfl W32 _ rfl (own_lt4 hPb.1)
            rw [own_set4 hPb.1] at q
            exact q
          replace V_b1 := V_b1.other W32 ne_b1_b30
          replace V_b6 := V_b6.other W32 ne_b6_b30
          replace V_b11 := V_b11.other W32 ne_b11_b30
          replace Z0 := Nat.le_trans Z0 (Keep.of_wr W32).1
          replace N0 := Fr.snoc X32 N0 g_b30
          refine own_st st32 ?_
          show own_Go p e below G (T32.setTop (mkF m 261 #[iv x0, iv x1, iv x2, iv x3, .val (.long x4), .second, iv x5, rv b1, iv fr, iv ro, iv rvx, rv b6, rv b11, .val (.long re), .second, .val (.long sh), .second, rv b30, .unset, .unset, .unset, .unset, .unset, .unset] []))
          refine own_st (fun t k => XS.aload X32.here hx rfl (hb hby at_261) rfl rfl  k) ?_
          refine own_st (fun t k => XS.aload X32.here hx rfl (hb hby at_263) rfl rfl  k) ?_
          refine own_st (fun t k => XS.iconst X32.here hx rfl (hb hby at_265) k) ?_
          show own_Go p e below G (T32.setTop (mkF m 266 #[iv x0, iv x1, iv x2, iv x3, .val (.long x4), .second, iv x5, rv b1, iv fr, iv ro, iv rvx, rv b6, rv b11, .val (.long re), .second, .val (.long sh), .second, rv b30, .unset, .unset, .unset, .unset, .unset, .unset] [(.int (1 : Int32)), (.ref b6), (.ref b30)]))
          have Vc33 := V_b6
          obtain ⟨cl33, Ar33, -, Sa33, -, Ha33, -⟩ := Vc33
          have hin33 : ¬ ((1 : Int32) < 0 ∨ cl33.slots.size ≤ ((1 : Int32)).toNatClampNeg) := inb_of Sa33 ⟨by decide, by decide⟩
          refine own_st (fun t k => X32.iaload hx (j := (1 : Int32)) (v := (.int o1)) (by rw [e32]; exact Ar33.1) (State.isArrayOf_alike hZ.alike Ar33.2.1) Ar33.2.2 hin33 (Ha33.at hin33 rfl) (g := (mkF m 266 #[iv x0, iv x1, iv x2, iv x3, .val (.long x4), .second, iv x5, rv b1, iv fr, iv ro, iv rvx, rv b6, rv b11, .val (.long re), .second, .val (.long sh), .second, rv b30, .unset, .unset, .unset, .unset, .unset, .unset] [(.int (1 : Int32)), (.ref b6), (.ref b30)])) rfl rfl (hb hby at_266) t k) ?_
          show own_Go p e below G (T32.setTop (mkF m 267 #[iv x0, iv x1, iv x2, iv x3, .val (.long x4), .second, iv x5, rv b1, iv fr, iv ro, iv rvx, rv b6, rv b11, .val (.long re), .second, .val (.long sh), .second, rv b30, .unset, .unset, .unset, .unset, .unset, .unset] [(.int o1), (.ref b30)]))
          refine own_st (fun t k => XS.iconst X32.here hx rfl (hb hby at_267) k) ?_
          show own_Go p e below G (T32.setTop (mkF m 268 #[iv x0, iv x1, iv x2, iv x3, .val (.long x4), .second, iv x5, rv b1, iv fr, iv ro, iv rvx, rv b6, rv b11, .val (.long re), .second, .val (.long sh), .second, rv b30, .unset, .unset, .unset, .unset, .unset, .unset] [(.int (1 : Int32)), (.int o1), (.ref b30)]))
          obtain ⟨cl34, Ar34, qa34, Sa34, Na34, Ha34, Ga34⟩ := V_b30
          have hin34 : ¬ (o1 < 0 ∨ cl34.slots.size ≤ (o1).toNatClampNeg) := inb_of Sa34 (own_bd4 hPb.2.1)
          obtain ⟨T34, h34, X34, e34, W34, st34⟩ := stI X32 hx hZ e32 Ar34 (j := o1) hin34 (g := (mkF m 268 #[iv x0, iv x1, iv x2, iv x3, .val (.long x4), .second, iv x5, rv b1, iv fr, iv ro, iv rvx, rv b6, rv b11, .val (.long re), .second, .val (.long sh), .second, rv b30, .unset, .unset, .unset, .unset, .unset, .unset] [(.int (1 : Int32)), (.int o1), (.ref b30)])) rfl rfl (hb hby at_268)
          have V_b30 : Arv Z h34 b30 k30 .int (4 : Int32) [(.int (own_sl o1 0 (1 : Int32) (own_sl o0 0 (0 : Int32) (0 : Int32)))), (.int (own_sl o1 1 (1 : Int32) (own_sl o0 1 (0 : Int32) (0 : Int32)))), (.int (own_sl o1 2 (1 : Int32) (own_sl o0 2 (0 : Int32) (0 : Int32)))), (.int (own_sl o1 3 (1 : Int32) (own_sl o0 3 (0 : Int32) (0 : Int32))))] (.int (0 : Int32)) := by
            have q := Arv.set Ar34 qa34 Sa34 Na34 Ha34 Ga34 rfl W34 _ rfl (own_lt4 hPb.2.1)
            rw [own_set4 hPb.2.1] at q
            exact q
          replace V_b1 := V_b1.other W34 ne_b1_b30
          replace V_b6 := V_b6.other W34 ne_b6_b30
          replace V_b11 := V_b11.other W34 ne_b11_b30
          replace Z0 := Nat.le_trans Z0 (Keep.of_wr W34).1
          replace N0 := Fr.snoc X34 N0 g_b30
          refine own_st st34 ?_
          show own_Go p e below G (T34.setTop (mkF m 269 #[iv x0, iv x1, iv x2, iv x3, .val (.long x4), .second, iv x5, rv b1, iv fr, iv ro, iv rvx, rv b6, rv b11, .val (.long re), .second, .val (.long sh), .second, rv b30, .unset, .unset, .unset, .unset, .unset, .unset] []))
          refine own_st (fun t k => XS.aload X34.here hx rfl (hb hby at_269) rfl rfl  k) ?_
          refine own_st (fun t k => XS.aload X34.here hx rfl (hb hby at_271) rfl rfl  k) ?_
          refine own_st (fun t k => XS.iconst X34.here hx rfl (hb hby at_273) k) ?_
          show own_Go p e below G (T34.setTop (mkF m 274 #[iv x0, iv x1, iv x2, iv x3, .val (.long x4), .second, iv x5, rv b1, iv fr, iv ro, iv rvx, rv b6, rv b11, .val (.long re), .second, .val (.long sh), .second, rv b30, .unset, .unset, .unset, .unset, .unset, .unset] [(.int (2 : Int32)), (.ref b6), (.ref b30)]))
          have Vc35 := V_b6
          obtain ⟨cl35, Ar35, -, Sa35, -, Ha35, -⟩ := Vc35
          have hin35 : ¬ ((2 : Int32) < 0 ∨ cl35.slots.size ≤ ((2 : Int32)).toNatClampNeg) := inb_of Sa35 ⟨by decide, by decide⟩
          refine own_st (fun t k => X34.iaload hx (j := (2 : Int32)) (v := (.int o2)) (by rw [e34]; exact Ar35.1) (State.isArrayOf_alike hZ.alike Ar35.2.1) Ar35.2.2 hin35 (Ha35.at hin35 rfl) (g := (mkF m 274 #[iv x0, iv x1, iv x2, iv x3, .val (.long x4), .second, iv x5, rv b1, iv fr, iv ro, iv rvx, rv b6, rv b11, .val (.long re), .second, .val (.long sh), .second, rv b30, .unset, .unset, .unset, .unset, .unset, .unset] [(.int (2 : Int32)), (.ref b6), (.ref b30)])) rfl rfl (hb hby at_274) t k) ?_
          show own_Go p e below G (T34.setTop (mkF m 275 #[iv x0, iv x1, iv x2, iv x3, .val (.long x4), .second, iv x5, rv b1, iv fr, iv ro, iv rvx, rv b6, rv b11, .val (.long re), .second, .val (.long sh), .second, rv b30, .unset, .unset, .unset, .unset, .unset, .unset] [(.int o2), (.ref b30)]))
          refine own_st (fun t k => XS.iconst X34.here hx rfl (hb hby at_275) k) ?_
          show own_Go p e below G (T34.setTop (mkF m 276 #[iv x0, iv x1, iv x2, iv x3, .val (.long x4), .second, iv x5, rv b1, iv fr, iv ro, iv rvx, rv b6, rv b11, .val (.long re), .second, .val (.long sh), .second, rv b30, .unset, .unset, .unset, .unset, .unset, .unset] [(.int (2 : Int32)), (.int o2), (.ref b30)]))
          obtain ⟨cl36, Ar36, qa36, Sa36, Na36, Ha36, Ga36⟩ := V_b30
          have hin36 : ¬ (o2 < 0 ∨ cl36.slots.size ≤ (o2).toNatClampNeg) := inb_of Sa36 (own_bd4 hPb.2.2.1)
          obtain ⟨T36, h36, X36, e36, W36, st36⟩ := stI X34 hx hZ e34 Ar36 (j := o2) hin36 (g := (mkF m 276 #[iv x0, iv x1, iv x2, iv x3, .val (.long x4), .second, iv x5, rv b1, iv fr, iv ro, iv rvx, rv b6, rv b11, .val (.long re), .second, .val (.long sh), .second, rv b30, .unset, .unset, .unset, .unset, .unset, .unset] [(.int (2 : Int32)), (.int o2), (.ref b30)])) rfl rfl (hb hby at_276)
          have V_b30 : Arv Z h36 b30 k30 .int (4 : Int32) [(.int (own_sl o2 0 (2 : Int32) (own_sl o1 0 (1 : Int32) (own_sl o0 0 (0 : Int32) (0 : Int32))))), (.int (own_sl o2 1 (2 : Int32) (own_sl o1 1 (1 : Int32) (own_sl o0 1 (0 : Int32) (0 : Int32))))), (.int (own_sl o2 2 (2 : Int32) (own_sl o1 2 (1 : Int32) (own_sl o0 2 (0 : Int32) (0 : Int32))))), (.int (own_sl o2 3 (2 : Int32) (own_sl o1 3 (1 : Int32) (own_sl o0 3 (0 : Int32) (0 : Int32)))))] (.int (0 : Int32)) := by
            have q := Arv.set Ar36 qa36 Sa36 Na36 Ha36 Ga36 rfl W36 _ rfl (own_lt4 hPb.2.2.1)
            rw [own_set4 hPb.2.2.1] at q
            exact q
          replace V_b1 := V_b1.other W36 ne_b1_b30
          replace V_b6 := V_b6.other W36 ne_b6_b30
          replace V_b11 := V_b11.other W36 ne_b11_b30
          replace Z0 := Nat.le_trans Z0 (Keep.of_wr W36).1
          replace N0 := Fr.snoc X36 N0 g_b30
          refine own_st st36 ?_
          show own_Go p e below G (T36.setTop (mkF m 277 #[iv x0, iv x1, iv x2, iv x3, .val (.long x4), .second, iv x5, rv b1, iv fr, iv ro, iv rvx, rv b6, rv b11, .val (.long re), .second, .val (.long sh), .second, rv b30, .unset, .unset, .unset, .unset, .unset, .unset] []))
          refine own_st (fun t k => XS.aload X36.here hx rfl (hb hby at_277) rfl rfl  k) ?_
          refine own_st (fun t k => XS.aload X36.here hx rfl (hb hby at_279) rfl rfl  k) ?_
          refine own_st (fun t k => XS.iconst X36.here hx rfl (hb hby at_281) k) ?_
          show own_Go p e below G (T36.setTop (mkF m 282 #[iv x0, iv x1, iv x2, iv x3, .val (.long x4), .second, iv x5, rv b1, iv fr, iv ro, iv rvx, rv b6, rv b11, .val (.long re), .second, .val (.long sh), .second, rv b30, .unset, .unset, .unset, .unset, .unset, .unset] [(.int (3 : Int32)), (.ref b6), (.ref b30)]))
          have Vc37 := V_b6
          obtain ⟨cl37, Ar37, -, Sa37, -, Ha37, -⟩ := Vc37
          have hin37 : ¬ ((3 : Int32) < 0 ∨ cl37.slots.size ≤ ((3 : Int32)).toNatClampNeg) := inb_of Sa37 ⟨by decide, by decide⟩
          refine own_st (fun t k => X36.iaload hx (j := (3 : Int32)) (v := (.int o3)) (by rw [e36]; exact Ar37.1) (State.isArrayOf_alike hZ.alike Ar37.2.1) Ar37.2.2 hin37 (Ha37.at hin37 rfl) (g := (mkF m 282 #[iv x0, iv x1, iv x2, iv x3, .val (.long x4), .second, iv x5, rv b1, iv fr, iv ro, iv rvx, rv b6, rv b11, .val (.long re), .second, .val (.long sh), .second, rv b30, .unset, .unset, .unset, .unset, .unset, .unset] [(.int (3 : Int32)), (.ref b6), (.ref b30)])) rfl rfl (hb hby at_282) t k) ?_
          show own_Go p e below G (T36.setTop (mkF m 283 #[iv x0, iv x1, iv x2, iv x3, .val (.long x4), .second, iv x5, rv b1, iv fr, iv ro, iv rvx, rv b6, rv b11, .val (.long re), .second, .val (.long sh), .second, rv b30, .unset, .unset, .unset, .unset, .unset, .unset] [(.int o3), (.ref b30)]))
          refine own_st (fun t k => XS.iconst X36.here hx rfl (hb hby at_283) k) ?_
          show own_Go p e below G (T36.setTop (mkF m 284 #[iv x0, iv x1, iv x2, iv x3, .val (.long x4), .second, iv x5, rv b1, iv fr, iv ro, iv rvx, rv b6, rv b11, .val (.long re), .second, .val (.long sh), .second, rv b30, .unset, .unset, .unset, .unset, .unset, .unset] [(.int (3 : Int32)), (.int o3), (.ref b30)]))
          obtain ⟨cl38, Ar38, qa38, Sa38, Na38, Ha38, Ga38⟩ := V_b30
          have hin38 : ¬ (o3 < 0 ∨ cl38.slots.size ≤ (o3).toNatClampNeg) := inb_of Sa38 (own_bd4 hPb.2.2.2)
          obtain ⟨T38, h38, X38, e38, W38, st38⟩ := stI X36 hx hZ e36 Ar38 (j := o3) hin38 (g := (mkF m 284 #[iv x0, iv x1, iv x2, iv x3, .val (.long x4), .second, iv x5, rv b1, iv fr, iv ro, iv rvx, rv b6, rv b11, .val (.long re), .second, .val (.long sh), .second, rv b30, .unset, .unset, .unset, .unset, .unset, .unset] [(.int (3 : Int32)), (.int o3), (.ref b30)])) rfl rfl (hb hby at_284)
          have V_b30 : Arv Z h38 b30 k30 .int (4 : Int32) [(.int (own_sl o3 0 (3 : Int32) (own_sl o2 0 (2 : Int32) (own_sl o1 0 (1 : Int32) (own_sl o0 0 (0 : Int32) (0 : Int32)))))), (.int (own_sl o3 1 (3 : Int32) (own_sl o2 1 (2 : Int32) (own_sl o1 1 (1 : Int32) (own_sl o0 1 (0 : Int32) (0 : Int32)))))), (.int (own_sl o3 2 (3 : Int32) (own_sl o2 2 (2 : Int32) (own_sl o1 2 (1 : Int32) (own_sl o0 2 (0 : Int32) (0 : Int32)))))), (.int (own_sl o3 3 (3 : Int32) (own_sl o2 3 (2 : Int32) (own_sl o1 3 (1 : Int32) (own_sl o0 3 (0 : Int32) (0 : Int32))))))] (.int (0 : Int32)) := by
            have q := Arv.set Ar38 qa38 Sa38 Na38 Ha38 Ga38 rfl W38 _ rfl (own_lt4 hPb.2.2.2)
            rw [own_set4 hPb.2.2.2] at q
            exact q
          replace V_b1 := V_b1.other W38 ne_b1_b30
          replace V_b6 := V_b6.other W38 ne_b6_b30
          replace V_b11 := V_b11.other W38 ne_b11_b30
          replace Z0 := Nat.le_trans Z0 (Keep.of_wr W38).1
          replace N0 := Fr.snoc X38 N0 g_b30
          refine own_st st38 ?_
          show own_Go p e below G (T38.setTop (mkF m 285 #[iv x0, iv x1, iv x2, iv x3, .val (.long x4), .second, iv x5, rv b1, iv fr, iv ro, iv rvx, rv b6, rv b11, .val (.long re), .second, .val (.long sh), .second, rv b30, .unset, .unset, .unset, .unset, .unset, .unset] []))
          replace V_b30 : Arv Z h38 b30 k30 .int (4 : Int32) [(.int (own_iv o0 o1 o2 o3 (0 : Int32))), (.int (own_iv o0 o1 o2 o3 (1 : Int32))), (.int (own_iv o0 o1 o2 o3 (2 : Int32))), (.int (own_iv o0 o1 o2 o3 (3 : Int32)))] (.int (0 : Int32)) := V_b30
          obtain ⟨T39, h39, X39, e39, E39, A39, D39, -, st39⟩ := newO X38 hx hZ hown (hw _ (List.mem_of_getElem? (i := 4) rfl)) (hw _ (List.mem_of_getElem? (i := 5) rfl)) (hw _ (List.mem_of_getElem? (i := 6) rfl)) e38 (g := (mkF m 285 #[iv x0, iv x1, iv x2, iv x3, .val (.long x4), .second, iv x5, rv b1, iv fr, iv ro, iv rvx, rv b6, rv b11, .val (.long re), .second, .val (.long sh), .second, rv b30, .unset, .unset, .unset, .unset, .unset, .unset] [])) rfl (hb hby at_285) (by decide) (by decide)
          obtain ⟨b39, gb39⟩ : ∃ z, z = h38.size := ⟨_, rfl⟩
          rw [← gb39] at A39 D39 st39
          have g_b39 : n0 ≤ b39 := Nat.le_trans Z0 (Nat.le_of_eq gb39.symm)
          have ne_b1_b39 : b1 ≠ b39 := Nat.ne_of_lt (Nat.lt_of_lt_of_le V_b1.lt (Nat.le_of_eq gb39.symm))
          have ne_b6_b39 : b6 ≠ b39 := Nat.ne_of_lt (Nat.lt_of_lt_of_le V_b6.lt (Nat.le_of_eq gb39.symm))
          have ne_b11_b39 : b11 ≠ b39 := Nat.ne_of_lt (Nat.lt_of_lt_of_le V_b11.lt (Nat.le_of_eq gb39.symm))
          have ne_b30_b39 : b30 ≠ b39 := Nat.ne_of_lt (Nat.lt_of_lt_of_le V_b30.lt (Nat.le_of_eq gb39.symm))
          replace Z0 := Nat.le_trans Z0 E39.1
          replace V_b1 := V_b1.ext E39
          replace V_b6 := V_b6.ext E39
          replace V_b11 := V_b11.ext E39
          replace V_b30 := V_b30.ext E39
          have E_b39 := A39
          have F_postings_b39 : Fld Z h39 b39 "com/example/thinleaf/thinleaf/prune/DocumentCut" "postings" "[I" .null := D39 (Or.inr (hw _ (List.mem_of_getElem? (i := 14) rfl))) (ty := (.array .int)) (by decide)
          have F_goes_b39 : Fld Z h39 b39 "com/example/thinleaf/thinleaf/prune/DocumentCut" "goes" "[Z" .null := D39 (Or.inr (hw _ (List.mem_of_getElem? (i := 17) rfl))) (ty := (.array .boolean)) (by decide)
          refine own_st st39 ?_
          show own_Go p e below G (T39.setTop (mkF m 288 #[iv x0, iv x1, iv x2, iv x3, .val (.long x4), .second, iv x5, rv b1, iv fr, iv ro, iv rvx, rv b6, rv b11, .val (.long re), .second, .val (.long sh), .second, rv b30, .unset, .unset, .unset, .unset, .unset, .unset] [(.ref b39)]))
          refine own_st (fun t k => XS.dup X39.here hx rfl (hb hby at_288) rfl rfl k) ?_
          refine own_st (fun t k => XS.aload X39.here hx rfl (hb hby at_289) rfl rfl  k) ?_
          show own_Go p e below G (T39.setTop (mkF m 291 #[iv x0, iv x1, iv x2, iv x3, .val (.long x4), .second, iv x5, rv b1, iv fr, iv ro, iv rvx, rv b6, rv b11, .val (.long re), .second, .val (.long sh), .second, rv b30, .unset, .unset, .unset, .unset, .unset, .unset] [(.ref b1), (.ref b39), (.ref b39)]))
          obtain ⟨v40, T40, L40, X40, Q40, st40⟩ := own_callC X39 hx hZ (y := (⟨"com/example/thinleaf/thinleaf/prune/DocumentCut", "<init>", "([I)V"⟩ : MethodName)) rfl hown (hw _ (List.mem_of_getElem? (i := 7) rfl)) (hw _ (List.mem_of_getElem? (i := 8) rfl)) (hw _ (List.mem_of_getElem? (i := 6) rfl)) (hw _ (List.mem_of_getElem? (i := 9) rfl)) (by decide) (W := 1) (rm2 l Z a0 hw b39 b1 k1 p0 p1 p2 p3 h39 n0 Z0 g_b39 E_b39 F_postings_b39 F_goes_b39 V_b1 ne_b1_b39) (by decide) (by decide) e39 (g := (mkF m 291 #[iv x0, iv x1, iv x2, iv x3, .val (.long x4), .second, iv x5, rv b1, iv fr, iv ro, iv rvx, rv b6, rv b11, .val (.long re), .second, .val (.long sh), .second, rv b30, .unset, .unset, .unset, .unset, .unset, .unset] [(.ref b1), (.ref b39), (.ref b39)])) rfl (by rw [hml]; rfl) (a := b39) (argsL := [(.ref b1)]) (rest := [(.ref b39)]) own_pd8 rfl rfl (by show 2 * 0 + _ ≤ _; exact Nat.le_of_eq rfl) (hb hby at_291) rfl (by decide) (by decide)
          obtain ⟨rfl, Nq40, Kq40, Ecut, Fpo, gz, kg, gegz, Fgo, V_gz⟩ := Q40
          replace N0 := Fr.app N0 Nq40
          have g_gz : n0 ≤ gz := Nat.le_trans Z0 gegz
          have ne_b1_gz : b1 ≠ gz := Nat.ne_of_lt (Nat.lt_of_lt_of_le V_b1.lt gegz)
          have ne_b6_gz : b6 ≠ gz := Nat.ne_of_lt (Nat.lt_of_lt_of_le V_b6.lt gegz)
          have ne_b11_gz : b11 ≠ gz := Nat.ne_of_lt (Nat.lt_of_lt_of_le V_b11.lt gegz)
          have ne_b30_gz : b30 ≠ gz := Nat.ne_of_lt (Nat.lt_of_lt_of_le V_b30.lt gegz)
          have ne_b39_gz : b39 ≠ gz := Nat.ne_of_lt (Nat.lt_of_lt_of_le E_b39.lt gegz)
          replace V_b1 := V_b1.keep Kq40 (ninS ne_b1_b39 nin0)
          replace V_b6 := V_b6.keep Kq40 (ninS ne_b6_b39 nin0)
          replace V_b11 := V_b11.keep Kq40 (ninS ne_b11_b39 nin0)
          replace V_b30 := V_b30.keep Kq40 (ninS ne_b30_b39 nin0)
          replace Z0 := Nat.le_trans Z0 Kq40.1
          refine own_st st40 ?_
          show own_Go p e below G (T40.setTop (mkF m 294 #[iv x0, iv x1, iv x2, iv x3, .val (.long x4), .second, iv x5, rv b1, iv fr, iv ro, iv rvx, rv b6, rv b11, .val (.long re), .second, .val (.long sh), .second, rv b30, .unset, .unset, .unset, .unset, .unset, .unset] [(.ref b39)]))
          refine own_st (fun t k => XS.astore X40.here hx rfl (hb hby at_294) rfl rfl (l' := #[iv x0, iv x1, iv x2, iv x3, .val (.long x4), .second, iv x5, rv b1, iv fr, iv ro, iv rvx, rv b6, rv b11, .val (.long re), .second, .val (.long sh), .second, rv b30, rv b39, .unset, .unset, .unset, .unset, .unset]) rfl k) ?_
          refine own_st (fun t k => XS.aload X40.here hx rfl (hb hby at_296) rfl rfl  k) ?_
          refine own_st (fun t k => XS.aload X40.here hx rfl (hb hby at_298) rfl rfl  k) ?_
          show own_Go p e below G (T40.setTop (mkF m 300 #[iv x0, iv x1, iv x2, iv x3, .val (.long x4), .second, iv x5, rv b1, iv fr, iv ro, iv rvx, rv b6, rv b11, .val (.long re), .second, .val (.long sh), .second, rv b30, rv b39, .unset, .unset, .unset, .unset, .unset] [(.ref b6), (.ref b39)]))
          refine own_st (fun t k => XS.iload X40.here hx rfl (hb hby at_300) rfl  k) ?_
          refine own_st (fun t k => XS.lload X40.here hx rfl (hb hby at_302) rfl  k) ?_
          show own_Go p e below G (T40.setTop (mkF m 304 #[iv x0, iv x1, iv x2, iv x3, .val (.long x4), .second, iv x5, rv b1, iv fr, iv ro, iv rvx, rv b6, rv b11, .val (.long re), .second, .val (.long sh), .second, rv b30, rv b39, .unset, .unset, .unset, .unset, .unset] [(.long sh), (.int fr), (.ref b6), (.ref b39)]))
          obtain ⟨v41, T41, L41, X41, Q41, st41⟩ := own_callV X40 hx hZ (y := (⟨"com/example/thinleaf/thinleaf/prune/DocumentCut", "remove", "([IIJ)I"⟩ : MethodName)) (z := (⟨"com/example/thinleaf/thinleaf/prune/DocumentCut", "remove", "([IIJ)I"⟩ : MethodName)) hown (hw _ (List.mem_of_getElem? (i := 18) rfl)) (hw _ (List.mem_of_getElem? (i := 19) rfl)) (notFace_of_selects (args := #[]) (mvT hZ (hw _ (List.mem_of_getElem? (i := 21) rfl)))) (hw _ (List.mem_of_getElem? (i := 21) rfl)) (hw _ (List.mem_of_getElem? (i := 20) rfl)) (hw _ (List.mem_of_getElem? (i := 6) rfl)) (hw _ (List.mem_of_getElem? (i := 22) rfl)) (by decide) (W := 0) (rm3 l Z a0 hw b39 b6 b1 gz k6 k1 kg fr sh o0 o1 o2 o3 p0 p1 p2 p3 T40.heap n0 Z0 g_gz ne_b39_gz ne_b1_gz ne_b6_gz Fpo Fgo V_b1 V_b6 V_gz hP hpn hfr.1 hfr.2 hsr.2.1 (by rw [hq0, hq1, hq2, hq3, ← tre]; exact hsr.2.2)) (by decide) (by decide) rfl Ecut (g := (mkF m 304 #[iv x0, iv x1, iv x2, iv x3, .val (.long x4), .second, iv x5, rv b1, iv fr, iv ro, iv rvx, rv b6, rv b11, .val (.long re), .second, .val (.long sh), .second, rv b30, rv b39, .unset, .unset, .unset, .unset, .unset] [(.long sh), (.int fr), (.ref b6), (.ref b39)])) rfl (by rw [hml]; rfl) (argsL := [(.ref b6), (.int fr), (.long sh)]) (rest := []) own_pd9 rfl rfl (by show 2 * 0 + _ ≤ _; exact Nat.le_of_eq rfl) (hb hby at_304) rfl (by decide) (by decide)
          obtain ⟨en, rfl, Nq41, Kq41, Vg, he0, he4, hT1, hT2⟩ := Q41
          rw [hq0, hq1, hq2, hq3] at hT1 hT2
          replace N0 := Fr.app N0 Nq41
          simp only [Nat.add_zero] at X41
          replace V_b1 := V_b1.keep Kq41 (ninS ne_b1_gz nin0)
          replace V_b6 := V_b6.keep Kq41 (ninS ne_b6_gz nin0)
          replace V_b11 := V_b11.keep Kq41 (ninS ne_b11_gz nin0)
          replace V_b30 := V_b30.keep Kq41 (ninS ne_b30_gz nin0)
          replace Ecut := Ecut.keep Kq41
          replace Fpo := Fpo.keep Kq41 (ninS ne_b39_gz nin0)
          replace Fgo := Fgo.keep Kq41 (ninS ne_b39_gz nin0)
          replace Z0 := Nat.le_trans Z0 Kq41.1
          replace V_gz := Vg
          refine own_st st41 ?_
          show own_Go p e below G (T41.setTop (mkF m 307 #[iv x0, iv x1, iv x2, iv x3, .val (.long x4), .second, iv x5, rv b1, iv fr, iv ro, iv rvx, rv b6, rv b11, .val (.long re), .second, .val (.long sh), .second, rv b30, rv b39, .unset, .unset, .unset, .unset, .unset] [(.int en)]))
          refine own_st (fun t k => XS.istore X41.here hx rfl (hb hby at_307) rfl (l' := #[iv x0, iv x1, iv x2, iv x3, .val (.long x4), .second, iv x5, rv b1, iv fr, iv ro, iv rvx, rv b6, rv b11, .val (.long re), .second, .val (.long sh), .second, rv b30, rv b39, iv en, .unset, .unset, .unset, .unset]) rfl k) ?_
          refine own_st (fun t k => XS.iload X41.here hx rfl (hb hby at_309) rfl  k) ?_
          refine own_st (fun t k => XS.iload X41.here hx rfl (hb hby at_311) rfl  k) ?_
          show own_Go p e below G (T41.setTop (mkF m 313 #[iv x0, iv x1, iv x2, iv x3, .val (.long x4), .second, iv x5, rv b1, iv fr, iv ro, iv rvx, rv b6, rv b11, .val (.long re), .second, .val (.long sh), .second, rv b30, rv b39, iv en, .unset, .unset, .unset, .unset] [(.int fr), (.int en)]))
          refine own_st (fun t k => XS.icmpNo X41.here hx rfl (hb hby at_313) rfl (flt (own_nlt he0)).1 k) ?_
          show own_Go p e below G (T41.setTop (mkF m 316 #[iv x0, iv x1, iv x2, iv x3, .val (.long x4), .second, iv x5, rv b1, iv fr, iv ro, iv rvx, rv b6, rv b11, .val (.long re), .second, .val (.long sh), .second, rv b30, rv b39, iv en, .unset, .unset, .unset, .unset] []))
          refine own_st (fun t k => XS.iload X41.here hx rfl (hb hby at_316) rfl  k) ?_
          refine own_st (fun t k => XS.iconst X41.here hx rfl (hb hby at_318) k) ?_
          show own_Go p e below G (T41.setTop (mkF m 319 #[iv x0, iv x1, iv x2, iv x3, .val (.long x4), .second, iv x5, rv b1, iv fr, iv ro, iv rvx, rv b6, rv b11, .val (.long re), .second, .val (.long sh), .second, rv b30, rv b39, iv en, .unset, .unset, .unset, .unset] [(.int (4 : Int32)), (.int en)]))
          refine own_st (fun t k => XS.icmpYes X41.here hx rfl (pc0 := 319) (pc' := 324) rfl (hb hby at_319) rfl (flt (own_nlt (a := 4) he4)).2.2.2 (by decide) (by decide) k) ?_
          show own_Go p e below G (T41.setTop (mkF m 324 #[iv x0, iv x1, iv x2, iv x3, .val (.long x4), .second, iv x5, rv b1, iv fr, iv ro, iv rvx, rv b6, rv b11, .val (.long re), .second, .val (.long sh), .second, rv b30, rv b39, iv en, .unset, .unset, .unset, .unset] []))
          refine own_st (fun t k => XS.aload X41.here hx rfl (hb hby at_324) rfl rfl  k) ?_
          refine own_st (fun t k => XS.iload X41.here hx rfl (hb hby at_326) rfl  k) ?_
          show own_Go p e below G (T41.setTop (mkF m 328 #[iv x0, iv x1, iv x2, iv x3, .val (.long x4), .second, iv x5, rv b1, iv fr, iv ro, iv rvx, rv b6, rv b11, .val (.long re), .second, .val (.long sh), .second, rv b30, rv b39, iv en, .unset, .unset, .unset, .unset] [(.int en), (.ref b11)]))
          have Vc42 := V_b11
          obtain ⟨cl42, Ar42, -, Sa42, -, Ha42, -⟩ := Vc42
          have hin42 : ¬ (en < 0 ∨ cl42.slots.size ≤ (en).toNatClampNeg) := inb_of Sa42 (own_bd5 ⟨Int.le_trans hfr.1 he0, he4⟩)
          refine own_st (fun t k => X41.laload hx (j := en) (v := (.long (own_p5 en (0 : Int64) ((0 : Int64) + (q0.toInt64)) (((0 : Int64) + (q0.toInt64)) + (q1.toInt64)) ((((0 : Int64) + (q0.toInt64)) + (q1.toInt64)) + (q2.toInt64)) (((((0 : Int64) + (q0.toInt64)) + (q1.toInt64)) + (q2.toInt64)) + (q3.toInt64))))) (by exact Ar42.1) (State.isArrayOf_alike hZ.alike Ar42.2.1) Ar42.2.2 hin42 (Ha42.at hin42 (own_at5 ⟨Int.le_trans hfr.1 he0, he4⟩)) (g := (mkF m 328 #[iv x0, iv x1, iv x2, iv x3, .val (.long x4), .second, iv x5, rv b1, iv fr, iv ro, iv rvx, rv b6, rv b11, .val (.long re), .second, .val (.long sh), .second, rv b30, rv b39, iv en, .unset, .unset, .unset, .unset] [(.int en), (.ref b11)])) rfl rfl (hb hby at_328) t k) ?_
          have tpe := own_p5T hqn0 hqn1 hqn2 hqn3 (j := en) ⟨Int.le_trans hfr.1 he0, he4⟩
          generalize hpe : (own_p5 en (0 : Int64) ((0 : Int64) + (q0.toInt64)) (((0 : Int64) + (q0.toInt64)) + (q1.toInt64)) ((((0 : Int64) + (q0.toInt64)) + (q1.toInt64)) + (q2.toInt64)) (((((0 : Int64) + (q0.toInt64)) + (q1.toInt64)) + (q2.toInt64)) + (q3.toInt64))) = pe at tpe ⊢
          show own_Go p e below G (T41.setTop (mkF m 329 #[iv x0, iv x1, iv x2, iv x3, .val (.long x4), .second, iv x5, rv b1, iv fr, iv ro, iv rvx, rv b6, rv b11, .val (.long re), .second, .val (.long sh), .second, rv b30, rv b39, iv en, .unset, .unset, .unset, .unset] [(.long pe)]))
          refine own_st (fun t k => XS.aload X41.here hx rfl (hb hby at_329) rfl rfl  k) ?_
          refine own_st (fun t k => XS.iload X41.here hx rfl (hb hby at_331) rfl  k) ?_
          show own_Go p e below G (T41.setTop (mkF m 333 #[iv x0, iv x1, iv x2, iv x3, .val (.long x4), .second, iv x5, rv b1, iv fr, iv ro, iv rvx, rv b6, rv b11, .val (.long re), .second, .val (.long sh), .second, rv b30, rv b39, iv en, .unset, .unset, .unset, .unset] [(.int fr), (.ref b11), (.long pe)]))
          have Vc43 := V_b11
          obtain ⟨cl43, Ar43, -, Sa43, -, Ha43, -⟩ := Vc43
          have hin43 : ¬ (fr < 0 ∨ cl43.slots.size ≤ (fr).toNatClampNeg) := inb_of Sa43 (own_bd5 hfr)
          refine own_st (fun t k => X41.laload hx (j := fr) (v := (.long (own_p5 fr (0 : Int64) ((0 : Int64) + (q0.toInt64)) (((0 : Int64) + (q0.toInt64)) + (q1.toInt64)) ((((0 : Int64) + (q0.toInt64)) + (q1.toInt64)) + (q2.toInt64)) (((((0 : Int64) + (q0.toInt64)) + (q1.toInt64)) + (q2.toInt64)) + (q3.toInt64))))) (by exact Ar43.1) (State.isArrayOf_alike hZ.alike Ar43.2.1) Ar43.2.2 hin43 (Ha43.at hin43 (own_at5 hfr)) (g := (mkF m 333 #[iv x0, iv x1, iv x2, iv x3, .val (.long x4), .second, iv x5, rv b1, iv fr, iv ro, iv rvx, rv b6, rv b11, .val (.long re), .second, .val (.long sh), .second, rv b30, rv b39, iv en, .unset, .unset, .unset, .unset] [(.int fr), (.ref b11), (.long pe)])) rfl rfl (hb hby at_333) t k) ?_
          rw [hpf]
          show own_Go p e below G (T41.setTop (mkF m 334 #[iv x0, iv x1, iv x2, iv x3, .val (.long x4), .second, iv x5, rv b1, iv fr, iv ro, iv rvx, rv b6, rv b11, .val (.long re), .second, .val (.long sh), .second, rv b30, rv b39, iv en, .unset, .unset, .unset, .unset] [(.long pf), (.long pe)]))
          refine own_st (fun t k => XS.lsub X41.here hx rfl (hb hby at_334) rfl k) ?_
          show own_Go p e below G (T41.setTop (mkF m 335 #[iv x0, iv x1, iv x2, iv x3, .val (.long x4), .second, iv x5, rv b1, iv fr, iv ro, iv rvx, rv b6, rv b11, .val (.long re), .second, .val (.long sh), .second, rv b30, rv b39, iv en, .unset, .unset, .unset, .unset] [(.long (pe - pf))]))
          refine own_st (fun t k => XS.lload X41.here hx rfl (hb hby at_335) rfl  k) ?_
          show own_Go p e below G (T41.setTop (mkF m 337 #[iv x0, iv x1, iv x2, iv x3, .val (.long x4), .second, iv x5, rv b1, iv fr, iv ro, iv rvx, rv b6, rv b11, .val (.long re), .second, .val (.long sh), .second, rv b30, rv b39, iv en, .unset, .unset, .unset, .unset] [(.long sh), (.long (pe - pf))]))
          refine own_st (fun t k => XS.lcmp X41.here hx rfl (hb hby at_337) rfl k) ?_
          show own_Go p e below G (T41.setTop (mkF m 338 #[iv x0, iv x1, iv x2, iv x3, .val (.long x4), .second, iv x5, rv b1, iv fr, iv ro, iv rvx, rv b6, rv b11, .val (.long re), .second, .val (.long sh), .second, rv b30, rv b39, iv en, .unset, .unset, .unset, .unset] [(.int (lcmpW (pe - pf) sh))]))
          refine own_st (fun t k => XS.ifYes X41.here hx rfl (pc0 := 338) (pc' := 343) rfl (hb hby at_338) rfl ((if0 _ _).trans (flt (fun q => (own_nltL (by rw [own_subL tpe tpf ⟨(bT en.toInt).1, (bT en.toInt).2.1⟩ ⟨(bT fr.toInt).1, (bT fr.toInt).2.1⟩]; exact hT1)) ((lw_lt _ _).1 q))).2.1) (by decide) (by decide) k) ?_
          show own_Go p e below G (T41.setTop (mkF m 343 #[iv x0, iv x1, iv x2, iv x3, .val (.long x4), .second, iv x5, rv b1, iv fr, iv ro, iv rvx, rv b6, rv b11, .val (.long re), .second, .val (.long sh), .second, rv b30, rv b39, iv en, .unset, .unset, .unset, .unset] []))
          refine own_st (fun t k => XS.iload X41.here hx rfl (hb hby at_343) rfl  k) ?_
          refine own_st (fun t k => XS.iload X41.here hx rfl (hb hby at_345) rfl  k) ?_
          show own_Go p e below G (T41.setTop (mkF m 347 #[iv x0, iv x1, iv x2, iv x3, .val (.long x4), .second, iv x5, rv b1, iv fr, iv ro, iv rvx, rv b6, rv b11, .val (.long re), .second, .val (.long sh), .second, rv b30, rv b39, iv en, .unset, .unset, .unset, .unset] [(.int fr), (.int en)]))
          have J371 : ∀ (u371 : True), own_Go p e below G (T41.setTop (mkF m 371 #[iv x0, iv x1, iv x2, iv x3, .val (.long x4), .second, iv x5, rv b1, iv fr, iv ro, iv rvx, rv b6, rv b11, .val (.long re), .second, .val (.long sh), .second, rv b30, rv b39, iv en, .unset, .unset, .unset, .unset] [])) := by
            intro u371
            obtain ⟨c0, hc0⟩ : ∃ z, z = own_b o0 o1 o2 o3 fr en (0 : Int32) := ⟨_, rfl⟩
            obtain ⟨c1, hc1⟩ : ∃ z, z = own_b o0 o1 o2 o3 fr en (1 : Int32) := ⟨_, rfl⟩
            obtain ⟨c2, hc2⟩ : ∃ z, z = own_b o0 o1 o2 o3 fr en (2 : Int32) := ⟨_, rfl⟩
            obtain ⟨c3, hc3⟩ : ∃ z, z = own_b o0 o1 o2 o3 fr en (3 : Int32) := ⟨_, rfl⟩
            rw [← hc0, ← hc1, ← hc2, ← hc3] at V_gz
            refine own_st (fun t k => XS.aload X41.here hx rfl (hb hby at_371) rfl rfl  k) ?_
            refine own_st (fun t k => XS.aconstNull X41.here hx rfl (hb hby at_373) k) ?_
            show own_Go p e below G (T41.setTop (mkF m 374 #[iv x0, iv x1, iv x2, iv x3, .val (.long x4), .second, iv x5, rv b1, iv fr, iv ro, iv rvx, rv b6, rv b11, .val (.long re), .second, .val (.long sh), .second, rv b30, rv b39, iv en, .unset, .unset, .unset, .unset] [.null, (.ref b39)]))
            obtain ⟨v44, T44, L44, X44, Q44, st44⟩ := own_callV X41 hx hZ (y := (⟨"com/example/thinleaf/thinleaf/prune/DocumentCut", "keeping", "(Ljava/util/Map;)Lcom/example/thinleaf/thinleaf/prune/Selection;"⟩ : MethodName)) (z := (⟨"com/example/thinleaf/thinleaf/prune/DocumentCut", "keeping", "(Ljava/util/Map;)Lcom/example/thinleaf/thinleaf/prune/Selection;"⟩ : MethodName)) hown (hw _ (List.mem_of_getElem? (i := 23) rfl)) (hw _ (List.mem_of_getElem? (i := 24) rfl)) (notFace_of_selects (args := #[]) (mvT hZ (hw _ (List.mem_of_getElem? (i := 26) rfl)))) (hw _ (List.mem_of_getElem? (i := 26) rfl)) (hw _ (List.mem_of_getElem? (i := 25) rfl)) (hw _ (List.mem_of_getElem? (i := 6) rfl)) (hw _ (List.mem_of_getElem? (i := 27) rfl)) (by decide) (W := 0) (rm8 l Z a0 hw b39 T41.heap n0 Z0) (by decide) (by decide) rfl Ecut (g := (mkF m 374 #[iv x0, iv x1, iv x2, iv x3, .val (.long x4), .second, iv x5, rv b1, iv fr, iv ro, iv rvx, rv b6, rv b11, .val (.long re), .second, .val (.long sh), .second, rv b30, rv b39, iv en, .unset, .unset, .unset, .unset] [.null, (.ref b39)])) rfl (by rw [hml]; rfl) (argsL := [.null]) (rest := []) own_pd10 rfl rfl (by show 2 * 0 + _ ≤ _; exact Nat.le_of_eq rfl) (hb hby at_374) rfl (by decide) (by decide)
            obtain ⟨rr, rfl, Nq44, Kq44, ger, Err, Fth⟩ := Q44
            replace N0 := Fr.app N0 Nq44
            replace V_b1 := V_b1.keep Kq44 nin0
            replace V_b6 := V_b6.keep Kq44 nin0
            replace V_b11 := V_b11.keep Kq44 nin0
            replace V_b30 := V_b30.keep Kq44 nin0
            replace Ecut := Ecut.keep Kq44
            replace Fpo := Fpo.keep Kq44 nin0
            replace Fgo := Fgo.keep Kq44 nin0
            replace V_gz := V_gz.keep Kq44 nin0
            replace Z0 := Nat.le_trans Z0 Kq44.1
            refine own_st st44 ?_
            show own_Go p e below G (T44.setTop (mkF m 377 #[iv x0, iv x1, iv x2, iv x3, .val (.long x4), .second, iv x5, rv b1, iv fr, iv ro, iv rvx, rv b6, rv b11, .val (.long re), .second, .val (.long sh), .second, rv b30, rv b39, iv en, .unset, .unset, .unset, .unset] [(.ref rr)]))
            refine own_st (fun t k => XS.iconst X44.here hx rfl (hb hby at_377) k) ?_
            refine own_st (fun t k => XS.aconstNull X44.here hx rfl (hb hby at_378) k) ?_
            show own_Go p e below G (T44.setTop (mkF m 379 #[iv x0, iv x1, iv x2, iv x3, .val (.long x4), .second, iv x5, rv b1, iv fr, iv ro, iv rvx, rv b6, rv b11, .val (.long re), .second, .val (.long sh), .second, rv b30, rv b39, iv en, .unset, .unset, .unset, .unset] [.null, (.int (0 : Int32)), (.ref rr)]))
            obtain ⟨T45, h45, X45, e45, E45, A45, D45, -, st45⟩ := newO X44 hx hZ hown (hw _ (List.mem_of_getElem? (i := 39) rfl)) (hw _ (List.mem_of_getElem? (i := 40) rfl)) (hw _ (List.mem_of_getElem? (i := 41) rfl)) rfl (g := (mkF m 379 #[iv x0, iv x1, iv x2, iv x3, .val (.long x4), .second, iv x5, rv b1, iv fr, iv ro, iv rvx, rv b6, rv b11, .val (.long re), .second, .val (.long sh), .second, rv b30, rv b39, iv en, .unset, .unset, .unset, .unset] [.null, (.int (0 : Int32)), (.ref rr)])) rfl (hb hby at_379) (by decide) (by decide)
            obtain ⟨b45, gb45⟩ : ∃ z, z = T44.heap.size := ⟨_, rfl⟩
            rw [← gb45] at A45 D45 st45
            have g_b45 : n0 ≤ b45 := Nat.le_trans Z0 (Nat.le_of_eq gb45.symm)
            have ne_b1_b45 : b1 ≠ b45 := Nat.ne_of_lt (Nat.lt_of_lt_of_le V_b1.lt (Nat.le_of_eq gb45.symm))
            have ne_b6_b45 : b6 ≠ b45 := Nat.ne_of_lt (Nat.lt_of_lt_of_le V_b6.lt (Nat.le_of_eq gb45.symm))
            have ne_b11_b45 : b11 ≠ b45 := Nat.ne_of_lt (Nat.lt_of_lt_of_le V_b11.lt (Nat.le_of_eq gb45.symm))
            have ne_b30_b45 : b30 ≠ b45 := Nat.ne_of_lt (Nat.lt_of_lt_of_le V_b30.lt (Nat.le_of_eq gb45.symm))
            have ne_b39_b45 : b39 ≠ b45 := Nat.ne_of_lt (Nat.lt_of_lt_of_le Ecut.lt (Nat.le_of_eq gb45.symm))
            have ne_gz_b45 : gz ≠ b45 := Nat.ne_of_lt (Nat.lt_of_lt_of_le V_gz.lt (Nat.le_of_eq gb45.symm))
            have ne_rr_b45 : rr ≠ b45 := Nat.ne_of_lt (Nat.lt_of_lt_of_le Err.lt (Nat.le_of_eq gb45.symm))
            replace Z0 := Nat.le_trans Z0 E45.1
            replace V_b1 := V_b1.ext E45
            replace V_b6 := V_b6.ext E45
            replace V_b11 := V_b11.ext E45
            replace V_b30 := V_b30.ext E45
            replace Ecut := Ecut.ext E45
            replace Fpo := Fpo.ext E45
            replace Fgo := Fgo.ext E45
            replace V_gz := V_gz.ext E45
            replace Err := Err.ext E45
            replace Fth := Fth.ext E45
            have E_b45 := A45
            have F_documents_b45 : Fld Z h45 b45 "com/example/thinleaf/thinleaf/core/index/Postings" "documents" "[I" .null := D45 (Or.inr (hw _ (List.mem_of_getElem? (i := 52) rfl))) (ty := (.array .int)) (by decide)
            have F_frequencies_b45 : Fld Z h45 b45 "com/example/thinleaf/thinleaf/core/index/Postings" "frequencies" "[I" .null := D45 (Or.inr (hw _ (List.mem_of_getElem? (i := 54) rfl))) (ty := (.array .int)) (by decide)
            refine own_st st45 ?_
            show own_Go p e below G (T45.setTop (mkF m 382 #[iv x0, iv x1, iv x2, iv x3, .val (.long x4), .second, iv x5, rv b1, iv fr, iv ro, iv rvx, rv b6, rv b11, .val (.long re), .second, .val (.long sh), .second, rv b30, rv b39, iv en, .unset, .unset, .unset, .unset] [(.ref b45), .null, (.int (0 : Int32)), (.ref rr)]))
            refine own_st (fun t k => XS.dup X45.here hx rfl (hb hby at_382) rfl rfl k) ?_
            refine own_st (fun t k => XS.iconst X45.here hx rfl (hb hby at_383) k) ?_
            show own_Go p e below G (T45.setTop (mkF m 384 #[iv x0, iv x1, iv x2, iv x3, .val (.long x4), .second, iv x5, rv b1, iv fr, iv ro, iv rvx, rv b6, rv b11, .val (.long re), .second, .val (.long sh), .second, rv b30, rv b39, iv en, .unset, .unset, .unset, .unset] [(.int (4 : Int32)), (.ref b45), (.ref b45), .null, (.int (0 : Int32)), (.ref rr)]))
            obtain ⟨T46, h46, k46, X46, e46, E46, A46, st46⟩ := newP X45 hx hZ (hw _ (List.mem_of_getElem? (i := 0) rfl)) e45 (g := (mkF m 384 #[iv x0, iv x1, iv x2, iv x3, .val (.long x4), .second, iv x5, rv b1, iv fr, iv ro, iv rvx, rv b6, rv b11, .val (.long re), .second, .val (.long sh), .second, rv b30, rv b39, iv en, .unset, .unset, .unset, .unset] [(.int (4 : Int32)), (.ref b45), (.ref b45), .null, (.int (0 : Int32)), (.ref rr)])) rfl (hb hby at_384) rfl (by decide) (cap := 4) (by decide) (by decide) (by decide) (by decide)
            obtain ⟨b46, gb46⟩ : ∃ z, z = h45.size := ⟨_, rfl⟩
            rw [← gb46] at A46 st46
            have g_b46 : n0 ≤ b46 := Nat.le_trans Z0 (Nat.le_of_eq gb46.symm)
            have ne_b1_b46 : b1 ≠ b46 := Nat.ne_of_lt (Nat.lt_of_lt_of_le V_b1.lt (Nat.le_of_eq gb46.symm))
            have ne_b6_b46 : b6 ≠ b46 := Nat.ne_of_lt (Nat.lt_of_lt_of_le V_b6.lt (Nat.le_of_eq gb46.symm))
            have ne_b11_b46 : b11 ≠ b46 := Nat.ne_of_lt (Nat.lt_of_lt_of_le V_b11.lt (Nat.le_of_eq gb46.symm))
            have ne_b30_b46 : b30 ≠ b46 := Nat.ne_of_lt (Nat.lt_of_lt_of_le V_b30.lt (Nat.le_of_eq gb46.symm))
            have ne_b39_b46 : b39 ≠ b46 := Nat.ne_of_lt (Nat.lt_of_lt_of_le Ecut.lt (Nat.le_of_eq gb46.symm))
            have ne_gz_b46 : gz ≠ b46 := Nat.ne_of_lt (Nat.lt_of_lt_of_le V_gz.lt (Nat.le_of_eq gb46.symm))
            have ne_rr_b46 : rr ≠ b46 := Nat.ne_of_lt (Nat.lt_of_lt_of_le Err.lt (Nat.le_of_eq gb46.symm))
            have ne_b45_b46 : b45 ≠ b46 := Nat.ne_of_lt (Nat.lt_of_lt_of_le E_b45.lt (Nat.le_of_eq gb46.symm))
            replace Z0 := Nat.le_trans Z0 E46.1
            replace V_b1 := V_b1.ext E46
            replace V_b6 := V_b6.ext E46
            replace V_b11 := V_b11.ext E46
            replace V_b30 := V_b30.ext E46
            replace Ecut := Ecut.ext E46
            replace Fpo := Fpo.ext E46
            replace Fgo := Fgo.ext E46
            replace V_gz := V_gz.ext E46
            replace Err := Err.ext E46
            replace Fth := Fth.ext E46
            replace E_b45 := E_b45.ext E46
            replace F_documents_b45 := F_documents_b45.ext E46
            replace F_frequencies_b45 := F_frequencies_b45.ext E46
            have V_b46 : Arv Z h46 b46 k46 .int (4 : Int32) [(.int (0 : Int32)), (.int (0 : Int32)), (.int (0 : Int32)), (.int (0 : Int32))] (.int (0 : Int32)) := (Arv.new A46 (by decide)).pad (pad_rep [] (.int (0 : Int32)) 4)
            refine own_st st46 ?_
            show own_Go p e below G (T46.setTop (mkF m 386 #[iv x0, iv x1, iv x2, iv x3, .val (.long x4), .second, iv x5, rv b1, iv fr, iv ro, iv rvx, rv b6, rv b11, .val (.long re), .second, .val (.long sh), .second, rv b30, rv b39, iv en, .unset, .unset, .unset, .unset] [(.ref b46), (.ref b45), (.ref b45), .null, (.int (0 : Int32)), (.ref rr)]))
            refine own_st (fun t k => XS.dup X46.here hx rfl (hb hby at_386) rfl rfl k) ?_
            refine own_st (fun t k => XS.iconst X46.here hx rfl (hb hby at_387) k) ?_
            refine own_st (fun t k => XS.iconst X46.here hx rfl (hb hby at_388) k) ?_
            show own_Go p e below G (T46.setTop (mkF m 389 #[iv x0, iv x1, iv x2, iv x3, .val (.long x4), .second, iv x5, rv b1, iv fr, iv ro, iv rvx, rv b6, rv b11, .val (.long re), .second, .val (.long sh), .second, rv b30, rv b39, iv en, .unset, .unset, .unset, .unset] [(.int (0 : Int32)), (.int (0 : Int32)), (.ref b46), (.ref b46), (.ref b45), (.ref b45), .null, (.int (0 : Int32)), (.ref rr)]))
            obtain ⟨cl47, Ar47, qa47, Sa47, Na47, Ha47, Ga47⟩ := V_b46
            have hin47 : ¬ ((0 : Int32) < 0 ∨ cl47.slots.size ≤ ((0 : Int32)).toNatClampNeg) := inb_of Sa47 ⟨by decide, by decide⟩
            obtain ⟨T47, h47, X47, e47, W47, st47⟩ := stI X46 hx hZ e46 Ar47 (j := (0 : Int32)) hin47 (g := (mkF m 389 #[iv x0, iv x1, iv x2, iv x3, .val (.long x4), .second, iv x5, rv b1, iv fr, iv ro, iv rvx, rv b6, rv b11, .val (.long re), .second, .val (.long sh), .second, rv b30, rv b39, iv en, .unset, .unset, .unset, .unset] [(.int (0 : Int32)), (.int (0 : Int32)), (.ref b46), (.ref b46), (.ref b45), (.ref b45), .null, (.int (0 : Int32)), (.ref rr)])) rfl rfl (hb hby at_389)
            have V_b46 : Arv Z h47 b46 k46 .int (4 : Int32) [(.int (0 : Int32)), (.int (0 : Int32)), (.int (0 : Int32)), (.int (0 : Int32))] (.int (0 : Int32)) := Arv.set Ar47 qa47 Sa47 Na47 Ha47 Ga47 rfl W47 0 rfl (Nat.le_of_ble_eq_true rfl)
            replace V_b1 := V_b1.other W47 ne_b1_b46
            replace V_b6 := V_b6.other W47 ne_b6_b46
            replace V_b11 := V_b11.other W47 ne_b11_b46
            replace V_b30 := V_b30.other W47 ne_b30_b46
            replace Ecut := Ecut.wr W47
            replace Fpo := Fpo.other W47 (Or.inl ne_b39_b46)
            replace Fgo := Fgo.other W47 (Or.inl ne_b39_b46)
            replace V_gz := V_gz.other W47 ne_gz_b46
            replace Err := Err.wr W47
            replace Fth := Fth.other W47 (Or.inl ne_rr_b46)
            replace E_b45 := E_b45.wr W47
            replace F_documents_b45 := F_documents_b45.other W47 (Or.inl ne_b45_b46)
            replace F_frequencies_b45 := F_frequencies_b45.other W47 (Or.inl ne_b45_b46)
            replace Z0 := Nat.le_trans Z0 (Keep.of_wr W47).1
            replace N0 := Fr.snoc X47 N0 g_b46
            refine own_st st47 ?_
            show own_Go p e below G (T47.setTop (mkF m 390 #[iv x0, iv x1, iv x2, iv x3, .val (.long x4), .second, iv x5, rv b1, iv fr, iv ro, iv rvx, rv b6, rv b11, .val (.long re), .second, .val (.long sh), .second, rv b30, rv b39, iv en, .unset, .unset, .unset, .unset] [(.ref b46), (.ref b45), (.ref b45), .null, (.int (0 : Int32)), (.ref rr)]))
            refine own_st (fun t k => XS.dup X47.here hx rfl (hb hby at_390) rfl rfl k) ?_
            refine own_st (fun t k => XS.iconst X47.here hx rfl (hb hby at_391) k) ?_
            refine own_st (fun t k => XS.iconst X47.here hx rfl (hb hby at_392) k) ?_
            show own_Go p e below G (T47.setTop (mkF m 393 #[iv x0, iv x1, iv x2, iv x3, .val (.long x4), .second, iv x5, rv b1, iv fr, iv ro, iv rvx, rv b6, rv b11, .val (.long re), .second, .val (.long sh), .second, rv b30, rv b39, iv en, .unset, .unset, .unset, .unset] [(.int (1 : Int32)), (.int (1 : Int32)), (.ref b46), (.ref b46), (.ref b45), (.ref b45), .null, (.int (0 : Int32)), (.ref rr)]))
            obtain ⟨cl48, Ar48, qa48, Sa48, Na48, Ha48, Ga48⟩ := V_b46
            have hin48 : ¬ ((1 : Int32) < 0 ∨ cl48.slots.size ≤ ((1 : Int32)).toNatClampNeg) := inb_of Sa48 ⟨by decide, by decide⟩
            obtain ⟨T48, h48, X48, e48, W48, st48⟩ := stI X47 hx hZ e47 Ar48 (j := (1 : Int32)) hin48 (g := (mkF m 393 #[iv x0, iv x1, iv x2, iv x3, .val (.long x4), .second, iv x5, rv b1, iv fr, iv ro, iv rvx, rv b6, rv b11, .val (.long re), .second, .val (.long sh), .second, rv b30, rv b39, iv en, .unset, .unset, .unset, .unset] [(.int (1 : Int32)), (.int (1 : Int32)), (.ref b46), (.ref b46), (.ref b45), (.ref b45), .null, (.int (0 : Int32)), (.ref rr)])) rfl rfl (hb hby at_393)
            have V_b46 : Arv Z h48 b46 k46 .int (4 : Int32) [(.int (0 : Int32)), (.int (1 : Int32)), (.int (0 : Int32)), (.int (0 : Int32))] (.int (0 : Int32)) := Arv.set Ar48 qa48 Sa48 Na48 Ha48 Ga48 rfl W48 1 rfl (Nat.le_of_ble_eq_true rfl)
            replace V_b1 := V_b1.other W48 ne_b1_b46
            replace V_b6 := V_b6.other W48 ne_b6_b46
            replace V_b11 := V_b11.other W48 ne_b11_b46
            replace V_b30 := V_b30.other W48 ne_b30_b46
            replace Ecut := Ecut.wr W48
            replace Fpo := Fpo.other W48 (Or.inl ne_b39_b46)
            replace Fgo := Fgo.other W48 (Or.inl ne_b39_b46)
            replace V_gz := V_gz.other W48 ne_gz_b46
            replace Err := Err.wr W48
            replace Fth := Fth.other W48 (Or.inl ne_rr_b46)
            replace E_b45 := E_b45.wr W48
            replace F_documents_b45 := F_documents_b45.other W48 (Or.inl ne_b45_b46)
            replace F_frequencies_b45 := F_frequencies_b45.other W48 (Or.inl ne_b45_b46)
            replace Z0 := Nat.le_trans Z0 (Keep.of_wr W48).1
            replace N0 := Fr.snoc X48 N0 g_b46
            refine own_st st48 ?_
            show own_Go p e below G (T48.setTop (mkF m 394 #[iv x0, iv x1, iv x2, iv x3, .val (.long x4), .second, iv x5, rv b1, iv fr, iv ro, iv rvx, rv b6, rv b11, .val (.long re), .second, .val (.long sh), .second, rv b30, rv b39, iv en, .unset, .unset, .unset, .unset] [(.ref b46), (.ref b45), (.ref b45), .null, (.int (0 : Int32)), (.ref rr)]))
            refine own_st (fun t k => XS.dup X48.here hx rfl (hb hby at_394) rfl rfl k) ?_
            refine own_st (fun t k => XS.iconst X48.here hx rfl (hb hby at_395) k) ?_
            refine own_st (fun t k => XS.iconst X48.here hx rfl (hb hby at_396) k) ?_
            show own_Go p e below G (T48.setTop (mkF m 397 #[iv x0, iv x1, iv x2, iv x3, .val (.long x4), .second, iv x5, rv b1, iv fr, iv ro, iv rvx, rv b6, rv b11, .val (.long re), .second, .val (.long sh), .second, rv b30, rv b39, iv en, .unset, .unset, .unset, .unset] [(.int (2 : Int32)), (.int (2 : Int32)), (.ref b46), (.ref b46), (.ref b45), (.ref b45), .null, (.int (0 : Int32)), (.ref rr)]))
            obtain ⟨cl49, Ar49, qa49, Sa49, Na49, Ha49, Ga49⟩ := V_b46
            have hin49 : ¬ ((2 : Int32) < 0 ∨ cl49.slots.size ≤ ((2 : Int32)).toNatClampNeg) := inb_of Sa49 ⟨by decide, by decide⟩
            obtain ⟨T49, h49, X49, e49, W49, st49⟩ := stI X48 hx hZ e48 Ar49 (j := (2 : Int32)) hin49 (g := (mkF m 397 #[iv x0, iv x1, iv x2, iv x3, .val (.long x4), .second, iv x5, rv b1, iv fr, iv ro, iv rvx, rv b6, rv b11, .val (.long re), .second, .val (.long sh), .second, rv b30, rv b39, iv en, .unset, .unset, .unset, .unset] [(.int (2 : Int32)), (.int (2 : Int32)), (.ref b46), (.ref b46), (.ref b45), (.ref b45), .null, (.int (0 : Int32)), (.ref rr)])) rfl rfl (hb hby at_397)
            have V_b46 : Arv Z h49 b46 k46 .int (4 : Int32) [(.int (0 : Int32)), (.int (1 : Int32)), (.int (2 : Int32)), (.int (0 : Int32))] (.int (0 : Int32)) := Arv.set Ar49 qa49 Sa49 Na49 Ha49 Ga49 rfl W49 2 rfl (Nat.le_of_ble_eq_true rfl)
            replace V_b1 := V_b1.other W49 ne_b1_b46
            replace V_b6 := V_b6.other W49 ne_b6_b46
            replace V_b11 := V_b11.other W49 ne_b11_b46
            replace V_b30 := V_b30.other W49 ne_b30_b46
            replace Ecut := Ecut.wr W49
            replace Fpo := Fpo.other W49 (Or.inl ne_b39_b46)
            replace Fgo := Fgo.other W49 (Or.inl ne_b39_b46)
            replace V_gz := V_gz.other W49 ne_gz_b46
            replace Err := Err.wr W49
            replace Fth := Fth.other W49 (Or.inl ne_rr_b46)
            replace E_b45 := E_b45.wr W49
            replace F_documents_b45 := F_documents_b45.other W49 (Or.inl ne_b45_b46)
            replace F_frequencies_b45 := F_frequencies_b45.other W49 (Or.inl ne_b45_b46)
            replace Z0 := Nat.le_trans Z0 (Keep.of_wr W49).1
            replace N0 := Fr.snoc X49 N0 g_b46
            refine own_st st49 ?_
            show own_Go p e below G (T49.setTop (mkF m 398 #[iv x0, iv x1, iv x2, iv x3, .val (.long x4), .second, iv x5, rv b1, iv fr, iv ro, iv rvx, rv b6, rv b11, .val (.long re), .second, .val (.long sh), .second, rv b30, rv b39, iv en, .unset, .unset, .unset, .unset] [(.ref b46), (.ref b45), (.ref b45), .null, (.int (0 : Int32)), (.ref rr)]))
            refine own_st (fun t k => XS.dup X49.here hx rfl (hb hby at_398) rfl rfl k) ?_
            refine own_st (fun t k => XS.iconst X49.here hx rfl (hb hby at_399) k) ?_
            refine own_st (fun t k => XS.iconst X49.here hx rfl (hb hby at_400) k) ?_
            show own_Go p e below G (T49.setTop (mkF m 401 #[iv x0, iv x1, iv x2, iv x3, .val (.long x4), .second, iv x5, rv b1, iv fr, iv ro, iv rvx, rv b6, rv b11, .val (.long re), .second, .val (.long sh), .second, rv b30, rv b39, iv en, .unset, .unset, .unset, .unset] [(.int (3 : Int32)), (.int (3 : Int32)), (.ref b46), (.ref b46), (.ref b45), (.ref b45), .null, (.int (0 : Int32)), (.ref rr)]))
            obtain ⟨cl50, Ar50, qa50, Sa50, Na50, Ha50, Ga50⟩ := V_b46
            have hin50 : ¬ ((3 : Int32) < 0 ∨ cl50.slots.size ≤ ((3 : Int32)).toNatClampNeg) := inb_of Sa50 ⟨by decide, by decide⟩
            obtain ⟨T50, h50, X50, e50, W50, st50⟩ := stI X49 hx hZ e49 Ar50 (j := (3 : Int32)) hin50 (g := (mkF m 401 #[iv x0, iv x1, iv x2, iv x3, .val (.long x4), .second, iv x5, rv b1, iv fr, iv ro, iv rvx, rv b6, rv b11, .val (.long re), .second, .val (.long sh), .second, rv b30, rv b39, iv en, .unset, .unset, .unset, .unset] [(.int (3 : Int32)), (.int (3 : Int32)), (.ref b46), (.ref b46), (.ref b45), (.ref b45), .null, (.int (0 : Int32)), (.ref rr)])) rfl rfl (hb hby at_401)
            have V_b46 : Arv Z h50 b46 k46 .int (4 : Int32) [(.int (0 : Int32)), (.int (1 : Int32)), (.int (2 : Int32)), (.int (3 : Int32))] (.int (0 : Int32)) := Arv.set Ar50 qa50 Sa50 Na50 Ha50 Ga50 rfl W50 3 rfl (Nat.le_of_ble_eq_true rfl)
            replace V_b1 := V_b1.other W50 ne_b1_b46
            replace V_b6 := V_b6.other W50 ne_b6_b46
            replace V_b11 := V_b11.other W50 ne_b11_b46
            replace V_b30 := V_b30.other W50 ne_b30_b46
            replace Ecut := Ecut.wr W50
            replace Fpo := Fpo.other W50 (Or.inl ne_b39_b46)
            replace Fgo := Fgo.other W50 (Or.inl ne_b39_b46)
            replace V_gz := V_gz.other W50 ne_gz_b46
            replace Err := Err.wr W50
            replace Fth := Fth.other W50 (Or.inl ne_rr_b46)
            replace E_b45 := E_b45.wr W50
            replace F_documents_b45 := F_documents_b45.other W50 (Or.inl ne_b45_b46)
            replace F_frequencies_b45 := F_frequencies_b45.other W50 (Or.inl ne_b45_b46)
            replace Z0 := Nat.le_trans Z0 (Keep.of_wr W50).1
            replace N0 := Fr.snoc X50 N0 g_b46
            refine own_st st50 ?_
            show own_Go p e below G (T50.setTop (mkF m 402 #[iv x0, iv x1, iv x2, iv x3, .val (.long x4), .second, iv x5, rv b1, iv fr, iv ro, iv rvx, rv b6, rv b11, .val (.long re), .second, .val (.long sh), .second, rv b30, rv b39, iv en, .unset, .unset, .unset, .unset] [(.ref b46), (.ref b45), (.ref b45), .null, (.int (0 : Int32)), (.ref rr)]))
            refine own_st (fun t k => XS.iconst X50.here hx rfl (hb hby at_402) k) ?_
            show own_Go p e below G (T50.setTop (mkF m 403 #[iv x0, iv x1, iv x2, iv x3, .val (.long x4), .second, iv x5, rv b1, iv fr, iv ro, iv rvx, rv b6, rv b11, .val (.long re), .second, .val (.long sh), .second, rv b30, rv b39, iv en, .unset, .unset, .unset, .unset] [(.int (4 : Int32)), (.ref b46), (.ref b45), (.ref b45), .null, (.int (0 : Int32)), (.ref rr)]))
            obtain ⟨T51, h51, k51, X51, e51, E51, A51, st51⟩ := newP X50 hx hZ (hw _ (List.mem_of_getElem? (i := 0) rfl)) e50 (g := (mkF m 403 #[iv x0, iv x1, iv x2, iv x3, .val (.long x4), .second, iv x5, rv b1, iv fr, iv ro, iv rvx, rv b6, rv b11, .val (.long re), .second, .val (.long sh), .second, rv b30, rv b39, iv en, .unset, .unset, .unset, .unset] [(.int (4 : Int32)), (.ref b46), (.ref b45), (.ref b45), .null, (.int (0 : Int32)), (.ref rr)])) rfl (hb hby at_403) rfl (by decide) (cap := 4) (by decide) (by decide) (by decide) (by decide)
            obtain ⟨b51, gb51⟩ : ∃ z, z = h50.size := ⟨_, rfl⟩
            rw [← gb51] at A51 st51
            have g_b51 : n0 ≤ b51 := Nat.le_trans Z0 (Nat.le_of_eq gb51.symm)
            have ne_b1_b51 : b1 ≠ b51 := Nat.ne_of_lt (Nat.lt_of_lt_of_le V_b1.lt (Nat.le_of_eq gb51.symm))
            have ne_b6_b51 : b6 ≠ b51 := Nat.ne_of_lt (Nat.lt_of_lt_of_le V_b6.lt (Nat.le_of_eq gb51.symm))
            have ne_b11_b51 : b11 ≠ b51 := Nat.ne_of_lt (Nat.lt_of_lt_of_le V_b11.lt (Nat.le_of_eq gb51.symm))
            have ne_b30_b51 : b30 ≠ b51 := Nat.ne_of_lt (Nat.lt_of_lt_of_le V_b30.lt (Nat.le_of_eq gb51.symm))
            have ne_b39_b51 : b39 ≠ b51 := Nat.ne_of_lt (Nat.lt_of_lt_of_le Ecut.lt (Nat.le_of_eq gb51.symm))
            have ne_gz_b51 : gz ≠ b51 := Nat.ne_of_lt (Nat.lt_of_lt_of_le V_gz.lt (Nat.le_of_eq gb51.symm))
            have ne_rr_b51 : rr ≠ b51 := Nat.ne_of_lt (Nat.lt_of_lt_of_le Err.lt (Nat.le_of_eq gb51.symm))
            have ne_b45_b51 : b45 ≠ b51 := Nat.ne_of_lt (Nat.lt_of_lt_of_le E_b45.lt (Nat.le_of_eq gb51.symm))
            have ne_b46_b51 : b46 ≠ b51 := Nat.ne_of_lt (Nat.lt_of_lt_of_le V_b46.lt (Nat.le_of_eq gb51.symm))
            replace Z0 := Nat.le_trans Z0 E51.1
            replace V_b1 := V_b1.ext E51
            replace V_b6 := V_b6.ext E51
            replace V_b11 := V_b11.ext E51
            replace V_b30 := V_b30.ext E51
            replace Ecut := Ecut.ext E51
            replace Fpo := Fpo.ext E51
            replace Fgo := Fgo.ext E51
            replace V_gz := V_gz.ext E51
            replace Err := Err.ext E51
            replace Fth := Fth.ext E51
            replace E_b45 := E_b45.ext E51
            replace F_documents_b45 := F_documents_b45.ext E51
            replace F_frequencies_b45 := F_frequencies_b45.ext E51
            replace V_b46 := V_b46.ext E51
            have V_b51 : Arv Z h51 b51 k51 .int (4 : Int32) [(.int (0 : Int32)), (.int (0 : Int32)), (.int (0 : Int32)), (.int (0 : Int32))] (.int (0 : Int32)) := (Arv.new A51 (by decide)).pad (pad_rep [] (.int (0 : Int32)) 4)
            refine own_st st51 ?_
            show own_Go p e below G (T51.setTop (mkF m 405 #[iv x0, iv x1, iv x2, iv x3, .val (.long x4), .second, iv x5, rv b1, iv fr, iv ro, iv rvx, rv b6, rv b11, .val (.long re), .second, .val (.long sh), .second, rv b30, rv b39, iv en, .unset, .unset, .unset, .unset] [(.ref b51), (.ref b46), (.ref b45), (.ref b45), .null, (.int (0 : Int32)), (.ref rr)]))
            refine own_st (fun t k => XS.dup X51.here hx rfl (hb hby at_405) rfl rfl k) ?_
            refine own_st (fun t k => XS.iconst X51.here hx rfl (hb hby at_406) k) ?_
            refine own_st (fun t k => XS.iconst X51.here hx rfl (hb hby at_407) k) ?_
            show own_Go p e below G (T51.setTop (mkF m 408 #[iv x0, iv x1, iv x2, iv x3, .val (.long x4), .second, iv x5, rv b1, iv fr, iv ro, iv rvx, rv b6, rv b11, .val (.long re), .second, .val (.long sh), .second, rv b30, rv b39, iv en, .unset, .unset, .unset, .unset] [(.int (1 : Int32)), (.int (0 : Int32)), (.ref b51), (.ref b51), (.ref b46), (.ref b45), (.ref b45), .null, (.int (0 : Int32)), (.ref rr)]))
            obtain ⟨cl52, Ar52, qa52, Sa52, Na52, Ha52, Ga52⟩ := V_b51
            have hin52 : ¬ ((0 : Int32) < 0 ∨ cl52.slots.size ≤ ((0 : Int32)).toNatClampNeg) := inb_of Sa52 ⟨by decide, by decide⟩
            obtain ⟨T52, h52, X52, e52, W52, st52⟩ := stI X51 hx hZ e51 Ar52 (j := (0 : Int32)) hin52 (g := (mkF m 408 #[iv x0, iv x1, iv x2, iv x3, .val (.long x4), .second, iv x5, rv b1, iv fr, iv ro, iv rvx, rv b6, rv b11, .val (.long re), .second, .val (.long sh), .second, rv b30, rv b39, iv en, .unset, .unset, .unset, .unset] [(.int (1 : Int32)), (.int (0 : Int32)), (.ref b51), (.ref b51), (.ref b46), (.ref b45), (.ref b45), .null, (.int (0 : Int32)), (.ref rr)])) rfl rfl (hb hby at_408)
            have V_b51 : Arv Z h52 b51 k51 .int (4 : Int32) [(.int (1 : Int32)), (.int (0 : Int32)), (.int (0 : Int32)), (.int (0 : Int32))] (.int (0 : Int32)) := Arv.set Ar52 qa52 Sa52 Na52 Ha52 Ga52 rfl W52 0 rfl (Nat.le_of_ble_eq_true rfl)
            replace V_b1 := V_b1.other W52 ne_b1_b51
            replace V_b6 := V_b6.other W52 ne_b6_b51
            replace V_b11 := V_b11.other W52 ne_b11_b51
            replace V_b30 := V_b30.other W52 ne_b30_b51
            replace Ecut := Ecut.wr W52
            replace Fpo := Fpo.other W52 (Or.inl ne_b39_b51)
            replace Fgo := Fgo.other W52 (Or.inl ne_b39_b51)
            replace V_gz := V_gz.other W52 ne_gz_b51
            replace Err := Err.wr W52
            replace Fth := Fth.other W52 (Or.inl ne_rr_b51)
            replace E_b45 := E_b45.wr W52
            replace F_documents_b45 := F_documents_b45.other W52 (Or.inl ne_b45_b51)
            replace F_frequencies_b45 := F_frequencies_b45.other W52 (Or.inl ne_b45_b51)
            replace V_b46 := V_b46.other W52 ne_b46_b51
            replace Z0 := Nat.le_trans Z0 (Keep.of_wr W52).1
            replace N0 := Fr.snoc X52 N0 g_b51
            refine own_st st52 ?_
            show own_Go p e below G (T52.setTop (mkF m 409 #[iv x0, iv x1, iv x2, iv x3, .val (.long x4), .second, iv x5, rv b1, iv fr, iv ro, iv rvx, rv b6, rv b11, .val (.long re), .second, .val (.long sh), .second, rv b30, rv b39, iv en, .unset, .unset, .unset, .unset] [(.ref b51), (.ref b46), (.ref b45), (.ref b45), .null, (.int (0 : Int32)), (.ref rr)]))
            refine own_st (fun t k => XS.dup X52.here hx rfl (hb hby at_409) rfl rfl k) ?_
            refine own_st (fun t k => XS.iconst X52.here hx rfl (hb hby at_410) k) ?_
            refine own_st (fun t k => XS.iconst X52.here hx rfl (hb hby at_411) k) ?_
            show own_Go p e below G (T52.setTop (mkF m 412 #[iv x0, iv x1, iv x2, iv x3, .val (.long x4), .second, iv x5, rv b1, iv fr, iv ro, iv rvx, rv b6, rv b11, .val (.long re), .second, .val (.long sh), .second, rv b30, rv b39, iv en, .unset, .unset, .unset, .unset] [(.int (1 : Int32)), (.int (1 : Int32)), (.ref b51), (.ref b51), (.ref b46), (.ref b45), (.ref b45), .null, (.int (0 : Int32)), (.ref rr)]))
            obtain ⟨cl53, Ar53, qa53, Sa53, Na53, Ha53, Ga53⟩ := V_b51
            have hin53 : ¬ ((1 : Int32) < 0 ∨ cl53.slots.size ≤ ((1 : Int32)).toNatClampNeg) := inb_of Sa53 ⟨by decide, by decide⟩
            obtain ⟨T53, h53, X53, e53, W53, st53⟩ := stI X52 hx hZ e52 Ar53 (j := (1 : Int32)) hin53 (g := (mkF m 412 #[iv x0, iv x1, iv x2, iv x3, .val (.long x4), .second, iv x5, rv b1, iv fr, iv ro, iv rvx, rv b6, rv b11, .val (.long re), .second, .val (.long sh), .second, rv b30, rv b39, iv en, .unset, .unset, .unset, .unset] [(.int (1 : Int32)), (.int (1 : Int32)), (.ref b51), (.ref b51), (.ref b46), (.ref b45), (.ref b45), .null, (.int (0 : Int32)), (.ref rr)])) rfl rfl (hb hby at_412)
            have V_b51 : Arv Z h53 b51 k51 .int (4 : Int32) [(.int (1 : Int32)), (.int (1 : Int32)), (.int (0 : Int32)), (.int (0 : Int32))] (.int (0 : Int32)) := Arv.set Ar53 qa53 Sa53 Na53 Ha53 Ga53 rfl W53 1 rfl (Nat.le_of_ble_eq_true rfl)
            replace V_b1 := V_b1.other W53 ne_b1_b51
            replace V_b6 := V_b6.other W53 ne_b6_b51
            replace V_b11 := V_b11.other W53 ne_b11_b51
            replace V_b30 := V_b30.other W53 ne_b30_b51
            replace Ecut := Ecut.wr W53
            replace Fpo := Fpo.other W53 (Or.inl ne_b39_b51)
            replace Fgo := Fgo.other W53 (Or.inl ne_b39_b51)
            replace V_gz := V_gz.other W53 ne_gz_b51
            replace Err := Err.wr W53
            replace Fth := Fth.other W53 (Or.inl ne_rr_b51)
            replace E_b45 := E_b45.wr W53
            replace F_documents_b45 := F_documents_b45.other W53 (Or.inl ne_b45_b51)
            replace F_frequencies_b45 := F_frequencies_b45.other W53 (Or.inl ne_b45_b51)
            replace V_b46 := V_b46.other W53 ne_b46_b51
            replace Z0 := Nat.le_trans Z0 (Keep.of_wr W53).1
            replace N0 := Fr.snoc X53 N0 g_b51
            refine own_st st53 ?_
            show own_Go p e below G (T53.setTop (mkF m 413 #[iv x0, iv x1, iv x2, iv x3, .val (.long x4), .second, iv x5, rv b1, iv fr, iv ro, iv rvx, rv b6, rv b11, .val (.long re), .second, .val (.long sh), .second, rv b30, rv b39, iv en, .unset, .unset, .unset, .unset] [(.ref b51), (.ref b46), (.ref b45), (.ref b45), .null, (.int (0 : Int32)), (.ref rr)]))
            refine own_st (fun t k => XS.dup X53.here hx rfl (hb hby at_413) rfl rfl k) ?_
            refine own_st (fun t k => XS.iconst X53.here hx rfl (hb hby at_414) k) ?_
            refine own_st (fun t k => XS.iconst X53.here hx rfl (hb hby at_415) k) ?_
            show own_Go p e below G (T53.setTop (mkF m 416 #[iv x0, iv x1, iv x2, iv x3, .val (.long x4), .second, iv x5, rv b1, iv fr, iv ro, iv rvx, rv b6, rv b11, .val (.long re), .second, .val (.long sh), .second, rv b30, rv b39, iv en, .unset, .unset, .unset, .unset] [(.int (1 : Int32)), (.int (2 : Int32)), (.ref b51), (.ref b51), (.ref b46), (.ref b45), (.ref b45), .null, (.int (0 : Int32)), (.ref rr)]))
            obtain ⟨cl54, Ar54, qa54, Sa54, Na54, Ha54, Ga54⟩ := V_b51
            have hin54 : ¬ ((2 : Int32) < 0 ∨ cl54.slots.size ≤ ((2 : Int32)).toNatClampNeg) := inb_of Sa54 ⟨by decide, by decide⟩
            obtain ⟨T54, h54, X54, e54, W54, st54⟩ := stI X53 hx hZ e53 Ar54 (j := (2 : Int32)) hin54 (g := (mkF m 416 #[iv x0, iv x1, iv x2, iv x3, .val (.long x4), .second, iv x5, rv b1, iv fr, iv ro, iv rvx, rv b6, rv b11, .val (.long re), .second, .val (.long sh), .second, rv b30, rv b39, iv en, .unset, .unset, .unset, .unset] [(.int (1 : Int32)), (.int (2 : Int32)), (.ref b51), (.ref b51), (.ref b46), (.ref b45), (.ref b45), .null, (.int (0 : Int32)), (.ref rr)])) rfl rfl (hb hby at_416)
            have V_b51 : Arv Z h54 b51 k51 .int (4 : Int32) [(.int (1 : Int32)), (.int (1 : Int32)), (.int (1 : Int32)), (.int (0 : Int32))] (.int (0 : Int32)) := Arv.set Ar54 qa54 Sa54 Na54 Ha54 Ga54 rfl W54 2 rfl (Nat.le_of_ble_eq_true rfl)
            replace V_b1 := V_b1.other W54 ne_b1_b51
            replace V_b6 := V_b6.other W54 ne_b6_b51
            replace V_b11 := V_b11.other W54 ne_b11_b51
            replace V_b30 := V_b30.other W54 ne_b30_b51
            replace Ecut := Ecut.wr W54
            replace Fpo := Fpo.other W54 (Or.inl ne_b39_b51)
            replace Fgo := Fgo.other W54 (Or.inl ne_b39_b51)
            replace V_gz := V_gz.other W54 ne_gz_b51
            replace Err := Err.wr W54
            replace Fth := Fth.other W54 (Or.inl ne_rr_b51)
            replace E_b45 := E_b45.wr W54
            replace F_documents_b45 := F_documents_b45.other W54 (Or.inl ne_b45_b51)
            replace F_frequencies_b45 := F_frequencies_b45.other W54 (Or.inl ne_b45_b51)
            replace V_b46 := V_b46.other W54 ne_b46_b51
            replace Z0 := Nat.le_trans Z0 (Keep.of_wr W54).1
            replace N0 := Fr.snoc X54 N0 g_b51
            refine own_st st54 ?_
            show own_Go p e below G (T54.setTop (mkF m 417 #[iv x0, iv x1, iv x2, iv x3, .val (.long x4), .second, iv x5, rv b1, iv fr, iv ro, iv rvx, rv b6, rv b11, .val (.long re), .second, .val (.long sh), .second, rv b30, rv b39, iv en, .unset, .unset, .unset, .unset] [(.ref b51), (.ref b46), (.ref b45), (.ref b45), .null, (.int (0 : Int32)), (.ref rr)]))
            refine own_st (fun t k => XS.dup X54.here hx rfl (hb hby at_417) rfl rfl k) ?_
            refine own_st (fun t k => XS.iconst X54.here hx rfl (hb hby at_418) k) ?_
            refine own_st (fun t k => XS.iconst X54.here hx rfl (hb hby at_419) k) ?_
            show own_Go p e below G (T54.setTop (mkF m 420 #[iv x0, iv x1, iv x2, iv x3, .val (.long x4), .second, iv x5, rv b1, iv fr, iv ro, iv rvx, rv b6, rv b11, .val (.long re), .second, .val (.long sh), .second, rv b30, rv b39, iv en, .unset, .unset, .unset, .unset] [(.int (1 : Int32)), (.int (3 : Int32)), (.ref b51), (.ref b51), (.ref b46), (.ref b45), (.ref b45), .null, (.int (0 : Int32)), (.ref rr)]))
            obtain ⟨cl55, Ar55, qa55, Sa55, Na55, Ha55, Ga55⟩ := V_b51
            have hin55 : ¬ ((3 : Int32) < 0 ∨ cl55.slots.size ≤ ((3 : Int32)).toNatClampNeg) := inb_of Sa55 ⟨by decide, by decide⟩
            obtain ⟨T55, h55, X55, e55, W55, st55⟩ := stI X54 hx hZ e54 Ar55 (j := (3 : Int32)) hin55 (g := (mkF m 420 #[iv x0, iv x1, iv x2, iv x3, .val (.long x4), .second, iv x5, rv b1, iv fr, iv ro, iv rvx, rv b6, rv b11, .val (.long re), .second, .val (.long sh), .second, rv b30, rv b39, iv en, .unset, .unset, .unset, .unset] [(.int (1 : Int32)), (.int (3 : Int32)), (.ref b51), (.ref b51), (.ref b46), (.ref b45), (.ref b45), .null, (.int (0 : Int32)), (.ref rr)])) rfl rfl (hb hby at_420)
            have V_b51 : Arv Z h55 b51 k51 .int (4 : Int32) [(.int (1 : Int32)), (.int (1 : Int32)), (.int (1 : Int32)), (.int (1 : Int32))] (.int (0 : Int32)) := Arv.set Ar55 qa55 Sa55 Na55 Ha55 Ga55 rfl W55 3 rfl (Nat.le_of_ble_eq_true rfl)
            replace V_b1 := V_b1.other W55 ne_b1_b51
            replace V_b6 := V_b6.other W55 ne_b6_b51
            replace V_b11 := V_b11.other W55 ne_b11_b51
            replace V_b30 := V_b30.other W55 ne_b30_b51
            replace Ecut := Ecut.wr W55
            replace Fpo := Fpo.other W55 (Or.inl ne_b39_b51)
            replace Fgo := Fgo.other W55 (Or.inl ne_b39_b51)
            replace V_gz := V_gz.other W55 ne_gz_b51
            replace Err := Err.wr W55
            replace Fth := Fth.other W55 (Or.inl ne_rr_b51)
            replace E_b45 := E_b45.wr W55
            replace F_documents_b45 := F_documents_b45.other W55 (Or.inl ne_b45_b51)
            replace F_frequencies_b45 := F_frequencies_b45.other W55 (Or.inl ne_b45_b51)
            replace V_b46 := V_b46.other W55 ne_b46_b51
            replace Z0 := Nat.le_trans Z0 (Keep.of_wr W55).1
            replace N0 := Fr.snoc X55 N0 g_b51
            refine own_st st55 ?_
            show own_Go p e below G (T55.setTop (mkF m 421 #[iv x0, iv x1, iv x2, iv x3, .val (.long x4), .second, iv x5, rv b1, iv fr, iv ro, iv rvx, rv b6, rv b11, .val (.long re), .second, .val (.long sh), .second, rv b30, rv b39, iv en, .unset, .unset, .unset, .unset] [(.ref b51), (.ref b46), (.ref b45), (.ref b45), .null, (.int (0 : Int32)), (.ref rr)]))
            obtain ⟨v56, T56, L56, X56, Q56, st56⟩ := own_callC X55 hx hZ (y := (⟨"com/example/thinleaf/thinleaf/core/index/Postings", "<init>", "([I[I)V"⟩ : MethodName)) rfl hown (hw _ (List.mem_of_getElem? (i := 42) rfl)) (hw _ (List.mem_of_getElem? (i := 43) rfl)) (hw _ (List.mem_of_getElem? (i := 41) rfl)) (hw _ (List.mem_of_getElem? (i := 44) rfl)) (by decide) (W := 4) (rm4 l Z a0 hw b45 b46 b51 h55 n0 Z0 g_b45 E_b45 F_documents_b45 F_frequencies_b45) (by decide) (by decide) e55 (g := (mkF m 421 #[iv x0, iv x1, iv x2, iv x3, .val (.long x4), .second, iv x5, rv b1, iv fr, iv ro, iv rvx, rv b6, rv b11, .val (.long re), .second, .val (.long sh), .second, rv b30, rv b39, iv en, .unset, .unset, .unset, .unset] [(.ref b51), (.ref b46), (.ref b45), (.ref b45), .null, (.int (0 : Int32)), (.ref rr)])) rfl (by rw [hml]; rfl) (a := b45) (argsL := [(.ref b46), (.ref b51)]) (rest := [(.ref b45), .null, (.int (0 : Int32)), (.ref rr)]) own_pd3 rfl rfl (by show 2 * 0 + _ ≤ _; exact Nat.le_of_eq rfl) (hb hby at_421) rfl (by decide) (by decide)
            obtain ⟨rfl, Nq56, Kq56, Epo, Fd, Ff⟩ := Q56
            replace N0 := Fr.app N0 Nq56
            simp only [Nat.add_zero] at X56
            replace V_b1 := V_b1.keep Kq56 (ninS ne_b1_b45 nin0)
            replace V_b6 := V_b6.keep Kq56 (ninS ne_b6_b45 nin0)
            replace V_b11 := V_b11.keep Kq56 (ninS ne_b11_b45 nin0)
            replace V_b30 := V_b30.keep Kq56 (ninS ne_b30_b45 nin0)
            replace Ecut := Ecut.keep Kq56
            replace Fpo := Fpo.keep Kq56 (ninS ne_b39_b45 nin0)
            replace Fgo := Fgo.keep Kq56 (ninS ne_b39_b45 nin0)
            replace V_gz := V_gz.keep Kq56 (ninS ne_gz_b45 nin0)
            replace Err := Err.keep Kq56
            replace Fth := Fth.keep Kq56 (ninS ne_rr_b45 nin0)
            replace V_b46 := V_b46.keep Kq56 (ninS (Ne.symm ne_b45_b46) nin0)
            replace V_b51 := V_b51.keep Kq56 (ninS (Ne.symm ne_b45_b51) nin0)
            replace Z0 := Nat.le_trans Z0 Kq56.1
            refine own_st st56 ?_
            show own_Go p e below G (T56.setTop (mkF m 424 #[iv x0, iv x1, iv x2, iv x3, .val (.long x4), .second, iv x5, rv b1, iv fr, iv ro, iv rvx, rv b6, rv b11, .val (.long re), .second, .val (.long sh), .second, rv b30, rv b39, iv en, .unset, .unset, .unset, .unset] [(.ref b45), .null, (.int (0 : Int32)), (.ref rr)]))
            obtain ⟨v57, T57, L57, X57, Q57, st57⟩ := own_callIH X56 hx hZ hY (xi := (⟨"com/example/thinleaf/thinleaf/prune/Selection", "keep", "(ILcom/example/thinleaf/thinleaf/core/index/LexiconEntry;Lcom/example/thinleaf/thinleaf/core/index/Postings;)Lcom/example/thinleaf/thinleaf/core/index/Postings;"⟩ : MethodName)) (y := (⟨"com/example/thinleaf/thinleaf/prune/DocumentCut$1", "keep", "(ILcom/example/thinleaf/thinleaf/core/index/LexiconEntry;Lcom/example/thinleaf/thinleaf/core/index/Postings;)Lcom/example/thinleaf/thinleaf/core/index/Postings;"⟩ : MethodName)) hown (hw _ (List.mem_of_getElem? (i := 55) rfl)) (hw _ (List.mem_of_getElem? (i := 56) rfl)) (mvT hZ (hw _ (List.mem_of_getElem? (i := 57) rfl))) (hw _ (List.mem_of_getElem? (i := 58) rfl)) (hw _ (List.mem_of_getElem? (i := 59) rfl)) (hw _ (List.mem_of_getElem? (i := 60) rfl)) (hw _ (List.mem_of_getElem? (i := 61) rfl)) (hw _ (List.mem_of_getElem? (i := 62) rfl)) (hw _ (List.mem_of_getElem? (i := 30) rfl)) (hw _ (List.mem_of_getElem? (i := 63) rfl)) (by decide) (W := 0) (rm11 l Z a0 hw rr (0 : Int32) b45 b46 b51 b39 gz k46 k51 kg c0 c1 c2 c3 T56.heap n0 Z0 Epo Fd Ff V_b46 V_b51 Err Fth Fgo V_gz) (by decide) (by decide) rfl Err (g := (mkF m 424 #[iv x0, iv x1, iv x2, iv x3, .val (.long x4), .second, iv x5, rv b1, iv fr, iv ro, iv rvx, rv b6, rv b11, .val (.long re), .second, .val (.long sh), .second, rv b30, rv b39, iv en, .unset, .unset, .unset, .unset] [(.ref b45), .null, (.int (0 : Int32)), (.ref rr)])) rfl (by rw [hml]; rfl) (argsL := [(.int (0 : Int32)), .null, (.ref b45)]) (rest := []) own_pd11 rfl rfl (by show 2 * 0 + _ ≤ _; exact Nat.le_of_eq rfl) (hb hby at_424) rfl (by decide) (by decide)
            obtain ⟨kb, nd, kn, nn, z0, z1, z2, z3, rfl, Nq57, Kq57, geb, gend, Ekb, Fkb, Vnd, hst⟩ := Q57
            replace N0 := Fr.app N0 Nq57
            replace V_b30 := V_b30.keep Kq57 nin0
            replace Z0 := Nat.le_trans Z0 Kq57.1
            refine own_st st57 ?_
            show own_Go p e below G (T57.setTop (mkF m 429 #[iv x0, iv x1, iv x2, iv x3, .val (.long x4), .second, iv x5, rv b1, iv fr, iv ro, iv rvx, rv b6, rv b11, .val (.long re), .second, .val (.long sh), .second, rv b30, rv b39, iv en, .unset, .unset, .unset, .unset] [(.ref kb)]))
            refine own_st (fun t k => XS.astore X57.here hx rfl (hb hby at_429) rfl rfl (l' := #[iv x0, iv x1, iv x2, iv x3, .val (.long x4), .second, iv x5, rv b1, iv fr, iv ro, iv rvx, rv b6, rv b11, .val (.long re), .second, .val (.long sh), .second, rv b30, rv b39, iv en, rv kb, .unset, .unset, .unset]) rfl k) ?_
            refine own_st (fun t k => XS.iconst X57.here hx rfl (hb hby at_431) k) ?_
            show own_Go p e below G (T57.setTop (mkF m 432 #[iv x0, iv x1, iv x2, iv x3, .val (.long x4), .second, iv x5, rv b1, iv fr, iv ro, iv rvx, rv b6, rv b11, .val (.long re), .second, .val (.long sh), .second, rv b30, rv b39, iv en, rv kb, .unset, .unset, .unset] [(.int (4 : Int32))]))
            obtain ⟨T58, h58, k58, X58, e58, E58, A58, st58⟩ := newP X57 hx hZ (hw _ (List.mem_of_getElem? (i := 0) rfl)) rfl (g := (mkF m 432 #[iv x0, iv x1, iv x2, iv x3, .val (.long x4), .second, iv x5, rv b1, iv fr, iv ro, iv rvx, rv b6, rv b11, .val (.long re), .second, .val (.long sh), .second, rv b30, rv b39, iv en, rv kb, .unset, .unset, .unset] [(.int (4 : Int32))])) rfl (hb hby at_432) rfl (by decide) (cap := 4) (by decide) (by decide) (by decide) (by decide)
            obtain ⟨b58, gb58⟩ : ∃ z, z = T57.heap.size := ⟨_, rfl⟩
            rw [← gb58] at A58 st58
            have g_b58 : n0 ≤ b58 := Nat.le_trans Z0 (Nat.le_of_eq gb58.symm)
            have ne_b30_b58 : b30 ≠ b58 := Nat.ne_of_lt (Nat.lt_of_lt_of_le V_b30.lt (Nat.le_of_eq gb58.symm))
            have ne_kb_b58 : kb ≠ b58 := Nat.ne_of_lt (Nat.lt_of_lt_of_le Ekb.lt (Nat.le_of_eq gb58.symm))
            have ne_nd_b58 : nd ≠ b58 := Nat.ne_of_lt (Nat.lt_of_lt_of_le Vnd.lt (Nat.le_of_eq gb58.symm))
            replace Z0 := Nat.le_trans Z0 E58.1
            replace V_b30 := V_b30.ext E58
            replace Ekb := Ekb.ext E58
            replace Fkb := Fkb.ext E58
            replace Vnd := Vnd.ext E58
            have V_b58 : Arv Z h58 b58 k58 .int (4 : Int32) [(.int (0 : Int32)), (.int (0 : Int32)), (.int (0 : Int32)), (.int (0 : Int32))] (.int (0 : Int32)) := (Arv.new A58 (by decide)).pad (pad_rep [] (.int (0 : Int32)) 4)
            refine own_st st58 ?_
            show own_Go p e below G (T58.setTop (mkF m 434 #[iv x0, iv x1, iv x2, iv x3, .val (.long x4), .second, iv x5, rv b1, iv fr, iv ro, iv rvx, rv b6, rv b11, .val (.long re), .second, .val (.long sh), .second, rv b30, rv b39, iv en, rv kb, .unset, .unset, .unset] [(.ref b58)]))
            refine own_st (fun t k => XS.astore X58.here hx rfl (hb hby at_434) rfl rfl (l' := #[iv x0, iv x1, iv x2, iv x3, .val (.long x4), .second, iv x5, rv b1, iv fr, iv ro, iv rvx, rv b6, rv b11, .val (.long re), .second, .val (.long sh), .second, rv b30, rv b39, iv en, rv kb, rv b58, .unset, .unset]) rfl k) ?_
            refine own_st (fun t k => XS.iconst X58.here hx rfl (hb hby at_436) k) ?_
            refine own_st (fun t k => XS.istore X58.here hx rfl (hb hby at_437) rfl (l' := #[iv x0, iv x1, iv x2, iv x3, .val (.long x4), .second, iv x5, rv b1, iv fr, iv ro, iv rvx, rv b6, rv b11, .val (.long re), .second, .val (.long sh), .second, rv b30, rv b39, iv en, rv kb, rv b58, iv 0, .unset]) rfl k) ?_
            show own_Go p e below G (T58.setTop (mkF m 439 #[iv x0, iv x1, iv x2, iv x3, .val (.long x4), .second, iv x5, rv b1, iv fr, iv ro, iv rvx, rv b6, rv b11, .val (.long re), .second, .val (.long sh), .second, rv b30, rv b39, iv en, rv kb, rv b58, iv 0, .unset] []))
            have J531 : ∀ (mm e0_ e1_ e2_ e3_ : Int32) (Tj : State) (hj : Heap) (Lj : List Loc), Stand p l e room_1 s m #[(.int x0), (.int x1), (.int x2), (.int x3), (.long x4), (.int x5)] below meth c Tj Lj 17 59 → Tj.heap = hj → Fr n0 Lj → n0 ≤ hj.size → Arv Z hj b30 k30 .int (4 : Int32) [(.int (own_iv o0 o1 o2 o3 (0 : Int32))), (.int (own_iv o0 o1 o2 o3 (1 : Int32))), (.int (own_iv o0 o1 o2 o3 (2 : Int32))), (.int (own_iv o0 o1 o2 o3 (3 : Int32)))] (.int (0 : Int32)) → Exa Z hj kb "com/example/thinleaf/thinleaf/core/index/Postings" → Fld Z hj kb "com/example/thinleaf/thinleaf/core/index/Postings" "documents" "[I" (.ref nd) → Arv Z hj nd kn .int nn [(.int z0), (.int z1), (.int z2), (.int z3)] (.int (0 : Int32)) → Arv Z hj b58 k58 .int (4 : Int32) [(.int e0_), (.int e1_), (.int e2_), (.int e3_)] (.int (0 : Int32)) → 0 ≤ mm.toInt → mm.toInt ≤ 4 → (mm, e0_, e1_, e2_, e3_) = (own_stp c3 3 (own_stp c2 2 (own_stp c1 1 (own_stp c0 0 ((0 : Int32), (0 : Int32), (0 : Int32), (0 : Int32), (0 : Int32)))))) → own_Go p e below G (Tj.setTop (mkF m 531 #[iv x0, iv x1, iv x2, iv x3, .val (.long x4), .second, iv x5, rv b1, iv fr, iv ro, iv rvx, rv b6, rv b11, .val (.long re), .second, .val (.long sh), .second, rv b30, rv b39, iv en, rv kb, rv b58, iv mm, .unset] [])) := by
              intro mm e0_ e1_ e2_ e3_ Tj hj Lj Xj ej N0 Z0 V_b30 Ekb Fkb Vnd V_b58 hn0 hni hsm
              obtain ⟨r0, r1, r2, r3, r4⟩ := own_inj (hst.trans hsm.symm)
              show own_Go p e below G (Tj.setTop (mkF m 531 #[iv x0, iv x1, iv x2, iv x3, .val (.long x4), .second, iv x5, rv b1, iv fr, iv ro, iv rvx, rv b6, rv b11, .val (.long re), .second, .val (.long sh), .second, rv b30, rv b39, iv en, rv kb, rv b58, iv mm, .unset] []))
              refine own_st (fun t k => XS.aload Xj.here hx rfl (hb hby at_531) rfl rfl  k) ?_
              show own_Go p e below G (Tj.setTop (mkF m 533 #[iv x0, iv x1, iv x2, iv x3, .val (.long x4), .second, iv x5, rv b1, iv fr, iv ro, iv rvx, rv b6, rv b11, .val (.long re), .second, .val (.long sh), .second, rv b30, rv b39, iv en, rv kb, rv b58, iv mm, .unset] [(.ref kb)]))
              obtain ⟨v59, T59, L59, X59, Q59, st59⟩ := own_callV Xj hx hZ (y := (⟨"com/example/thinleaf/thinleaf/core/index/Postings", "documents", "()[I"⟩ : MethodName)) (z := (⟨"com/example/thinleaf/thinleaf/core/index/Postings", "documents", "()[I"⟩ : MethodName)) hown (hw _ (List.mem_of_getElem? (i := 109) rfl)) (hw _ (List.mem_of_getElem? (i := 65) rfl)) (notFace_of_selects (args := #[]) (mvT hZ (hw _ (List.mem_of_getElem? (i := 67) rfl)))) (hw _ (List.mem_of_getElem? (i := 67) rfl)) (hw _ (List.mem_of_getElem? (i := 66) rfl)) (hw _ (List.mem_of_getElem? (i := 41) rfl)) (hw _ (List.mem_of_getElem? (i := 68) rfl)) (by decide) (W := 0) (rm5 l Z a0 hw kb nd hj Fkb) (by decide) (by decide) ej Ekb (g := (mkF m 533 #[iv x0, iv x1, iv x2, iv x3, .val (.long x4), .second, iv x5, rv b1, iv fr, iv ro, iv rvx, rv b6, rv b11, .val (.long re), .second, .val (.long sh), .second, rv b30, rv b39, iv en, rv kb, rv b58, iv mm, .unset] [(.ref kb)])) rfl (by rw [hml]; rfl) (argsL := []) (rest := []) own_pd6 rfl rfl (by show 2 * 0 + _ ≤ _; exact Nat.le_of_eq rfl) (hb hby at_533) rfl (by decide) (by decide)
              obtain ⟨rfl, rfl, e59⟩ := Q59
              simp only [List.append_nil, Nat.add_zero] at X59
              refine own_st st59 ?_
              show own_Go p e below G (T59.setTop (mkF m 536 #[iv x0, iv x1, iv x2, iv x3, .val (.long x4), .second, iv x5, rv b1, iv fr, iv ro, iv rvx, rv b6, rv b11, .val (.long re), .second, .val (.long sh), .second, rv b30, rv b39, iv en, rv kb, rv b58, iv mm, .unset] [(.ref nd)]))
              refine own_st (fun t k => XS.astore X59.here hx rfl (hb hby at_536) rfl rfl (l' := #[iv x0, iv x1, iv x2, iv x3, .val (.long x4), .second, iv x5, rv b1, iv fr, iv ro, iv rvx, rv b6, rv b11, .val (.long re), .second, .val (.long sh), .second, rv b30, rv b39, iv en, rv kb, rv b58, iv mm, rv nd]) rfl k) ?_
              refine own_st (fun t k => XS.aload X59.here hx rfl (hb hby at_538) rfl rfl  k) ?_
              show own_Go p e below G (T59.setTop (mkF m 540 #[iv x0, iv x1, iv x2, iv x3, .val (.long x4), .second, iv x5, rv b1, iv fr, iv ro, iv rvx, rv b6, rv b11, .val (.long re), .second, .val (.long sh), .second, rv b30, rv b39, iv en, rv kb, rv b58, iv mm, rv nd] [(.ref nd)]))
              have Vc60 := Vnd
              obtain ⟨cl60, Ar60, -, Sa60, Na60, -, -⟩ := Vc60
              refine own_st (fun t k => X59.arraylength hx (by rw [e59]; exact Ar60.1) (State.isArrayOf_alike hZ.alike Ar60.2.1) (g := (mkF m 540 #[iv x0, iv x1, iv x2, iv x3, .val (.long x4), .second, iv x5, rv b1, iv fr, iv ro, iv rvx, rv b6, rv b11, .val (.long re), .second, .val (.long sh), .second, rv b30, rv b39, iv en, rv kb, rv b58, iv mm, rv nd] [(.ref nd)])) rfl rfl (hb hby at_540) t k) ?_
              rw [len_of Sa60 Na60]
              show own_Go p e below G (T59.setTop (mkF m 541 #[iv x0, iv x1, iv x2, iv x3, .val (.long x4), .second, iv x5, rv b1, iv fr, iv ro, iv rvx, rv b6, rv b11, .val (.long re), .second, .val (.long sh), .second, rv b30, rv b39, iv en, rv kb, rv b58, iv mm, rv nd] [(.int nn)]))
              refine own_st (fun t k => XS.iload X59.here hx rfl (hb hby at_541) rfl  k) ?_
              show own_Go p e below G (T59.setTop (mkF m 543 #[iv x0, iv x1, iv x2, iv x3, .val (.long x4), .second, iv x5, rv b1, iv fr, iv ro, iv rvx, rv b6, rv b11, .val (.long re), .second, .val (.long sh), .second, rv b30, rv b39, iv en, rv kb, rv b58, iv mm, rv nd] [(.int mm), (.int nn)]))
              refine own_st (fun t k => XS.icmpYes X59.here hx rfl (pc0 := 543) (pc' := 548) rfl (hb hby at_543) rfl (teq r0).1 (by decide) (by decide) k) ?_
              show own_Go p e below G (T59.setTop (mkF m 548 #[iv x0, iv x1, iv x2, iv x3, .val (.long x4), .second, iv x5, rv b1, iv fr, iv ro, iv rvx, rv b6, rv b11, .val (.long re), .second, .val (.long sh), .second, rv b30, rv b39, iv en, rv kb, rv b58, iv mm, rv nd] []))
              refine own_st (fun t k => XS.iload X59.here hx rfl (hb hby at_548) rfl  k) ?_
              show own_Go p e below G (T59.setTop (mkF m 550 #[iv x0, iv x1, iv x2, iv x3, .val (.long x4), .second, iv x5, rv b1, iv fr, iv ro, iv rvx, rv b6, rv b11, .val (.long re), .second, .val (.long sh), .second, rv b30, rv b39, iv en, rv kb, rv b58, iv mm, rv nd] [(.int mm)]))
              have J566 : ∀ (u566 : True), own_Go p e below G (T59.setTop (mkF m 566 #[iv x0, iv x1, iv x2, iv x3, .val (.long x4), .second, iv x5, rv b1, iv fr, iv ro, iv rvx, rv b6, rv b11, .val (.long re), .second, .val (.long sh), .second, rv b30, rv b39, iv en, rv kb, rv b58, iv mm, rv nd] [])) := by
                intro u566
                refine own_st (fun t k => XS.iload X59.here hx rfl (hb hby at_566) rfl  k) ?_
                refine own_st (fun t k => XS.iconst X59.here hx rfl (hb hby at_568) k) ?_
                show own_Go p e below G (T59.setTop (mkF m 569 #[iv x0, iv x1, iv x2, iv x3, .val (.long x4), .second, iv x5, rv b1, iv fr, iv ro, iv rvx, rv b6, rv b11, .val (.long re), .second, .val (.long sh), .second, rv b30, rv b39, iv en, rv kb, rv b58, iv mm, rv nd] [(.int (1 : Int32)), (.int mm)]))
                have J585 : ∀ (u585 : True), own_Go p e below G (T59.setTop (mkF m 585 #[iv x0, iv x1, iv x2, iv x3, .val (.long x4), .second, iv x5, rv b1, iv fr, iv ro, iv rvx, rv b6, rv b11, .val (.long re), .second, .val (.long sh), .second, rv b30, rv b39, iv en, rv kb, rv b58, iv mm, rv nd] [])) := by
                  intro u585
                  refine own_st (fun t k => XS.iload X59.here hx rfl (hb hby at_585) rfl  k) ?_
                  refine own_st (fun t k => XS.iconst X59.here hx rfl (hb hby at_587) k) ?_
                  show own_Go p e below G (T59.setTop (mkF m 588 #[iv x0, iv x1, iv x2, iv x3, .val (.long x4), .second, iv x5, rv b1, iv fr, iv ro, iv rvx, rv b6, rv b11, .val (.long re), .second, .val (.long sh), .second, rv b30, rv b39, iv en, rv kb, rv b58, iv mm, rv nd] [(.int (2 : Int32)), (.int mm)]))
                  have J604 : ∀ (u604 : True), own_Go p e below G (T59.setTop (mkF m 604 #[iv x0, iv x1, iv x2, iv x3, .val (.long x4), .second, iv x5, rv b1, iv fr, iv ro, iv rvx, rv b6, rv b11, .val (.long re), .second, .val (.long sh), .second, rv b30, rv b39, iv en, rv kb, rv b58, iv mm, rv nd] [])) := by
                    intro u604
                    refine own_st (fun t k => XS.iload X59.here hx rfl (hb hby at_604) rfl  k) ?_
                    refine own_st (fun t k => XS.iconst X59.here hx rfl (hb hby at_606) k) ?_
                    show own_Go p e below G (T59.setTop (mkF m 607 #[iv x0, iv x1, iv x2, iv x3, .val (.long x4), .second, iv x5, rv b1, iv fr, iv ro, iv rvx, rv b6, rv b11, .val (.long re), .second, .val (.long sh), .second, rv b30, rv b39, iv en, rv kb, rv b58, iv mm, rv nd] [(.int (3 : Int32)), (.int mm)]))
                    have J623 : ∀ (u623 : True), own_Go p e below G (T59.setTop (mkF m 623 #[iv x0, iv x1, iv x2, iv x3, .val (.long x4), .second, iv x5, rv b1, iv fr, iv ro, iv rvx, rv b6, rv b11, .val (.long re), .second, .val (.long sh), .second, rv b30, rv b39, iv en, rv kb, rv b58, iv mm, rv nd] [])) := by
                      intro u623
                      refine own_st (fun t k => XS.iconst X59.here hx rfl (hb hby at_623) k) ?_
                      show own_Go p e below G (T59.setTop (mkF m 624 #[iv x0, iv x1, iv x2, iv x3, .val (.long x4), .second, iv x5, rv b1, iv fr, iv ro, iv rvx, rv b6, rv b11, .val (.long re), .second, .val (.long sh), .second, rv b30, rv b39, iv en, rv kb, rv b58, iv mm, rv nd] [(.int (1 : Int32))]))
                      rw [hG]
                      exact own_retZ X59 hx hlk (t := .boolean) hret (by simp) (hb hby at_624) ⟨rfl, N0⟩ (by decide) (by decide)
                    by_cases c607_61 : (3 : Int32) < mm
                    · skip
                      refine own_st (fun t k => XS.icmpNo X59.here hx rfl (hb hby at_607) rfl (tlt c607_61).2.2.2 k) ?_
                      show own_Go p e below G (T59.setTop (mkF m 610 #[iv x0, iv x1, iv x2, iv x3, .val (.long x4), .second, iv x5, rv b1, iv fr, iv ro, iv rvx, rv b6, rv b11, .val (.long re), .second, .val (.long sh), .second, rv b30, rv b39, iv en, rv kb, rv b58, iv mm, rv nd] []))
                      refine own_st (fun t k => XS.aload X59.here hx rfl (hb hby at_610) rfl rfl  k) ?_
                      refine own_st (fun t k => XS.iconst X59.here hx rfl (hb hby at_612) k) ?_
                      show own_Go p e below G (T59.setTop (mkF m 613 #[iv x0, iv x1, iv x2, iv x3, .val (.long x4), .second, iv x5, rv b1, iv fr, iv ro, iv rvx, rv b6, rv b11, .val (.long re), .second, .val (.long sh), .second, rv b30, rv b39, iv en, rv kb, rv b58, iv mm, rv nd] [(.int (3 : Int32)), (.ref nd)]))
                      have Vc62 := Vnd
                      obtain ⟨cl62, Ar62, -, Sa62, -, Ha62, -⟩ := Vc62
                      have hin62 : ¬ ((3 : Int32) < 0 ∨ cl62.slots.size ≤ ((3 : Int32)).toNatClampNeg) := inb_of Sa62 ⟨by decide, by rw [r0]; exact c607_61⟩
                      refine own_st (fun t k => X59.iaload hx (j := (3 : Int32)) (v := (.int z3)) (by rw [e59]; exact Ar62.1) (State.isArrayOf_alike hZ.alike Ar62.2.1) Ar62.2.2 hin62 (Ha62.at hin62 rfl) (g := (mkF m 613 #[iv x0, iv x1, iv x2, iv x3, .val (.long x4), .second, iv x5, rv b1, iv fr, iv ro, iv rvx, rv b6, rv b11, .val (.long re), .second, .val (.long sh), .second, rv b30, rv b39, iv en, rv kb, rv b58, iv mm, rv nd] [(.int (3 : Int32)), (.ref nd)])) rfl rfl (hb hby at_613) t k) ?_
                      show own_Go p e below G (T59.setTop (mkF m 614 #[iv x0, iv x1, iv x2, iv x3, .val (.long x4), .second, iv x5, rv b1, iv fr, iv ro, iv rvx, rv b6, rv b11, .val (.long re), .second, .val (.long sh), .second, rv b30, rv b39, iv en, rv kb, rv b58, iv mm, rv nd] [(.int z3)]))
                      refine own_st (fun t k => XS.aload X59.here hx rfl (hb hby at_614) rfl rfl  k) ?_
                      refine own_st (fun t k => XS.iconst X59.here hx rfl (hb hby at_616) k) ?_
                      show own_Go p e below G (T59.setTop (mkF m 617 #[iv x0, iv x1, iv x2, iv x3, .val (.long x4), .second, iv x5, rv b1, iv fr, iv ro, iv rvx, rv b6, rv b11, .val (.long re), .second, .val (.long sh), .second, rv b30, rv b39, iv en, rv kb, rv b58, iv mm, rv nd] [(.int (3 : Int32)), (.ref b58), (.int z3)]))
                      have Vc63 := V_b58
                      obtain ⟨cl63, Ar63, -, Sa63, -, Ha63, -⟩ := Vc63
                      have hin63 : ¬ ((3 : Int32) < 0 ∨ cl63.slots.size ≤ ((3 : Int32)).toNatClampNeg) := inb_of Sa63 ⟨by decide, by decide⟩
                      refine own_st (fun t k => X59.iaload hx (j := (3 : Int32)) (v := (.int e3_)) (by rw [e59]; exact Ar63.1) (State.isArrayOf_alike hZ.alike Ar63.2.1) Ar63.2.2 hin63 (Ha63.at hin63 rfl) (g := (mkF m 617 #[iv x0, iv x1, iv x2, iv x3, .val (.long x4), .second, iv x5, rv b1, iv fr, iv ro, iv rvx, rv b6, rv b11, .val (.long re), .second, .val (.long sh), .second, rv b30, rv b39, iv en, rv kb, rv b58, iv mm, rv nd] [(.int (3 : Int32)), (.ref b58), (.int z3)])) rfl rfl (hb hby at_617) t k) ?_
                      show own_Go p e below G (T59.setTop (mkF m 618 #[iv x0, iv x1, iv x2, iv x3, .val (.long x4), .second, iv x5, rv b1, iv fr, iv ro, iv rvx, rv b6, rv b11, .val (.long re), .second, .val (.long sh), .second, rv b30, rv b39, iv en, rv kb, rv b58, iv mm, rv nd] [(.int e3_), (.int z3)]))
                      refine own_st (fun t k => XS.icmpYes X59.here hx rfl (pc0 := 618) (pc' := 623) rfl (hb hby at_618) rfl (teq r4).1 (by decide) (by decide) k) ?_
                      show own_Go p e below G (T59.setTop (mkF m 623 #[iv x0, iv x1, iv x2, iv x3, .val (.long x4), .second, iv x5, rv b1, iv fr, iv ro, iv rvx, rv b6, rv b11, .val (.long re), .second, .val (.long sh), .second, rv b30, rv b39, iv en, rv kb, rv b58, iv mm, rv nd] []))
                      exact J623 trivial
                    · skip
                      refine own_st (fun t k => XS.icmpYes X59.here hx rfl (pc0 := 607) (pc' := 623) rfl (hb hby at_607) rfl (flt c607_61).2.2.2 (by decide) (by decide) k) ?_
                      show own_Go p e below G (T59.setTop (mkF m 623 #[iv x0, iv x1, iv x2, iv x3, .val (.long x4), .second, iv x5, rv b1, iv fr, iv ro, iv rvx, rv b6, rv b11, .val (.long re), .second, .val (.long sh), .second, rv b30, rv b39, iv en, rv kb, rv b58, iv mm, rv nd] []))
                      exact J623 trivial
                  by_cases c588_64 : (2 : Int32) < mm
                  · skip
                    refine own_st (fun t k => XS.icmpNo X59.here hx rfl (hb hby at_588) rfl (tlt c588_64).2.2.2 k) ?_
                    show own_Go p e below G (T59.setTop (mkF m 591 #[iv x0, iv x1, iv x2, iv x3, .val (.long x4), .second, iv x5, rv b1, iv fr, iv ro, iv rvx, rv b6, rv b11, .val (.long re), .second, .val (.long sh), .second, rv b30, rv b39, iv en, rv kb, rv b58, iv mm, rv nd] []))
                    refine own_st (fun t k => XS.aload X59.here hx rfl (hb hby at_591) rfl rfl  k) ?_
                    refine own_st (fun t k => XS.iconst X59.here hx rfl (hb hby at_593) k) ?_
                    show own_Go p e below G (T59.setTop (mkF m 594 #[iv x0, iv x1, iv x2, iv x3, .val (.long x4), .second, iv x5, rv b1, iv fr, iv ro, iv rvx, rv b6, rv b11, .val (.long re), .second, .val (.long sh), .second, rv b30, rv b39, iv en, rv kb, rv b58, iv mm, rv nd] [(.int (2 : Int32)), (.ref nd)]))
                    have Vc65 := Vnd
                    obtain ⟨cl65, Ar65, -, Sa65, -, Ha65, -⟩ := Vc65
                    have hin65 : ¬ ((2 : Int32) < 0 ∨ cl65.slots.size ≤ ((2 : Int32)).toNatClampNeg) := inb_of Sa65 ⟨by decide, by rw [r0]; exact c588_64⟩
                    refine own_st (fun t k => X59.iaload hx (j := (2 : Int32)) (v := (.int z2)) (by rw [e59]; exact Ar65.1) (State.isArrayOf_alike hZ.alike Ar65.2.1) Ar65.2.2 hin65 (Ha65.at hin65 rfl) (g := (mkF m 594 #[iv x0, iv x1, iv x2, iv x3, .val (.long x4), .second, iv x5, rv b1, iv fr, iv ro, iv rvx, rv b6, rv b11, .val (.long re), .second, .val (.long sh), .second, rv b30, rv b39, iv en, rv kb, rv b58, iv mm, rv nd] [(.int (2 : Int32)), (.ref nd)])) rfl rfl (hb hby at_594) t k) ?_
                    show own_Go p e below G (T59.setTop (mkF m 595 #[iv x0, iv x1, iv x2, iv x3, .val (.long x4), .second, iv x5, rv b1, iv fr, iv ro, iv rvx, rv b6, rv b11, .val (.long re), .second, .val (.long sh), .second, rv b30, rv b39, iv en, rv kb, rv b58, iv mm, rv nd] [(.int z2)]))
                    refine own_st (fun t k => XS.aload X59.here hx rfl (hb hby at_595) rfl rfl  k) ?_
                    refine own_st (fun t k => XS.iconst X59.here hx rfl (hb hby at_597) k) ?_
                    show own_Go p e below G (T59.setTop (mkF m 598 #[iv x0, iv x1, iv x2, iv x3, .val (.long x4), .second, iv x5, rv b1, iv fr, iv ro, iv rvx, rv b6, rv b11, .val (.long re), .second, .val (.long sh), .second, rv b30, rv b39, iv en, rv kb, rv b58, iv mm, rv nd] [(.int (2 : Int32)), (.ref b58), (.int z2)]))
                    have Vc66 := V_b58
                    obtain ⟨cl66, Ar66, -, Sa66, -, Ha66, -⟩ := Vc66
                    have hin66 : ¬ ((2 : Int32) < 0 ∨ cl66.slots.size ≤ ((2 : Int32)).toNatClampNeg) := inb_of Sa66 ⟨by decide, by decide⟩
                    refine own_st (fun t k => X59.iaload hx (j := (2 : Int32)) (v := (.int e2_)) (by rw [e59]; exact Ar66.1) (State.isArrayOf_alike hZ.alike Ar66.2.1) Ar66.2.2 hin66 (Ha66.at hin66 rfl) (g := (mkF m 598 #[iv x0, iv x1, iv x2, iv x3, .val (.long x4), .second, iv x5, rv b1, iv fr, iv ro, iv rvx, rv b6, rv b11, .val (.long re), .second, .val (.long sh), .second, rv b30, rv b39, iv en, rv kb, rv b58, iv mm, rv nd] [(.int (2 : Int32)), (.ref b58), (.int z2)])) rfl rfl (hb hby at_598) t k) ?_
                    show own_Go p e below G (T59.setTop (mkF m 599 #[iv x0, iv x1, iv x2, iv x3, .val (.long x4), .second, iv x5, rv b1, iv fr, iv ro, iv rvx, rv b6, rv b11, .val (.long re), .second, .val (.long sh), .second, rv b30, rv b39, iv en, rv kb, rv b58, iv mm, rv nd] [(.int e2_), (.int z2)]))
                    refine own_st (fun t k => XS.icmpYes X59.here hx rfl (pc0 := 599) (pc' := 604) rfl (hb hby at_599) rfl (teq r3).1 (by decide) (by decide) k) ?_
                    show own_Go p e below G (T59.setTop (mkF m 604 #[iv x0, iv x1, iv x2, iv x3, .val (.long x4), .second, iv x5, rv b1, iv fr, iv ro, iv rvx, rv b6, rv b11, .val (.long re), .second, .val (.long sh), .second, rv b30, rv b39, iv en, rv kb, rv b58, iv mm, rv nd] []))
                    exact J604 trivial
                  · skip
                    refine own_st (fun t k => XS.icmpYes X59.here hx rfl (pc0 := 588) (pc' := 604) rfl (hb hby at_588) rfl (flt c588_64).2.2.2 (by decide) (by decide) k) ?_
                    show own_Go p e below G (T59.setTop (mkF m 604 #[iv x0, iv x1, iv x2, iv x3, .val (.long x4), .second, iv x5, rv b1, iv fr, iv ro, iv rvx, rv b6, rv b11, .val (.long re), .second, .val (.long sh), .second, rv b30, rv b39, iv en, rv kb, rv b58, iv mm, rv nd] []))
                    exact J604 trivial
                by_cases c569_67 : (1 : Int32) < mm
                · skip
                  refine own_st (fun t k => XS.icmpNo X59.here hx rfl (hb hby at_569) rfl (tlt c569_67).2.2.2 k) ?_
                  show own_Go p e below G (T59.setTop (mkF m 572 #[iv x0, iv x1, iv x2, iv x3, .val (.long x4), .second, iv x5, rv b1, iv fr, iv ro, iv rvx, rv b6, rv b11, .val (.long re), .second, .val (.long sh), .second, rv b30, rv b39, iv en, rv kb, rv b58, iv mm, rv nd] []))
                  refine own_st (fun t k => XS.aload X59.here hx rfl (hb hby at_572) rfl rfl  k) ?_
                  refine own_st (fun t k => XS.iconst X59.here hx rfl (hb hby at_574) k) ?_
                  show own_Go p e below G (T59.setTop (mkF m 575 #[iv x0, iv x1, iv x2, iv x3, .val (.long x4), .second, iv x5, rv b1, iv fr, iv ro, iv rvx, rv b6, rv b11, .val (.long re), .second, .val (.long sh), .second, rv b30, rv b39, iv en, rv kb, rv b58, iv mm, rv nd] [(.int (1 : Int32)), (.ref nd)]))
                  have Vc68 := Vnd
                  obtain ⟨cl68, Ar68, -, Sa68, -, Ha68, -⟩ := Vc68
                  have hin68 : ¬ ((1 : Int32) < 0 ∨ cl68.slots.size ≤ ((1 : Int32)).toNatClampNeg) := inb_of Sa68 ⟨by decide, by rw [r0]; exact c569_67⟩
                  refine own_st (fun t k => X59.iaload hx (j := (1 : Int32)) (v := (.int z1)) (by rw [e59]; exact Ar68.1) (State.isArrayOf_alike hZ.alike Ar68.2.1) Ar68.2.2 hin68 (Ha68.at hin68 rfl) (g := (mkF m 575 #[iv x0, iv x1, iv x2, iv x3, .val (.long x4), .second, iv x5, rv b1, iv fr, iv ro, iv rvx, rv b6, rv b11, .val (.long re), .second, .val (.long sh), .second, rv b30, rv b39, iv en, rv kb, rv b58, iv mm, rv nd] [(.int (1 : Int32)), (.ref nd)])) rfl rfl (hb hby at_575) t k) ?_
                  show own_Go p e below G (T59.setTop (mkF m 576 #[iv x0, iv x1, iv x2, iv x3, .val (.long x4), .second, iv x5, rv b1, iv fr, iv ro, iv rvx, rv b6, rv b11, .val (.long re), .second, .val (.long sh), .second, rv b30, rv b39, iv en, rv kb, rv b58, iv mm, rv nd] [(.int z1)]))
                  refine own_st (fun t k => XS.aload X59.here hx rfl (hb hby at_576) rfl rfl  k) ?_
                  refine own_st (fun t k => XS.iconst X59.here hx rfl (hb hby at_578) k) ?_
                  show own_Go p e below G (T59.setTop (mkF m 579 #[iv x0, iv x1, iv x2, iv x3, .val (.long x4), .second, iv x5, rv b1, iv fr, iv ro, iv rvx, rv b6, rv b11, .val (.long re), .second, .val (.long sh), .second, rv b30, rv b39, iv en, rv kb, rv b58, iv mm, rv nd] [(.int (1 : Int32)), (.ref b58), (.int z1)]))
                  have Vc69 := V_b58
                  obtain ⟨cl69, Ar69, -, Sa69, -, Ha69, -⟩ := Vc69
                  have hin69 : ¬ ((1 : Int32) < 0 ∨ cl69.slots.size ≤ ((1 : Int32)).toNatClampNeg) := inb_of Sa69 ⟨by decide, by decide⟩
                  refine own_st (fun t k => X59.iaload hx (j := (1 : Int32)) (v := (.int e1_)) (by rw [e59]; exact Ar69.1) (State.isArrayOf_alike hZ.alike Ar69.2.1) Ar69.2.2 hin69 (Ha69.at hin69 rfl) (g := (mkF m 579 #[iv x0, iv x1, iv x2, iv x3, .val (.long x4), .second, iv x5, rv b1, iv fr, iv ro, iv rvx, rv b6, rv b11, .val (.long re), .second, .val (.long sh), .second, rv b30, rv b39, iv en, rv kb, rv b58, iv mm, rv nd] [(.int (1 : Int32)), (.ref b58), (.int z1)])) rfl rfl (hb hby at_579) t k) ?_
                  show own_Go p e below G (T59.setTop (mkF m 580 #[iv x0, iv x1, iv x2, iv x3, .val (.long x4), .second, iv x5, rv b1, iv fr, iv ro, iv rvx, rv b6, rv b11, .val (.long re), .second, .val (.long sh), .second, rv b30, rv b39, iv en, rv kb, rv b58, iv mm, rv nd] [(.int e1_), (.int z1)]))
                  refine own_st (fun t k => XS.icmpYes X59.here hx rfl (pc0 := 580) (pc' := 585) rfl (hb hby at_580) rfl (teq r2).1 (by decide) (by decide) k) ?_
                  show own_Go p e below G (T59.setTop (mkF m 585 #[iv x0, iv x1, iv x2, iv x3, .val (.long x4), .second, iv x5, rv b1, iv fr, iv ro, iv rvx, rv b6, rv b11, .val (.long re), .second, .val (.long sh), .second, rv b30, rv b39, iv en, rv kb, rv b58, iv mm, rv nd] []))
                  exact J585 trivial
                · skip
                  refine own_st (fun t k => XS.icmpYes X59.here hx rfl (pc0 := 569) (pc' := 585) rfl (hb hby at_569) rfl (flt c569_67).2.2.2 (by decide) (by decide) k) ?_
                  show own_Go p e below G (T59.setTop (mkF m 585 #[iv x0, iv x1, iv x2, iv x3, .val (.long x4), .second, iv x5, rv b1, iv fr, iv ro, iv rvx, rv b6, rv b11, .val (.long re), .second, .val (.long sh), .second, rv b30, rv b39, iv en, rv kb, rv b58, iv mm, rv nd] []))
                  exact J585 trivial
              by_cases c550_70 : (0 : Int32) < mm
              · skip
                refine own_st (fun t k => XS.ifNo X59.here hx rfl (hb hby at_550) rfl ((if0 _ _).trans (tlt c550_70).2.2.2) k) ?_
                show own_Go p e below G (T59.setTop (mkF m 553 #[iv x0, iv x1, iv x2, iv x3, .val (.long x4), .second, iv x5, rv b1, iv fr, iv ro, iv rvx, rv b6, rv b11, .val (.long re), .second, .val (.long sh), .second, rv b30, rv b39, iv en, rv kb, rv b58, iv mm, rv nd] []))
                refine own_st (fun t k => XS.aload X59.here hx rfl (hb hby at_553) rfl rfl  k) ?_
                refine own_st (fun t k => XS.iconst X59.here hx rfl (hb hby at_555) k) ?_
                show own_Go p e below G (T59.setTop (mkF m 556 #[iv x0, iv x1, iv x2, iv x3, .val (.long x4), .second, iv x5, rv b1, iv fr, iv ro, iv rvx, rv b6, rv b11, .val (.long re), .second, .val (.long sh), .second, rv b30, rv b39, iv en, rv kb, rv b58, iv mm, rv nd] [(.int (0 : Int32)), (.ref nd)]))
                have Vc71 := Vnd
                obtain ⟨cl71, Ar71, -, Sa71, -, Ha71, -⟩ := Vc71
                have hin71 : ¬ ((0 : Int32) < 0 ∨ cl71.slots.size ≤ ((0 : Int32)).toNatClampNeg) := inb_of Sa71 ⟨by decide, by rw [r0]; exact c550_70⟩
                refine own_st (fun t k => X59.iaload hx (j := (0 : Int32)) (v := (.int z0)) (by rw [e59]; exact Ar71.1) (State.isArrayOf_alike hZ.alike Ar71.2.1) Ar71.2.2 hin71 (Ha71.at hin71 rfl) (g := (mkF m 556 #[iv x0, iv x1, iv x2, iv x3, .val (.long x4), .second, iv x5, rv b1, iv fr, iv ro, iv rvx, rv b6, rv b11, .val (.long re), .second, .val (.long sh), .second, rv b30, rv b39, iv en, rv kb, rv b58, iv mm, rv nd] [(.int (0 : Int32)), (.ref nd)])) rfl rfl (hb hby at_556) t k) ?_
                show own_Go p e below G (T59.setTop (mkF m 557 #[iv x0, iv x1, iv x2, iv x3, .val (.long x4), .second, iv x5, rv b1, iv fr, iv ro, iv rvx, rv b6, rv b11, .val (.long re), .second, .val (.long sh), .second, rv b30, rv b39, iv en, rv kb, rv b58, iv mm, rv nd] [(.int z0)]))
                refine own_st (fun t k => XS.aload X59.here hx rfl (hb hby at_557) rfl rfl  k) ?_
                refine own_st (fun t k => XS.iconst X59.here hx rfl (hb hby at_559) k) ?_
                show own_Go p e below G (T59.setTop (mkF m 560 #[iv x0, iv x1, iv x2, iv x3, .val (.long x4), .second, iv x5, rv b1, iv fr, iv ro, iv rvx, rv b6, rv b11, .val (.long re), .second, .val (.long sh), .second, rv b30, rv b39, iv en, rv kb, rv b58, iv mm, rv nd] [(.int (0 : Int32)), (.ref b58), (.int z0)]))
                have Vc72 := V_b58
                obtain ⟨cl72, Ar72, -, Sa72, -, Ha72, -⟩ := Vc72
                have hin72 : ¬ ((0 : Int32) < 0 ∨ cl72.slots.size ≤ ((0 : Int32)).toNatClampNeg) := inb_of Sa72 ⟨by decide, by decide⟩
                refine own_st (fun t k => X59.iaload hx (j := (0 : Int32)) (v := (.int e0_)) (by rw [e59]; exact Ar72.1) (State.isArrayOf_alike hZ.alike Ar72.2.1) Ar72.2.2 hin72 (Ha72.at hin72 rfl) (g := (mkF m 560 #[iv x0, iv x1, iv x2, iv x3, .val (.long x4), .second, iv x5, rv b1, iv fr, iv ro, iv rvx, rv b6, rv b11, .val (.long re), .second, .val (.long sh), .second, rv b30, rv b39, iv en, rv kb, rv b58, iv mm, rv nd] [(.int (0 : Int32)), (.ref b58), (.int z0)])) rfl rfl (hb hby at_560) t k) ?_
                show own_Go p e below G (T59.setTop (mkF m 561 #[iv x0, iv x1, iv x2, iv x3, .val (.long x4), .second, iv x5, rv b1, iv fr, iv ro, iv rvx, rv b6, rv b11, .val (.long re), .second, .val (.long sh), .second, rv b30, rv b39, iv en, rv kb, rv b58, iv mm, rv nd] [(.int e0_), (.int z0)]))
                refine own_st (fun t k => XS.icmpYes X59.here hx rfl (pc0 := 561) (pc' := 566) rfl (hb hby at_561) rfl (teq r1).1 (by decide) (by decide) k) ?_
                show own_Go p e below G (T59.setTop (mkF m 566 #[iv x0, iv x1, iv x2, iv x3, .val (.long x4), .second, iv x5, rv b1, iv fr, iv ro, iv rvx, rv b6, rv b11, .val (.long re), .second, .val (.long sh), .second, rv b30, rv b39, iv en, rv kb, rv b58, iv mm, rv nd] []))
                exact J566 trivial
              · skip
                refine own_st (fun t k => XS.ifYes X59.here hx rfl (pc0 := 550) (pc' := 566) rfl (hb hby at_550) rfl ((if0 _ _).trans (flt c550_70).2.2.2) (by decide) (by decide) k) ?_
                show own_Go p e below G (T59.setTop (mkF m 566 #[iv x0, iv x1, iv x2, iv x3, .val (.long x4), .second, iv x5, rv b1, iv fr, iv ro, iv rvx, rv b6, rv b11, .val (.long re), .second, .val (.long sh), .second, rv b30, rv b39, iv en, rv kb, rv b58, iv mm, rv nd] []))
                exact J566 trivial
            have J508 : ∀ (mm e0_ e1_ e2_ e3_ : Int32) (Tj : State) (hj : Heap) (Lj : List Loc), Stand p l e room_1 s m #[(.int x0), (.int x1), (.int x2), (.int x3), (.long x4), (.int x5)] below meth c Tj Lj 17 59 → Tj.heap = hj → Fr n0 Lj → n0 ≤ hj.size → Arv Z hj b30 k30 .int (4 : Int32) [(.int (own_iv o0 o1 o2 o3 (0 : Int32))), (.int (own_iv o0 o1 o2 o3 (1 : Int32))), (.int (own_iv o0 o1 o2 o3 (2 : Int32))), (.int (own_iv o0 o1 o2 o3 (3 : Int32)))] (.int (0 : Int32)) → Exa Z hj kb "com/example/thinleaf/thinleaf/core/index/Postings" → Fld Z hj kb "com/example/thinleaf/thinleaf/core/index/Postings" "documents" "[I" (.ref nd) → Arv Z hj nd kn .int nn [(.int z0), (.int z1), (.int z2), (.int z3)] (.int (0 : Int32)) → Arv Z hj b58 k58 .int (4 : Int32) [(.int e0_), (.int e1_), (.int e2_), (.int e3_)] (.int (0 : Int32)) → 0 ≤ mm.toInt → mm.toInt ≤ 3 → (mm, e0_, e1_, e2_, e3_) = (own_stp c2 2 (own_stp c1 1 (own_stp c0 0 ((0 : Int32), (0 : Int32), (0 : Int32), (0 : Int32), (0 : Int32))))) → own_Go p e below G (Tj.setTop (mkF m 508 #[iv x0, iv x1, iv x2, iv x3, .val (.long x4), .second, iv x5, rv b1, iv fr, iv ro, iv rvx, rv b6, rv b11, .val (.long re), .second, .val (.long sh), .second, rv b30, rv b39, iv en, rv kb, rv b58, iv mm, .unset] [])) := by
              intro mm e0_ e1_ e2_ e3_ Tj hj Lj Xj ej N0 Z0 V_b30 Ekb Fkb Vnd V_b58 hn0 hni hsm
              show own_Go p e below G (Tj.setTop (mkF m 508 #[iv x0, iv x1, iv x2, iv x3, .val (.long x4), .second, iv x5, rv b1, iv fr, iv ro, iv rvx, rv b6, rv b11, .val (.long re), .second, .val (.long sh), .second, rv b30, rv b39, iv en, rv kb, rv b58, iv mm, .unset] []))
              refine own_st (fun t k => XS.aload Xj.here hx rfl (hb hby at_508) rfl rfl  k) ?_
              refine own_st (fun t k => XS.iconst Xj.here hx rfl (hb hby at_510) k) ?_
              show own_Go p e below G (Tj.setTop (mkF m 511 #[iv x0, iv x1, iv x2, iv x3, .val (.long x4), .second, iv x5, rv b1, iv fr, iv ro, iv rvx, rv b6, rv b11, .val (.long re), .second, .val (.long sh), .second, rv b30, rv b39, iv en, rv kb, rv b58, iv mm, .unset] [(.int (3 : Int32)), (.ref b30)]))
              have Vc73 := V_b30
              obtain ⟨cl73, Ar73, -, Sa73, -, Ha73, -⟩ := Vc73
              have hin73 : ¬ ((3 : Int32) < 0 ∨ cl73.slots.size ≤ ((3 : Int32)).toNatClampNeg) := inb_of Sa73 ⟨by decide, by decide⟩
              refine own_st (fun t k => Xj.iaload hx (j := (3 : Int32)) (v := (.int (own_iv o0 o1 o2 o3 (3 : Int32)))) (by rw [ej]; exact Ar73.1) (State.isArrayOf_alike hZ.alike Ar73.2.1) Ar73.2.2 hin73 (Ha73.at hin73 rfl) (g := (mkF m 511 #[iv x0, iv x1, iv x2, iv x3, .val (.long x4), .second, iv x5, rv b1, iv fr, iv ro, iv rvx, rv b6, rv b11, .val (.long re), .second, .val (.long sh), .second, rv b30, rv b39, iv en, rv kb, rv b58, iv mm, .unset] [(.int (3 : Int32)), (.ref b30)])) rfl rfl (hb hby at_511) t k) ?_
              show own_Go p e below G (Tj.setTop (mkF m 512 #[iv x0, iv x1, iv x2, iv x3, .val (.long x4), .second, iv x5, rv b1, iv fr, iv ro, iv rvx, rv b6, rv b11, .val (.long re), .second, .val (.long sh), .second, rv b30, rv b39, iv en, rv kb, rv b58, iv mm, .unset] [(.int (own_iv o0 o1 o2 o3 (3 : Int32)))]))
              refine own_st (fun t k => XS.iload Xj.here hx rfl (hb hby at_512) rfl  k) ?_
              refine own_st (fun t k => XS.iload Xj.here hx rfl (hb hby at_514) rfl  k) ?_
              show own_Go p e below G (Tj.setTop (mkF m 516 #[iv x0, iv x1, iv x2, iv x3, .val (.long x4), .second, iv x5, rv b1, iv fr, iv ro, iv rvx, rv b6, rv b11, .val (.long re), .second, .val (.long sh), .second, rv b30, rv b39, iv en, rv kb, rv b58, iv mm, .unset] [(.int en), (.int fr), (.int (own_iv o0 o1 o2 o3 (3 : Int32)))]))
              obtain ⟨v74, T74, L74, X74, Q74, st74⟩ := own_callS Xj hx hZ (y := (⟨"com/example/thinleaf/thinleaf/prune/DocumentCutRemovePinLaw", "goes", "(III)Z"⟩ : MethodName)) hown (hw _ (List.mem_of_getElem? (i := 105) rfl)) (hw _ (List.mem_of_getElem? (i := 106) rfl)) (hw _ (List.mem_of_getElem? (i := 107) rfl)) (hw _ (List.mem_of_getElem? (i := 108) rfl)) (by decide) (W := 0) (rm12 l Z a0 hw (own_iv o0 o1 o2 o3 (3 : Int32)) fr en hj) (by decide) (by decide) ej (g := (mkF m 516 #[iv x0, iv x1, iv x2, iv x3, .val (.long x4), .second, iv x5, rv b1, iv fr, iv ro, iv rvx, rv b6, rv b11, .val (.long re), .second, .val (.long sh), .second, rv b30, rv b39, iv en, rv kb, rv b58, iv mm, .unset] [(.int en), (.int fr), (.int (own_iv o0 o1 o2 o3 (3 : Int32)))])) rfl (by rw [hml]; rfl) (argsL := [(.int (own_iv o0 o1 o2 o3 (3 : Int32))), (.int fr), (.int en)]) (rest := []) own_pd12 rfl rfl (by show 2 * 0 + _ ≤ _; exact Nat.le_of_eq rfl) (hb hby at_516) rfl (by decide) (by decide)
              obtain ⟨rfl, rfl, e74⟩ := Q74
              simp only [List.append_nil, Nat.add_zero] at X74
              refine own_st st74 ?_
              rw [show own_go (own_iv o0 o1 o2 o3 (3 : Int32)) fr en = c3 from hc3.symm]
              show own_Go p e below G (T74.setTop (mkF m 519 #[iv x0, iv x1, iv x2, iv x3, .val (.long x4), .second, iv x5, rv b1, iv fr, iv ro, iv rvx, rv b6, rv b11, .val (.long re), .second, .val (.long sh), .second, rv b30, rv b39, iv en, rv kb, rv b58, iv mm, .unset] [(.int c3)]))
              by_cases c519_75 : c3 = (0 : Int32)
              · skip
                refine own_st (fun t k => XS.ifNo X74.here hx rfl (hb hby at_519) rfl ((if0 _ _).trans (teq c519_75).2) k) ?_
                show own_Go p e below G (T74.setTop (mkF m 522 #[iv x0, iv x1, iv x2, iv x3, .val (.long x4), .second, iv x5, rv b1, iv fr, iv ro, iv rvx, rv b6, rv b11, .val (.long re), .second, .val (.long sh), .second, rv b30, rv b39, iv en, rv kb, rv b58, iv mm, .unset] []))
                refine own_st (fun t k => XS.aload X74.here hx rfl (hb hby at_522) rfl rfl  k) ?_
                refine own_st (fun t k => XS.iload X74.here hx rfl (hb hby at_524) rfl  k) ?_
                refine own_st (fun t k => XS.iconst X74.here hx rfl (hb hby at_526) k) ?_
                show own_Go p e below G (T74.setTop (mkF m 527 #[iv x0, iv x1, iv x2, iv x3, .val (.long x4), .second, iv x5, rv b1, iv fr, iv ro, iv rvx, rv b6, rv b11, .val (.long re), .second, .val (.long sh), .second, rv b30, rv b39, iv en, rv kb, rv b58, iv mm, .unset] [(.int (3 : Int32)), (.int mm), (.ref b58)]))
                obtain ⟨cl76, Ar76, qa76, Sa76, Na76, Ha76, Ga76⟩ := V_b58
                have hin76 : ¬ (mm < 0 ∨ cl76.slots.size ≤ (mm).toNatClampNeg) := inb_of Sa76 (own_bd4 ⟨hn0, Int.lt_of_le_of_lt hni (by decide)⟩)
                obtain ⟨T76, h76, X76, e76, W76, st76⟩ := stI X74 hx hZ e74 Ar76 (j := mm) hin76 (g := (mkF m 527 #[iv x0, iv x1, iv x2, iv x3, .val (.long x4), .second, iv x5, rv b1, iv fr, iv ro, iv rvx, rv b6, rv b11, .val (.long re), .second, .val (.long sh), .second, rv b30, rv b39, iv en, rv kb, rv b58, iv mm, .unset] [(.int (3 : Int32)), (.int mm), (.ref b58)])) rfl rfl (hb hby at_527)
                have V_b58 : Arv Z h76 b58 k58 .int (4 : Int32) [(.int (own_sl mm 0 (3 : Int32) e0_)), (.int (own_sl mm 1 (3 : Int32) e1_)), (.int (own_sl mm 2 (3 : Int32) e2_)), (.int (own_sl mm 3 (3 : Int32) e3_))] (.int (0 : Int32)) := by
                  have q := Arv.set Ar76 qa76 Sa76 Na76 Ha76 Ga76 rfl W76 _ rfl (own_lt4 ⟨hn0, Int.lt_of_le_of_lt hni (by decide)⟩)
                  rw [own_set4 ⟨hn0, Int.lt_of_le_of_lt hni (by decide)⟩] at q
                  exact q
                replace V_b30 := V_b30.other W76 ne_b30_b58
                replace Ekb := Ekb.wr W76
                replace Fkb := Fkb.other W76 (Or.inl ne_kb_b58)
                replace Vnd := Vnd.other W76 ne_nd_b58
                replace Z0 := Nat.le_trans Z0 (Keep.of_wr W76).1
                replace N0 := Fr.snoc X76 N0 g_b58
                refine own_st st76 ?_
                show own_Go p e below G (T76.setTop (mkF m 528 #[iv x0, iv x1, iv x2, iv x3, .val (.long x4), .second, iv x5, rv b1, iv fr, iv ro, iv rvx, rv b6, rv b11, .val (.long re), .second, .val (.long sh), .second, rv b30, rv b39, iv en, rv kb, rv b58, iv mm, .unset] []))
                refine own_st (fun t k => XS.iinc X76.here hx rfl (hb hby at_528) rfl (l' := #[iv x0, iv x1, iv x2, iv x3, .val (.long x4), .second, iv x5, rv b1, iv fr, iv ro, iv rvx, rv b6, rv b11, .val (.long re), .second, .val (.long sh), .second, rv b30, rv b39, iv en, rv kb, rv b58, iv (mm + (1 : Int32)), .unset]) rfl k) ?_
                show own_Go p e below G (T76.setTop (mkF m 531 #[iv x0, iv x1, iv x2, iv x3, .val (.long x4), .second, iv x5, rv b1, iv fr, iv ro, iv rvx, rv b6, rv b11, .val (.long re), .second, .val (.long sh), .second, rv b30, rv b39, iv en, rv kb, rv b58, iv (mm + (1 : Int32)), .unset] []))
                exact J531 (mm + (1 : Int32)) (own_sl mm 0 (3 : Int32) e0_) (own_sl mm 1 (3 : Int32) e1_) (own_sl mm 2 (3 : Int32) e2_) (own_sl mm 3 (3 : Int32) e3_) _ _ _ X76 e76 N0 Z0 V_b30 Ekb Fkb Vnd V_b58 (by rw [own_inc hn0 (Int.lt_of_le_of_lt hni (by decide))]; omega) (by rw [own_inc hn0 (Int.lt_of_le_of_lt hni (by decide))]; omega) (by rw [← hsm]; exact (if_pos c519_75).symm)
              · skip
                refine own_st (fun t k => XS.ifYes X74.here hx rfl (pc0 := 519) (pc' := 531) rfl (hb hby at_519) rfl ((if0 _ _).trans (feq c519_75).2) (by decide) (by decide) k) ?_
                show own_Go p e below G (T74.setTop (mkF m 531 #[iv x0, iv x1, iv x2, iv x3, .val (.long x4), .second, iv x5, rv b1, iv fr, iv ro, iv rvx, rv b6, rv b11, .val (.long re), .second, .val (.long sh), .second, rv b30, rv b39, iv en, rv kb, rv b58, iv mm, .unset] []))
                exact J531 mm e0_ e1_ e2_ e3_ _ _ _ X74 e74 N0 Z0 V_b30 Ekb Fkb Vnd V_b58 hn0 (Int.le_trans hni (by decide)) (by rw [← hsm]; exact (if_neg c519_75).symm)
            have J485 : ∀ (mm e0_ e1_ e2_ e3_ : Int32) (Tj : State) (hj : Heap) (Lj : List Loc), Stand p l e room_1 s m #[(.int x0), (.int x1), (.int x2), (.int x3), (.long x4), (.int x5)] below meth c Tj Lj 17 59 → Tj.heap = hj → Fr n0 Lj → n0 ≤ hj.size → Arv Z hj b30 k30 .int (4 : Int32) [(.int (own_iv o0 o1 o2 o3 (0 : Int32))), (.int (own_iv o0 o1 o2 o3 (1 : Int32))), (.int (own_iv o0 o1 o2 o3 (2 : Int32))), (.int (own_iv o0 o1 o2 o3 (3 : Int32)))] (.int (0 : Int32)) → Exa Z hj kb "com/example/thinleaf/thinleaf/core/index/Postings" → Fld Z hj kb "com/example/thinleaf/thinleaf/core/index/Postings" "documents" "[I" (.ref nd) → Arv Z hj nd kn .int nn [(.int z0), (.int z1), (.int z2), (.int z3)] (.int (0 : Int32)) → Arv Z hj b58 k58 .int (4 : Int32) [(.int e0_), (.int e1_), (.int e2_), (.int e3_)] (.int (0 : Int32)) → 0 ≤ mm.toInt → mm.toInt ≤ 2 → (mm, e0_, e1_, e2_, e3_) = (own_stp c1 1 (own_stp c0 0 ((0 : Int32), (0 : Int32), (0 : Int32), (0 : Int32), (0 : Int32)))) → own_Go p e below G (Tj.setTop (mkF m 485 #[iv x0, iv x1, iv x2, iv x3, .val (.long x4), .second, iv x5, rv b1, iv fr, iv ro, iv rvx, rv b6, rv b11, .val (.long re), .second, .val (.long sh), .second, rv b30, rv b39, iv en, rv kb, rv b58, iv mm, .unset] [])) := by
              intro mm e0_ e1_ e2_ e3_ Tj hj Lj Xj ej N0 Z0 V_b30 Ekb Fkb Vnd V_b58 hn0 hni hsm
              show own_Go p e below G (Tj.setTop (mkF m 485 #[iv x0, iv x1, iv x2, iv x3, .val (.long x4), .second, iv x5, rv b1, iv fr, iv ro, iv rvx, rv b6, rv b11, .val (.long re), .second, .val (.long sh), .second, rv b30, rv b39, iv en, rv kb, rv b58, iv mm, .unset] []))
              refine own_st (fun t k => XS.aload Xj.here hx rfl (hb hby at_485) rfl rfl  k) ?_
              refine own_st (fun t k => XS.iconst Xj.here hx rfl (hb hby at_487) k) ?_
              show own_Go p e below G (Tj.setTop (mkF m 488 #[iv x0, iv x1, iv x2, iv x3, .val (.long x4), .second, iv x5, rv b1, iv fr, iv ro, iv rvx, rv b6, rv b11, .val (.long re), .second, .val (.long sh), .second, rv b30, rv b39, iv en, rv kb, rv b58, iv mm, .unset] [(.int (2 : Int32)), (.ref b30)]))
              have Vc77 := V_b30
              obtain ⟨cl77, Ar77, -, Sa77, -, Ha77, -⟩ := Vc77
              have hin77 : ¬ ((2 : Int32) < 0 ∨ cl77.slots.size ≤ ((2 : Int32)).toNatClampNeg) := inb_of Sa77 ⟨by decide, by decide⟩
              refine own_st (fun t k => Xj.iaload hx (j := (2 : Int32)) (v := (.int (own_iv o0 o1 o2 o3 (2 : Int32)))) (by rw [ej]; exact Ar77.1) (State.isArrayOf_alike hZ.alike Ar77.2.1) Ar77.2.2 hin77 (Ha77.at hin77 rfl) (g := (mkF m 488 #[iv x0, iv x1, iv x2, iv x3, .val (.long x4), .second, iv x5, rv b1, iv fr, iv ro, iv rvx, rv b6, rv b11, .val (.long re), .second, .val (.long sh), .second, rv b30, rv b39, iv en, rv kb, rv b58, iv mm, .unset] [(.int (2 : Int32)), (.ref b30)])) rfl rfl (hb hby at_488) t k) ?_
              show own_Go p e below G (Tj.setTop (mkF m 489 #[iv x0, iv x1, iv x2, iv x3, .val (.long x4), .second, iv x5, rv b1, iv fr, iv ro, iv rvx, rv b6, rv b11, .val (.long re), .second, .val (.long sh), .second, rv b30, rv b39, iv en, rv kb, rv b58, iv mm, .unset] [(.int (own_iv o0 o1 o2 o3 (2 : Int32)))]))
              refine own_st (fun t k => XS.iload Xj.here hx rfl (hb hby at_489) rfl  k) ?_
              refine own_st (fun t k => XS.iload Xj.here hx rfl (hb hby at_491) rfl  k) ?_
              show own_Go p e below G (Tj.setTop (mkF m 493 #[iv x0, iv x1, iv x2, iv x3, .val (.long x4), .second, iv x5, rv b1, iv fr, iv ro, iv rvx, rv b6, rv b11, .val (.long re), .second, .val (.long sh), .second, rv b30, rv b39, iv en, rv kb, rv b58, iv mm, .unset] [(.int en), (.int fr), (.int (own_iv o0 o1 o2 o3 (2 : Int32)))]))
              obtain ⟨v78, T78, L78, X78, Q78, st78⟩ := own_callS Xj hx hZ (y := (⟨"com/example/thinleaf/thinleaf/prune/DocumentCutRemovePinLaw", "goes", "(III)Z"⟩ : MethodName)) hown (hw _ (List.mem_of_getElem? (i := 105) rfl)) (hw _ (List.mem_of_getElem? (i := 106) rfl)) (hw _ (List.mem_of_getElem? (i := 107) rfl)) (hw _ (List.mem_of_getElem? (i := 108) rfl)) (by decide) (W := 0) (rm12 l Z a0 hw (own_iv o0 o1 o2 o3 (2 : Int32)) fr en hj) (by decide) (by decide) ej (g := (mkF m 493 #[iv x0, iv x1, iv x2, iv x3, .val (.long x4), .second, iv x5, rv b1, iv fr, iv ro, iv rvx, rv b6, rv b11, .val (.long re), .second, .val (.long sh), .second, rv b30, rv b39, iv en, rv kb, rv b58, iv mm, .unset] [(.int en), (.int fr), (.int (own_iv o0 o1 o2 o3 (2 : Int32)))])) rfl (by rw [hml]; rfl) (argsL := [(.int (own_iv o0 o1 o2 o3 (2 : Int32))), (.int fr), (.int en)]) (rest := []) own_pd12 rfl rfl (by show 2 * 0 + _ ≤ _; exact Nat.le_of_eq rfl) (hb hby at_493) rfl (by decide) (by decide)
              obtain ⟨rfl, rfl, e78⟩ := Q78
              simp only [List.append_nil, Nat.add_zero] at X78
              refine own_st st78 ?_
              rw [show own_go (own_iv o0 o1 o2 o3 (2 : Int32)) fr en = c2 from hc2.symm]
              show own_Go p e below G (T78.setTop (mkF m 496 #[iv x0, iv x1, iv x2, iv x3, .val (.long x4), .second, iv x5, rv b1, iv fr, iv ro, iv rvx, rv b6, rv b11, .val (.long re), .second, .val (.long sh), .second, rv b30, rv b39, iv en, rv kb, rv b58, iv mm, .unset] [(.int c2)]))
              by_cases c496_79 : c2 = (0 : Int32)
              · skip
                refine own_st (fun t k => XS.ifNo X78.here hx rfl (hb hby at_496) rfl ((if0 _ _).trans (teq c496_79).2) k) ?_
                show own_Go p e below G (T78.setTop (mkF m 499 #[iv x0, iv x1, iv x2, iv x3, .val (.long x4), .second, iv x5, rv b1, iv fr, iv ro, iv rvx, rv b6, rv b11, .val (.long re), .second, .val (.long sh), .second, rv b30, rv b39, iv en, rv kb, rv b58, iv mm, .unset] []))
                refine own_st (fun t k => XS.aload X78.here hx rfl (hb hby at_499) rfl rfl  k) ?_
                refine own_st (fun t k => XS.iload X78.here hx rfl (hb hby at_501) rfl  k) ?_
                refine own_st (fun t k => XS.iconst X78.here hx rfl (hb hby at_503) k) ?_
                show own_Go p e below G (T78.setTop (mkF m 504 #[iv x0, iv x1, iv x2, iv x3, .val (.long x4), .second, iv x5, rv b1, iv fr, iv ro, iv rvx, rv b6, rv b11, .val (.long re), .second, .val (.long sh), .second, rv b30, rv b39, iv en, rv kb, rv b58, iv mm, .unset] [(.int (2 : Int32)), (.int mm), (.ref b58)]))
                obtain ⟨cl80, Ar80, qa80, Sa80, Na80, Ha80, Ga80⟩ := V_b58
                have hin80 : ¬ (mm < 0 ∨ cl80.slots.size ≤ (mm).toNatClampNeg) := inb_of Sa80 (own_bd4 ⟨hn0, Int.lt_of_le_of_lt hni (by decide)⟩)
                obtain ⟨T80, h80, X80, e80, W80, st80⟩ := stI X78 hx hZ e78 Ar80 (j := mm) hin80 (g := (mkF m 504 #[iv x0, iv x1, iv x2, iv x3, .val (.long x4), .second, iv x5, rv b1, iv fr, iv ro, iv rvx, rv b6, rv b11, .val (.long re), .second, .val (.long sh), .second, rv b30, rv b39, iv en, rv kb, rv b58, iv mm, .unset] [(.int (2 : Int32)), (.int mm), (.ref b58)])) rfl rfl (hb hby at_504)
                have V_b58 : Arv Z h80 b58 k58 .int (4 : Int32) [(.int (own_sl mm 0 (2 : Int32) e0_)), (.int (own_sl mm 1 (2 : Int32) e1_)), (.int (own_sl mm 2 (2 : Int32) e2_)), (.int (own_sl mm 3 (2 : Int32) e3_))] (.int (0 : Int32)) := by
                  have q := Arv.set Ar80 qa80 Sa80 Na80 Ha80 Ga80 rfl W80 _ rfl (own_lt4 ⟨hn0, Int.lt_of_le_of_lt hni (by decide)⟩)
                  rw [own_set4 ⟨hn0, Int.lt_of_le_of_lt hni (by decide)⟩] at q
                  exact q
                replace V_b30 := V_b30.other W80 ne_b30_b58
                replace Ekb := Ekb.wr W80
                replace Fkb := Fkb.other W80 (Or.inl ne_kb_b58)
                replace Vnd := Vnd.other W80 ne_nd_b58
                replace Z0 := Nat.le_trans Z0 (Keep.of_wr W80).1
                replace N0 := Fr.snoc X80 N0 g_b58
                refine own_st st80 ?_
                show own_Go p e below G (T80.setTop (mkF m 505 #[iv x0, iv x1, iv x2, iv x3, .val (.long x4), .second, iv x5, rv b1, iv fr, iv ro, iv rvx, rv b6, rv b11, .val (.long re), .second, .val (.long sh), .second, rv b30, rv b39, iv en, rv kb, rv b58, iv mm, .unset] []))
                refine own_st (fun t k => XS.iinc X80.here hx rfl (hb hby at_505) rfl (l' := #[iv x0, iv x1, iv x2, iv x3, .val (.long x4), .second, iv x5, rv b1, iv fr, iv ro, iv rvx, rv b6, rv b11, .val (.long re), .second, .val (.long sh), .second, rv b30, rv b39, iv en, rv kb, rv b58, iv (mm + (1 : Int32)), .unset]) rfl k) ?_
                show own_Go p e below G (T80.setTop (mkF m 508 #[iv x0, iv x1, iv x2, iv x3, .val (.long x4), .second, iv x5, rv b1, iv fr, iv ro, iv rvx, rv b6, rv b11, .val (.long re), .second, .val (.long sh), .second, rv b30, rv b39, iv en, rv kb, rv b58, iv (mm + (1 : Int32)), .unset] []))
                exact J508 (mm + (1 : Int32)) (own_sl mm 0 (2 : Int32) e0_) (own_sl mm 1 (2 : Int32) e1_) (own_sl mm 2 (2 : Int32) e2_) (own_sl mm 3 (2 : Int32) e3_) _ _ _ X80 e80 N0 Z0 V_b30 Ekb Fkb Vnd V_b58 (by rw [own_inc hn0 (Int.lt_of_le_of_lt hni (by decide))]; omega) (by rw [own_inc hn0 (Int.lt_of_le_of_lt hni (by decide))]; omega) (by rw [← hsm]; exact (if_pos c496_79).symm)
              · skip
                refine own_st (fun t k => XS.ifYes X78.here hx rfl (pc0 := 496) (pc' := 508) rfl (hb hby at_496) rfl ((if0 _ _).trans (feq c496_79).2) (by decide) (by decide) k) ?_
                show own_Go p e below G (T78.setTop (mkF m 508 #[iv x0, iv x1, iv x2, iv x3, .val (.long x4), .second, iv x5, rv b1, iv fr, iv ro, iv rvx, rv b6, rv b11, .val (.long re), .second, .val (.long sh), .second, rv b30, rv b39, iv en, rv kb, rv b58, iv mm, .unset] []))
                exact J508 mm e0_ e1_ e2_ e3_ _ _ _ X78 e78 N0 Z0 V_b30 Ekb Fkb Vnd V_b58 hn0 (Int.le_trans hni (by decide)) (by rw [← hsm]; exact (if_neg c496_79).symm)
            have J462 : ∀ (mm e0_ e1_ e2_ e3_ : Int32) (Tj : State) (hj : Heap) (Lj : List Loc), Stand p l e room_1 s m #[(.int x0), (.int x1), (.int x2), (.int x3), (.long x4), (.int x5)] below meth c Tj Lj 17 59 → Tj.heap = hj → Fr n0 Lj → n0 ≤ hj.size → Arv Z hj b30 k30 .int (4 : Int32) [(.int (own_iv o0 o1 o2 o3 (0 : Int32))), (.int (own_iv o0 o1 o2 o3 (1 : Int32))), (.int (own_iv o0 o1 o2 o3 (2 : Int32))), (.int (own_iv o0 o1 o2 o3 (3 : Int32)))] (.int (0 : Int32)) → Exa Z hj kb "com/example/thinleaf/thinleaf/core/index/Postings" → Fld Z hj kb "com/example/thinleaf/thinleaf/core/index/Postings" "documents" "[I" (.ref nd) → Arv Z hj nd kn .int nn [(.int z0), (.int z1), (.int z2), (.int z3)] (.int (0 : Int32)) → Arv Z hj b58 k58 .int (4 : Int32) [(.int e0_), (.int e1_), (.int e2_), (.int e3_)] (.int (0 : Int32)) → 0 ≤ mm.toInt → mm.toInt ≤ 1 → (mm, e0_, e1_, e2_, e3_) = (own_stp c0 0 ((0 : Int32), (0 : Int32), (0 : Int32), (0 : Int32), (0 : Int32))) → own_Go p e below G (Tj.setTop (mkF m 462 #[iv x0, iv x1, iv x2, iv x3, .val (.long x4), .second, iv x5, rv b1, iv fr, iv ro, iv rvx, rv b6, rv b11, .val (.long re), .second, .val (.long sh), .second, rv b30, rv b39, iv en, rv kb, rv b58, iv mm, .unset] [])) := by
              intro mm e0_ e1_ e2_ e3_ Tj hj Lj Xj ej N0 Z0 V_b30 Ekb Fkb Vnd V_b58 hn0 hni hsm
              show own_Go p e below G (Tj.setTop (mkF m 462 #[iv x0, iv x1, iv x2, iv x3, .val (.long x4), .second, iv x5, rv b1, iv fr, iv ro, iv rvx, rv b6, rv b11, .val (.long re), .second, .val (.long sh), .second, rv b30, rv b39, iv en, rv kb, rv b58, iv mm, .unset] []))
              refine own_st (fun t k => XS.aload Xj.here hx rfl (hb hby at_462) rfl rfl  k) ?_
              refine own_st (fun t k => XS.iconst Xj.here hx rfl (hb hby at_464) k) ?_
              show own_Go p e below G (Tj.setTop (mkF m 465 #[iv x0, iv x1, iv x2, iv x3, .val (.long x4), .second, iv x5, rv b1, iv fr, iv ro, iv rvx, rv b6, rv b11, .val (.long re), .second, .val (.long sh), .second, rv b30, rv b39, iv en, rv kb, rv b58, iv mm, .unset] [(.int (1 : Int32)), (.ref b30)]))
              have Vc81 := V_b30
              obtain ⟨cl81, Ar81, -, Sa81, -, Ha81, -⟩ := Vc81
              have hin81 : ¬ ((1 : Int32) < 0 ∨ cl81.slots.size ≤ ((1 : Int32)).toNatClampNeg) := inb_of Sa81 ⟨by decide, by decide⟩
              refine own_st (fun t k => Xj.iaload hx (j := (1 : Int32)) (v := (.int (own_iv o0 o1 o2 o3 (1 : Int32)))) (by rw [ej]; exact Ar81.1) (State.isArrayOf_alike hZ.alike Ar81.2.1) Ar81.2.2 hin81 (Ha81.at hin81 rfl) (g := (mkF m 465 #[iv x0, iv x1, iv x2, iv x3, .val (.long x4), .second, iv x5, rv b1, iv fr, iv ro, iv rvx, rv b6, rv b11, .val (.long re), .second, .val (.long sh), .second, rv b30, rv b39, iv en, rv kb, rv b58, iv mm, .unset] [(.int (1 : Int32)), (.ref b30)])) rfl rfl (hb hby at_465) t k) ?_
              show own_Go p e below G (Tj.setTop (mkF m 466 #[iv x0, iv x1, iv x2, iv x3, .val (.long x4), .second, iv x5, rv b1, iv fr, iv ro, iv rvx, rv b6, rv b11, .val (.long re), .second, .val (.long sh), .second, rv b30, rv b39, iv en, rv kb, rv b58, iv mm, .unset] [(.int (own_iv o0 o1 o2 o3 (1 : Int32)))]))
              refine own_st (fun t k => XS.iload Xj.here hx rfl (hb hby at_466) rfl  k) ?_
              refine own_st (fun t k => XS.iload Xj.here hx rfl (hb hby at_468) rfl  k) ?_
              show own_Go p e below G (Tj.setTop (mkF m 470 #[iv x0, iv x1, iv x2, iv x3, .val (.long x4), .second, iv x5, rv b1, iv fr, iv ro, iv rvx, rv b6, rv b11, .val (.long re), .second, .val (.long sh), .second, rv b30, rv b39, iv en, rv kb, rv b58, iv mm, .unset] [(.int en), (.int fr), (.int (own_iv o0 o1 o2 o3 (1 : Int32)))]))
              obtain ⟨v82, T82, L82, X82, Q82, st82⟩ := own_callS Xj hx hZ (y := (⟨"com/example/thinleaf/thinleaf/prune/DocumentCutRemovePinLaw", "goes", "(III)Z"⟩ : MethodName)) hown (hw _ (List.mem_of_getElem? (i := 105) rfl)) (hw _ (List.mem_of_getElem? (i := 106) rfl)) (hw _ (List.mem_of_getElem? (i := 107) rfl)) (hw _ (List.mem_of_getElem? (i := 108) rfl)) (by decide) (W := 0) (rm12 l Z a0 hw (own_iv o0 o1 o2 o3 (1 : Int32)) fr en hj) (by decide) (by decide) ej (g := (mkF m 470 #[iv x0, iv x1, iv x2, iv x3, .val (.long x4), .second, iv x5, rv b1, iv fr, iv ro, iv rvx, rv b6, rv b11, .val (.long re), .second, .val (.long sh), .second, rv b30, rv b39, iv en, rv kb, rv b58, iv mm, .unset] [(.int en), (.int fr), (.int (own_iv o0 o1 o2 o3 (1 : Int32)))])) rfl (by rw [hml]; rfl) (argsL := [(.int (own_iv o0 o1 o2 o3 (1 : Int32))), (.int fr), (.int en)]) (rest := []) own_pd12 rfl rfl (by show 2 * 0 + _ ≤ _; exact Nat.le_of_eq rfl) (hb hby at_470) rfl (by decide) (by decide)
              obtain ⟨rfl, rfl, e82⟩ := Q82
              simp only [List.append_nil, Nat.add_zero] at X82
              refine own_st st82 ?_
              rw [show own_go (own_iv o0 o1 o2 o3 (1 : Int32)) fr en = c1 from hc1.symm]
              show own_Go p e below G (T82.setTop (mkF m 473 #[iv x0, iv x1, iv x2, iv x3, .val (.long x4), .second, iv x5, rv b1, iv fr, iv ro, iv rvx, rv b6, rv b11, .val (.long re), .second, .val (.long sh), .second, rv b30, rv b39, iv en, rv kb, rv b58, iv mm, .unset] [(.int c1)]))
              by_cases c473_83 : c1 = (0 : Int32)
              · skip
                refine own_st (fun t k => XS.ifNo X82.here hx rfl (hb hby at_473) rfl ((if0 _ _).trans (teq c473_83).2) k) ?_
                show own_Go p e below G (T82.setTop (mkF m 476 #[iv x0, iv x1, iv x2, iv x3, .val (.long x4), .second, iv x5, rv b1, iv fr, iv ro, iv rvx, rv b6, rv b11, .val (.long re), .second, .val (.long sh), .second, rv b30, rv b39, iv en, rv kb, rv b58, iv mm, .unset] []))
                refine own_st (fun t k => XS.aload X82.here hx rfl (hb hby at_476) rfl rfl  k) ?_
                refine own_st (fun t k => XS.iload X82.here hx rfl (hb hby at_478) rfl  k) ?_
                refine own_st (fun t k => XS.iconst X82.here hx rfl (hb hby at_480) k) ?_
                show own_Go p e below G (T82.setTop (mkF m 481 #[iv x0, iv x1, iv x2, iv x3, .val (.long x4), .second, iv x5, rv b1, iv fr, iv ro, iv rvx, rv b6, rv b11, .val (.long re), .second, .val (.long sh), .second, rv b30, rv b39, iv en, rv kb, rv b58, iv mm, .unset] [(.int (1 : Int32)), (.int mm), (.ref b58)]))
                obtain ⟨cl84, Ar84, qa84, Sa84, Na84, Ha84, Ga84⟩ := V_b58
                have hin84 : ¬ (mm < 0 ∨ cl84.slots.size ≤ (mm).toNatClampNeg) := inb_of Sa84 (own_bd4 ⟨hn0, Int.lt_of_le_of_lt hni (by decide)⟩)
                obtain ⟨T84, h84, X84, e84, W84, st84⟩ := stI X82 hx hZ e82 Ar84 (j := mm) hin84 (g := (mkF m 481 #[iv x0, iv x1, iv x2, iv x3, .val (.long x4), .second, iv x5, rv b1, iv fr, iv ro, iv rvx, rv b6, rv b11, .val (.long re), .second, .val (.long sh), .second, rv b30, rv b39, iv en, rv kb, rv b58, iv mm, .unset] [(.int (1 : Int32)), (.int mm), (.ref b58)])) rfl rfl (hb hby at_481)
                have V_b58 : Arv Z h84 b58 k58 .int (4 : Int32) [(.int (own_sl mm 0 (1 : Int32) e0_)), (.int (own_sl mm 1 (1 : Int32) e1_)), (.int (own_sl mm 2 (1 : Int32) e2_)), (.int (own_sl mm 3 (1 : Int32) e3_))] (.int (0 : Int32)) := by
                  have q := Arv.set Ar84 qa84 Sa84 Na84 Ha84 Ga84 rfl W84 _ rfl (own_lt4 ⟨hn0, Int.lt_of_le_of_lt hni (by decide)⟩)
                  rw [own_set4 ⟨hn0, Int.lt_of_le_of_lt hni (by decide)⟩] at q
                  exact q
                replace V_b30 := V_b30.other W84 ne_b30_b58
                replace Ekb := Ekb.wr W84
                replace Fkb := Fkb.other W84 (Or.inl ne_kb_b58)
                replace Vnd := Vnd.other W84 ne_nd_b58
                replace Z0 := Nat.le_trans Z0 (Keep.of_wr W84).1
                replace N0 := Fr.snoc X84 N0 g_b58
                refine own_st st84 ?_
                show own_Go p e below G (T84.setTop (mkF m 482 #[iv x0, iv x1, iv x2, iv x3, .val (.long x4), .second, iv x5, rv b1, iv fr, iv ro, iv rvx, rv b6, rv b11, .val (.long re), .second, .val (.long sh), .second, rv b30, rv b39, iv en, rv kb, rv b58, iv mm, .unset] []))
                refine own_st (fun t k => XS.iinc X84.here hx rfl (hb hby at_482) rfl (l' := #[iv x0, iv x1, iv x2, iv x3, .val (.long x4), .second, iv x5, rv b1, iv fr, iv ro, iv rvx, rv b6, rv b11, .val (.long re), .second, .val (.long sh), .second, rv b30, rv b39, iv en, rv kb, rv b58, iv (mm + (1 : Int32)), .unset]) rfl k) ?_
                show own_Go p e below G (T84.setTop (mkF m 485 #[iv x0, iv x1, iv x2, iv x3, .val (.long x4), .second, iv x5, rv b1, iv fr, iv ro, iv rvx, rv b6, rv b11, .val (.long re), .second, .val (.long sh), .second, rv b30, rv b39, iv en, rv kb, rv b58, iv (mm + (1 : Int32)), .unset] []))
                exact J485 (mm + (1 : Int32)) (own_sl mm 0 (1 : Int32) e0_) (own_sl mm 1 (1 : Int32) e1_) (own_sl mm 2 (1 : Int32) e2_) (own_sl mm 3 (1 : Int32) e3_) _ _ _ X84 e84 N0 Z0 V_b30 Ekb Fkb Vnd V_b58 (by rw [own_inc hn0 (Int.lt_of_le_of_lt hni (by decide))]; omega) (by rw [own_inc hn0 (Int.lt_of_le_of_lt hni (by decide))]; omega) (by rw [← hsm]; exact (if_pos c473_83).symm)
              · skip
                refine own_st (fun t k => XS.ifYes X82.here hx rfl (pc0 := 473) (pc' := 485) rfl (hb hby at_473) rfl ((if0 _ _).trans (feq c473_83).2) (by decide) (by decide) k) ?_
                show own_Go p e below G (T82.setTop (mkF m 485 #[iv x0, iv x1, iv x2, iv x3, .val (.long x4), .second, iv x5, rv b1, iv fr, iv ro, iv rvx, rv b6, rv b11, .val (.long re), .second, .val (.long sh), .second, rv b30, rv b39, iv en, rv kb, rv b58, iv mm, .unset] []))
                exact J485 mm e0_ e1_ e2_ e3_ _ _ _ X82 e82 N0 Z0 V_b30 Ekb Fkb Vnd V_b58 hn0 (Int.le_trans hni (by decide)) (by rw [← hsm]; exact (if_neg c473_83).symm)
            have J439 : ∀ (mm e0_ e1_ e2_ e3_ : Int32) (Tj : State) (hj : Heap) (Lj : List Loc), Stand p l e room_1 s m #[(.int x0), (.int x1), (.int x2), (.int x3), (.long x4), (.int x5)] below meth c Tj Lj 17 59 → Tj.heap = hj → Fr n0 Lj → n0 ≤ hj.size → Arv Z hj b30 k30 .int (4 : Int32) [(.int (own_iv o0 o1 o2 o3 (0 : Int32))), (.int (own_iv o0 o1 o2 o3 (1 : Int32))), (.int (own_iv o0 o1 o2 o3 (2 : Int32))), (.int (own_iv o0 o1 o2 o3 (3 : Int32)))] (.int (0 : Int32)) → Exa Z hj kb "com/example/thinleaf/thinleaf/core/index/Postings" → Fld Z hj kb "com/example/thinleaf/thinleaf/core/index/Postings" "documents" "[I" (.ref nd) → Arv Z hj nd kn .int nn [(.int z0), (.int z1), (.int z2), (.int z3)] (.int (0 : Int32)) → Arv Z hj b58 k58 .int (4 : Int32) [(.int e0_), (.int e1_), (.int e2_), (.int e3_)] (.int (0 : Int32)) → 0 ≤ mm.toInt → mm.toInt ≤ 0 → (mm, e0_, e1_, e2_, e3_) = ((0 : Int32), (0 : Int32), (0 : Int32), (0 : Int32), (0 : Int32)) → own_Go p e below G (Tj.setTop (mkF m 439 #[iv x0, iv x1, iv x2, iv x3, .val (.long x4), .second, iv x5, rv b1, iv fr, iv ro, iv rvx, rv b6, rv b11, .val (.long re), .second, .val (.long sh), .second, rv b30, rv b39, iv en, rv kb, rv b58, iv mm, .unset] [])) := by
              intro mm e0_ e1_ e2_ e3_ Tj hj Lj Xj ej N0 Z0 V_b30 Ekb Fkb Vnd V_b58 hn0 hni hsm
              show own_Go p e below G (Tj.setTop (mkF m 439 #[iv x0, iv x1, iv x2, iv x3, .val (.long x4), .second, iv x5, rv b1, iv fr, iv ro, iv rvx, rv b6, rv b11, .val (.long re), .second, .val (.long sh), .second, rv b30, rv b39, iv en, rv kb, rv b58, iv mm, .unset] []))
              refine own_st (fun t k => XS.aload Xj.here hx rfl (hb hby at_439) rfl rfl  k) ?_
              refine own_st (fun t k => XS.iconst Xj.here hx rfl (hb hby at_441) k) ?_
              show own_Go p e below G (Tj.setTop (mkF m 442 #[iv x0, iv x1, iv x2, iv x3, .val (.long x4), .second, iv x5, rv b1, iv fr, iv ro, iv rvx, rv b6, rv b11, .val (.long re), .second, .val (.long sh), .second, rv b30, rv b39, iv en, rv kb, rv b58, iv mm, .unset] [(.int (0 : Int32)), (.ref b30)]))
              have Vc85 := V_b30
              obtain ⟨cl85, Ar85, -, Sa85, -, Ha85, -⟩ := Vc85
              have hin85 : ¬ ((0 : Int32) < 0 ∨ cl85.slots.size ≤ ((0 : Int32)).toNatClampNeg) := inb_of Sa85 ⟨by decide, by decide⟩
              refine own_st (fun t k => Xj.iaload hx (j := (0 : Int32)) (v := (.int (own_iv o0 o1 o2 o3 (0 : Int32)))) (by rw [ej]; exact Ar85.1) (State.isArrayOf_alike hZ.alike Ar85.2.1) Ar85.2.2 hin85 (Ha85.at hin85 rfl) (g := (mkF m 442 #[iv x0, iv x1, iv x2, iv x3, .val (.long x4), .second, iv x5, rv b1, iv fr, iv ro, iv rvx, rv b6, rv b11, .val (.long re), .second, .val (.long sh), .second, rv b30, rv b39, iv en, rv kb, rv b58, iv mm, .unset] [(.int (0 : Int32)), (.ref b30)])) rfl rfl (hb hby at_442) t k) ?_
              show own_Go p e below G (Tj.setTop (mkF m 443 #[iv x0, iv x1, iv x2, iv x3, .val (.long x4), .second, iv x5, rv b1, iv fr, iv ro, iv rvx, rv b6, rv b11, .val (.long re), .second, .val (.long sh), .second, rv b30, rv b39, iv en, rv kb, rv b58, iv mm, .unset] [(.int (own_iv o0 o1 o2 o3 (0 : Int32)))]))
              refine own_st (fun t k => XS.iload Xj.here hx rfl (hb hby at_443) rfl  k) ?_
              refine own_st (fun t k => XS.iload Xj.here hx rfl (hb hby at_445) rfl  k) ?_
              show own_Go p e below G (Tj.setTop (mkF m 447 #[iv x0, iv x1, iv x2, iv x3, .val (.long x4), .second, iv x5, rv b1, iv fr, iv ro, iv rvx, rv b6, rv b11, .val (.long re), .second, .val (.long sh), .second, rv b30, rv b39, iv en, rv kb, rv b58, iv mm, .unset] [(.int en), (.int fr), (.int (own_iv o0 o1 o2 o3 (0 : Int32)))]))
              obtain ⟨v86, T86, L86, X86, Q86, st86⟩ := own_callS Xj hx hZ (y := (⟨"com/example/thinleaf/thinleaf/prune/DocumentCutRemovePinLaw", "goes", "(III)Z"⟩ : MethodName)) hown (hw _ (List.mem_of_getElem? (i := 105) rfl)) (hw _ (List.mem_of_getElem? (i := 106) rfl)) (hw _ (List.mem_of_getElem? (i := 107) rfl)) (hw _ (List.mem_of_getElem? (i := 108) rfl)) (by decide) (W := 0) (rm12 l Z a0 hw (own_iv o0 o1 o2 o3 (0 : Int32)) fr en hj) (by decide) (by decide) ej (g := (mkF m 447 #[iv x0, iv x1, iv x2, iv x3, .val (.long x4), .second, iv x5, rv b1, iv fr, iv ro, iv rvx, rv b6, rv b11, .val (.long re), .second, .val (.long sh), .second, rv b30, rv b39, iv en, rv kb, rv b58, iv mm, .unset] [(.int en), (.int fr), (.int (own_iv o0 o1 o2 o3 (0 : Int32)))])) rfl (by rw [hml]; rfl) (argsL := [(.int (own_iv o0 o1 o2 o3 (0 : Int32))), (.int fr), (.int en)]) (rest := []) own_pd12 rfl rfl (by show 2 * 0 + _ ≤ _; exact Nat.le_of_eq rfl) (hb hby at_447) rfl (by decide) (by decide)
              obtain ⟨rfl, rfl, e86⟩ := Q86
              simp only [List.append_nil, Nat.add_zero] at X86
              refine own_st st86 ?_
              rw [show own_go (own_iv o0 o1 o2 o3 (0 : Int32)) fr en = c0 from hc0.symm]
              show own_Go p e below G (T86.setTop (mkF m 450 #[iv x0, iv x1, iv x2, iv x3, .val (.long x4), .second, iv x5, rv b1, iv fr, iv ro, iv rvx, rv b6, rv b11, .val (.long re), .second, .val (.long sh), .second, rv b30, rv b39, iv en, rv kb, rv b58, iv mm, .unset] [(.int c0)]))
              by_cases c450_87 : c0 = (0 : Int32)
              · skip
                refine own_st (fun t k => XS.ifNo X86.here hx rfl (hb hby at_450) rfl ((if0 _ _).trans (teq c450_87).2) k) ?_
                show own_Go p e below G (T86.setTop (mkF m 453 #[iv x0, iv x1, iv x2, iv x3, .val (.long x4), .second, iv x5, rv b1, iv fr, iv ro, iv rvx, rv b6, rv b11, .val (.long re), .second, .val (.long sh), .second, rv b30, rv b39, iv en, rv kb, rv b58, iv mm, .unset] []))
                refine own_st (fun t k => XS.aload X86.here hx rfl (hb hby at_453) rfl rfl  k) ?_
                refine own_st (fun t k => XS.iload X86.here hx rfl (hb hby at_455) rfl  k) ?_
                refine own_st (fun t k => XS.iconst X86.here hx rfl (hb hby at_457) k) ?_
                show own_Go p e below G (T86.setTop (mkF m 458 #[iv x0, iv x1, iv x2, iv x3, .val (.long x4), .second, iv x5, rv b1, iv fr, iv ro, iv rvx, rv b6, rv b11, .val (.long re), .second, .val (.long sh), .second, rv b30, rv b39, iv en, rv kb, rv b58, iv mm, .unset] [(.int (0 : Int32)), (.int mm), (.ref b58)]))
                obtain ⟨cl88, Ar88, qa88, Sa88, Na88, Ha88, Ga88⟩ := V_b58
                have hin88 : ¬ (mm < 0 ∨ cl88.slots.size ≤ (mm).toNatClampNeg) := inb_of Sa88 (own_bd4 ⟨hn0, Int.lt_of_le_of_lt hni (by decide)⟩)
                obtain ⟨T88, h88, X88, e88, W88, st88⟩ := stI X86 hx hZ e86 Ar88 (j := mm) hin88 (g := (mkF m 458 #[iv x0, iv x1, iv x2, iv x3, .val (.long x4), .second, iv x5, rv b1, iv fr, iv ro, iv rvx, rv b6, rv b11, .val (.long re), .second, .val (.long sh), .second, rv b30, rv b39, iv en, rv kb, rv b58, iv mm, .unset] [(.int (0 : Int32)), (.int mm), (.ref b58)])) rfl rfl (hb hby at_458)
                have V_b58 : Arv Z h88 b58 k58 .int (4 : Int32) [(.int (own_sl mm 0 (0 : Int32) e0_)), (.int (own_sl mm 1 (0 : Int32) e1_)), (.int (own_sl mm 2 (0 : Int32) e2_)), (.int (own_sl mm 3 (0 : Int32) e3_))] (.int (0 : Int32)) := by
                  have q := Arv.set Ar88 qa88 Sa88 Na88 Ha88 Ga88 rfl W88 _ rfl (own_lt4 ⟨hn0, Int.lt_of_le_of_lt hni (by decide)⟩)
                  rw [own_set4 ⟨hn0, Int.lt_of_le_of_lt hni (by decide)⟩] at q
                  exact q
                replace V_b30 := V_b30.other W88 ne_b30_b58
                replace Ekb := Ekb.wr W88
                replace Fkb := Fkb.other W88 (Or.inl ne_kb_b58)
                replace Vnd := Vnd.other W88 ne_nd_b58
                replace Z0 := Nat.le_trans Z0 (Keep.of_wr W88).1
                replace N0 := Fr.snoc X88 N0 g_b58
                refine own_st st88 ?_
                show own_Go p e below G (T88.setTop (mkF m 459 #[iv x0, iv x1, iv x2, iv x3, .val (.long x4), .second, iv x5, rv b1, iv fr, iv ro, iv rvx, rv b6, rv b11, .val (.long re), .second, .val (.long sh), .second, rv b30, rv b39, iv en, rv kb, rv b58, iv mm, .unset] []))
                refine own_st (fun t k => XS.iinc X88.here hx rfl (hb hby at_459) rfl (l' := #[iv x0, iv x1, iv x2, iv x3, .val (.long x4), .second, iv x5, rv b1, iv fr, iv ro, iv rvx, rv b6, rv b11, .val (.long re), .second, .val (.long sh), .second, rv b30, rv b39, iv en, rv kb, rv b58, iv (mm + (1 : Int32)), .unset]) rfl k) ?_
                show own_Go p e below G (T88.setTop (mkF m 462 #[iv x0, iv x1, iv x2, iv x3, .val (.long x4), .second, iv x5, rv b1, iv fr, iv ro, iv rvx, rv b6, rv b11, .val (.long re), .second, .val (.long sh), .second, rv b30, rv b39, iv en, rv kb, rv b58, iv (mm + (1 : Int32)), .unset] []))
                exact J462 (mm + (1 : Int32)) (own_sl mm 0 (0 : Int32) e0_) (own_sl mm 1 (0 : Int32) e1_) (own_sl mm 2 (0 : Int32) e2_) (own_sl mm 3 (0 : Int32) e3_) _ _ _ X88 e88 N0 Z0 V_b30 Ekb Fkb Vnd V_b58 (by rw [own_inc hn0 (Int.lt_of_le_of_lt hni (by decide))]; omega) (by rw [own_inc hn0 (Int.lt_of_le_of_lt hni (by decide))]; omega) (by rw [← hsm]; exact (if_pos c450_87).symm)
              · skip
                refine own_st (fun t k => XS.ifYes X86.here hx rfl (pc0 := 450) (pc' := 462) rfl (hb hby at_450) rfl ((if0 _ _).trans (feq c450_87).2) (by decide) (by decide) k) ?_
                show own_Go p e below G (T86.setTop (mkF m 462 #[iv x0, iv x1, iv x2, iv x3, .val (.long x4), .second, iv x5, rv b1, iv fr, iv ro, iv rvx, rv b6, rv b11, .val (.long re), .second, .val (.long sh), .second, rv b30, rv b39, iv en, rv kb, rv b58, iv mm, .unset] []))
                exact J462 mm e0_ e1_ e2_ e3_ _ _ _ X86 e86 N0 Z0 V_b30 Ekb Fkb Vnd V_b58 hn0 (Int.le_trans hni (by decide)) (by rw [← hsm]; exact (if_neg c450_87).symm)
            exact J439 (0 : Int32) (0 : Int32) (0 : Int32) (0 : Int32) (0 : Int32) _ _ _ X58 e58 N0 Z0 V_b30 Ekb Fkb Vnd V_b58 (by decide) (by decide) rfl
          by_cases c347_89 : fr < en
          · skip
            refine own_st (fun t k => XS.icmpNo X41.here hx rfl (hb hby at_347) rfl (tlt c347_89).2.2.2 k) ?_
            show own_Go p e below G (T41.setTop (mkF m 350 #[iv x0, iv x1, iv x2, iv x3, .val (.long x4), .second, iv x5, rv b1, iv fr, iv ro, iv rvx, rv b6, rv b11, .val (.long re), .second, .val (.long sh), .second, rv b30, rv b39, iv en, .unset, .unset, .unset, .unset] []))
            have hlt : fr.toInt < en.toInt := Int32.lt_iff_toInt_lt.mp c347_89
            have hee := own_dec (t := en) (Int.lt_of_le_of_lt hfr.1 hlt) he4
            have hed : 0 ≤ (en - (1 : Int32)).toInt ∧ (en - (1 : Int32)).toInt ≤ 4 := by have := hfr.1; omega
            refine own_st (fun t k => XS.aload X41.here hx rfl (hb hby at_350) rfl rfl  k) ?_
            refine own_st (fun t k => XS.iload X41.here hx rfl (hb hby at_352) rfl  k) ?_
            refine own_st (fun t k => XS.iconst X41.here hx rfl (hb hby at_354) k) ?_
            show own_Go p e below G (T41.setTop (mkF m 355 #[iv x0, iv x1, iv x2, iv x3, .val (.long x4), .second, iv x5, rv b1, iv fr, iv ro, iv rvx, rv b6, rv b11, .val (.long re), .second, .val (.long sh), .second, rv b30, rv b39, iv en, .unset, .unset, .unset, .unset] [(.int (1 : Int32)), (.int en), (.ref b11)]))
            refine own_st (fun t k => XS.isub X41.here hx rfl (hb hby at_355) rfl k) ?_
            show own_Go p e below G (T41.setTop (mkF m 356 #[iv x0, iv x1, iv x2, iv x3, .val (.long x4), .second, iv x5, rv b1, iv fr, iv ro, iv rvx, rv b6, rv b11, .val (.long re), .second, .val (.long sh), .second, rv b30, rv b39, iv en, .unset, .unset, .unset, .unset] [(.int (en - (1 : Int32))), (.ref b11)]))
            have Vc90 := V_b11
            obtain ⟨cl90, Ar90, -, Sa90, -, Ha90, -⟩ := Vc90
            have hin90 : ¬ ((en - (1 : Int32)) < 0 ∨ cl90.slots.size ≤ ((en - (1 : Int32))).toNatClampNeg) := inb_of Sa90 (own_bd5 hed)
            refine own_st (fun t k => X41.laload hx (j := (en - (1 : Int32))) (v := (.long (own_p5 (en - (1 : Int32)) (0 : Int64) ((0 : Int64) + (q0.toInt64)) (((0 : Int64) + (q0.toInt64)) + (q1.toInt64)) ((((0 : Int64) + (q0.toInt64)) + (q1.toInt64)) + (q2.toInt64)) (((((0 : Int64) + (q0.toInt64)) + (q1.toInt64)) + (q2.toInt64)) + (q3.toInt64))))) (by exact Ar90.1) (State.isArrayOf_alike hZ.alike Ar90.2.1) Ar90.2.2 hin90 (Ha90.at hin90 (own_at5 hed)) (g := (mkF m 356 #[iv x0, iv x1, iv x2, iv x3, .val (.long x4), .second, iv x5, rv b1, iv fr, iv ro, iv rvx, rv b6, rv b11, .val (.long re), .second, .val (.long sh), .second, rv b30, rv b39, iv en, .unset, .unset, .unset, .unset] [(.int (en - (1 : Int32))), (.ref b11)])) rfl rfl (hb hby at_356) t k) ?_
            have tpd := own_p5T hqn0 hqn1 hqn2 hqn3 (j := (en - (1 : Int32))) hed
            generalize hpd : (own_p5 (en - (1 : Int32)) (0 : Int64) ((0 : Int64) + (q0.toInt64)) (((0 : Int64) + (q0.toInt64)) + (q1.toInt64)) ((((0 : Int64) + (q0.toInt64)) + (q1.toInt64)) + (q2.toInt64)) (((((0 : Int64) + (q0.toInt64)) + (q1.toInt64)) + (q2.toInt64)) + (q3.toInt64))) = pd at tpd ⊢
            show own_Go p e below G (T41.setTop (mkF m 357 #[iv x0, iv x1, iv x2, iv x3, .val (.long x4), .second, iv x5, rv b1, iv fr, iv ro, iv rvx, rv b6, rv b11, .val (.long re), .second, .val (.long sh), .second, rv b30, rv b39, iv en, .unset, .unset, .unset, .unset] [(.long pd)]))
            refine own_st (fun t k => XS.aload X41.here hx rfl (hb hby at_357) rfl rfl  k) ?_
            refine own_st (fun t k => XS.iload X41.here hx rfl (hb hby at_359) rfl  k) ?_
            show own_Go p e below G (T41.setTop (mkF m 361 #[iv x0, iv x1, iv x2, iv x3, .val (.long x4), .second, iv x5, rv b1, iv fr, iv ro, iv rvx, rv b6, rv b11, .val (.long re), .second, .val (.long sh), .second, rv b30, rv b39, iv en, .unset, .unset, .unset, .unset] [(.int fr), (.ref b11), (.long pd)]))
            have Vc91 := V_b11
            obtain ⟨cl91, Ar91, -, Sa91, -, Ha91, -⟩ := Vc91
            have hin91 : ¬ (fr < 0 ∨ cl91.slots.size ≤ (fr).toNatClampNeg) := inb_of Sa91 (own_bd5 hfr)
            refine own_st (fun t k => X41.laload hx (j := fr) (v := (.long (own_p5 fr (0 : Int64) ((0 : Int64) + (q0.toInt64)) (((0 : Int64) + (q0.toInt64)) + (q1.toInt64)) ((((0 : Int64) + (q0.toInt64)) + (q1.toInt64)) + (q2.toInt64)) (((((0 : Int64) + (q0.toInt64)) + (q1.toInt64)) + (q2.toInt64)) + (q3.toInt64))))) (by exact Ar91.1) (State.isArrayOf_alike hZ.alike Ar91.2.1) Ar91.2.2 hin91 (Ha91.at hin91 (own_at5 hfr)) (g := (mkF m 361 #[iv x0, iv x1, iv x2, iv x3, .val (.long x4), .second, iv x5, rv b1, iv fr, iv ro, iv rvx, rv b6, rv b11, .val (.long re), .second, .val (.long sh), .second, rv b30, rv b39, iv en, .unset, .unset, .unset, .unset] [(.int fr), (.ref b11), (.long pd)])) rfl rfl (hb hby at_361) t k) ?_
            rw [hpf]
            show own_Go p e below G (T41.setTop (mkF m 362 #[iv x0, iv x1, iv x2, iv x3, .val (.long x4), .second, iv x5, rv b1, iv fr, iv ro, iv rvx, rv b6, rv b11, .val (.long re), .second, .val (.long sh), .second, rv b30, rv b39, iv en, .unset, .unset, .unset, .unset] [(.long pf), (.long pd)]))
            refine own_st (fun t k => XS.lsub X41.here hx rfl (hb hby at_362) rfl k) ?_
            show own_Go p e below G (T41.setTop (mkF m 363 #[iv x0, iv x1, iv x2, iv x3, .val (.long x4), .second, iv x5, rv b1, iv fr, iv ro, iv rvx, rv b6, rv b11, .val (.long re), .second, .val (.long sh), .second, rv b30, rv b39, iv en, .unset, .unset, .unset, .unset] [(.long (pd - pf))]))
            refine own_st (fun t k => XS.lload X41.here hx rfl (hb hby at_363) rfl  k) ?_
            show own_Go p e below G (T41.setTop (mkF m 365 #[iv x0, iv x1, iv x2, iv x3, .val (.long x4), .second, iv x5, rv b1, iv fr, iv ro, iv rvx, rv b6, rv b11, .val (.long re), .second, .val (.long sh), .second, rv b30, rv b39, iv en, .unset, .unset, .unset, .unset] [(.long sh), (.long (pd - pf))]))
            refine own_st (fun t k => XS.lcmp X41.here hx rfl (hb hby at_365) rfl k) ?_
            show own_Go p e below G (T41.setTop (mkF m 366 #[iv x0, iv x1, iv x2, iv x3, .val (.long x4), .second, iv x5, rv b1, iv fr, iv ro, iv rvx, rv b6, rv b11, .val (.long re), .second, .val (.long sh), .second, rv b30, rv b39, iv en, .unset, .unset, .unset, .unset] [(.int (lcmpW (pd - pf) sh))]))
            refine own_st (fun t k => XS.ifYes X41.here hx rfl (pc0 := 366) (pc' := 371) rfl (hb hby at_366) rfl ((if0 _ _).trans (tlt ((lw_lt _ _).2 (own_ltL (by rw [own_subL (tpd.trans (by rw [hee])) tpf ⟨(bT (en.toInt - 1)).1, (bT (en.toInt - 1)).2.1⟩ ⟨(bT fr.toInt).1, (bT fr.toInt).2.1⟩]; exact hT2 hlt)))).1) (by decide) (by decide) k) ?_
            show own_Go p e below G (T41.setTop (mkF m 371 #[iv x0, iv x1, iv x2, iv x3, .val (.long x4), .second, iv x5, rv b1, iv fr, iv ro, iv rvx, rv b6, rv b11, .val (.long re), .second, .val (.long sh), .second, rv b30, rv b39, iv en, .unset, .unset, .unset, .unset] []))
            exact J371 trivial
          · skip
            refine own_st (fun t k => XS.icmpYes X41.here hx rfl (pc0 := 347) (pc' := 371) rfl (hb hby at_347) rfl (flt c347_89).2.2.2 (by decide) (by decide) k) ?_
            show own_Go p e below G (T41.setTop (mkF m 371 #[iv x0, iv x1, iv x2, iv x3, .val (.long x4), .second, iv x5, rv b1, iv fr, iv ro, iv rvx, rv b6, rv b11, .val (.long re), .second, .val (.long sh), .second, rv b30, rv b39, iv en, .unset, .unset, .unset, .unset] []))
            exact J371 trivial
        by_cases c131_92 : rvx = (0 : Int32)
        · skip
          refine own_st (fun t k => XS.ifYes X9.here hx rfl (pc0 := 131) (pc' := 143) rfl (hb hby at_131) rfl ((if0 _ _).trans (teq c131_92).1) (by decide) (by decide) k) ?_
          show own_Go p e below G (T9.setTop (mkF m 143 #[iv x0, iv x1, iv x2, iv x3, .val (.long x4), .second, iv x5, rv b1, iv fr, iv ro, iv rvx, rv b6, .unset, .unset, .unset, .unset, .unset, .unset, .unset, .unset, .unset, .unset, .unset, .unset] [(.int (3 : Int32)), (.ref b6)]))
          refine own_st (fun t k => XS.iload X9.here hx rfl (hb hby at_143) rfl  k) ?_
          refine own_st (fun t k => XS.iconst X9.here hx rfl (hb hby at_145) k) ?_
          refine own_st (fun t k => XS.iadd X9.here hx rfl (hb hby at_146) rfl k) ?_
          show own_Go p e below G (T9.setTop (mkF m 147 #[iv x0, iv x1, iv x2, iv x3, .val (.long x4), .second, iv x5, rv b1, iv fr, iv ro, iv rvx, rv b6, .unset, .unset, .unset, .unset, .unset, .unset, .unset, .unset, .unset, .unset, .unset, .unset] [(.int (ro + (3 : Int32))), (.int (3 : Int32)), (.ref b6)]))
          refine own_st (fun t k => XS.iconst X9.here hx rfl (hb hby at_147) k) ?_
          refine own_st (fun t k => XS.iand X9.here hx rfl (hb hby at_148) rfl k) ?_
          show own_Go p e below G (T9.setTop (mkF m 149 #[iv x0, iv x1, iv x2, iv x3, .val (.long x4), .second, iv x5, rv b1, iv fr, iv ro, iv rvx, rv b6, .unset, .unset, .unset, .unset, .unset, .unset, .unset, .unset, .unset, .unset, .unset, .unset] [(.int ((ro + (3 : Int32)) &&& (3 : Int32))), (.int (3 : Int32)), (.ref b6)]))
          exact J149 _ (if_pos c131_92).symm
        · skip
          refine own_st (fun t k => XS.ifNo X9.here hx rfl (hb hby at_131) rfl ((if0 _ _).trans (feq c131_92).1) k) ?_
          show own_Go p e below G (T9.setTop (mkF m 134 #[iv x0, iv x1, iv x2, iv x3, .val (.long x4), .second, iv x5, rv b1, iv fr, iv ro, iv rvx, rv b6, .unset, .unset, .unset, .unset, .unset, .unset, .unset, .unset, .unset, .unset, .unset, .unset] [(.int (3 : Int32)), (.ref b6)]))
          refine own_st (fun t k => XS.iload X9.here hx rfl (hb hby at_134) rfl  k) ?_
          refine own_st (fun t k => XS.iconst X9.here hx rfl (hb hby at_136) k) ?_
          refine own_st (fun t k => XS.isub X9.here hx rfl (hb hby at_137) rfl k) ?_
          show own_Go p e below G (T9.setTop (mkF m 138 #[iv x0, iv x1, iv x2, iv x3, .val (.long x4), .second, iv x5, rv b1, iv fr, iv ro, iv rvx, rv b6, .unset, .unset, .unset, .unset, .unset, .unset, .unset, .unset, .unset, .unset, .unset, .unset] [(.int (ro - (3 : Int32))), (.int (3 : Int32)), (.ref b6)]))
          refine own_st (fun t k => XS.iconst X9.here hx rfl (hb hby at_138) k) ?_
          refine own_st (fun t k => XS.iand X9.here hx rfl (hb hby at_139) rfl k) ?_
          refine own_st (fun t k => XS.goto X9.here hx rfl (pc0 := 140) (pc' := 149) rfl (hb hby at_140) (by decide) (by decide) k) ?_
          show own_Go p e below G (T9.setTop (mkF m 149 #[iv x0, iv x1, iv x2, iv x3, .val (.long x4), .second, iv x5, rv b1, iv fr, iv ro, iv rvx, rv b6, .unset, .unset, .unset, .unset, .unset, .unset, .unset, .unset, .unset, .unset, .unset, .unset] [(.int ((ro - (3 : Int32)) &&& (3 : Int32))), (.int (3 : Int32)), (.ref b6)]))
          exact J149 _ (if_neg c131_92).symm
      by_cases c107_93 : rvx = (0 : Int32)
      · skip
        refine own_st (fun t k => XS.ifYes X8.here hx rfl (pc0 := 107) (pc' := 119) rfl (hb hby at_107) rfl ((if0 _ _).trans (teq c107_93).1) (by decide) (by decide) k) ?_
        show own_Go p e below G (T8.setTop (mkF m 119 #[iv x0, iv x1, iv x2, iv x3, .val (.long x4), .second, iv x5, rv b1, iv fr, iv ro, iv rvx, rv b6, .unset, .unset, .unset, .unset, .unset, .unset, .unset, .unset, .unset, .unset, .unset, .unset] [(.int (2 : Int32)), (.ref b6)]))
        refine own_st (fun t k => XS.iload X8.here hx rfl (hb hby at_119) rfl  k) ?_
        refine own_st (fun t k => XS.iconst X8.here hx rfl (hb hby at_121) k) ?_
        refine own_st (fun t k => XS.iadd X8.here hx rfl (hb hby at_122) rfl k) ?_
        show own_Go p e below G (T8.setTop (mkF m 123 #[iv x0, iv x1, iv x2, iv x3, .val (.long x4), .second, iv x5, rv b1, iv fr, iv ro, iv rvx, rv b6, .unset, .unset, .unset, .unset, .unset, .unset, .unset, .unset, .unset, .unset, .unset, .unset] [(.int (ro + (2 : Int32))), (.int (2 : Int32)), (.ref b6)]))
        refine own_st (fun t k => XS.iconst X8.here hx rfl (hb hby at_123) k) ?_
        refine own_st (fun t k => XS.iand X8.here hx rfl (hb hby at_124) rfl k) ?_
        show own_Go p e below G (T8.setTop (mkF m 125 #[iv x0, iv x1, iv x2, iv x3, .val (.long x4), .second, iv x5, rv b1, iv fr, iv ro, iv rvx, rv b6, .unset, .unset, .unset, .unset, .unset, .unset, .unset, .unset, .unset, .unset, .unset, .unset] [(.int ((ro + (2 : Int32)) &&& (3 : Int32))), (.int (2 : Int32)), (.ref b6)]))
        exact J125 _ (if_pos c107_93).symm
      · skip
        refine own_st (fun t k => XS.ifNo X8.here hx rfl (hb hby at_107) rfl ((if0 _ _).trans (feq c107_93).1) k) ?_
        show own_Go p e below G (T8.setTop (mkF m 110 #[iv x0, iv x1, iv x2, iv x3, .val (.long x4), .second, iv x5, rv b1, iv fr, iv ro, iv rvx, rv b6, .unset, .unset, .unset, .unset, .unset, .unset, .unset, .unset, .unset, .unset, .unset, .unset] [(.int (2 : Int32)), (.ref b6)]))
        refine own_st (fun t k => XS.iload X8.here hx rfl (hb hby at_110) rfl  k) ?_
        refine own_st (fun t k => XS.iconst X8.here hx rfl (hb hby at_112) k) ?_
        refine own_st (fun t k => XS.isub X8.here hx rfl (hb hby at_113) rfl k) ?_
        show own_Go p e below G (T8.setTop (mkF m 114 #[iv x0, iv x1, iv x2, iv x3, .val (.long x4), .second, iv x5, rv b1, iv fr, iv ro, iv rvx, rv b6, .unset, .unset, .unset, .unset, .unset, .unset, .unset, .unset, .unset, .unset, .unset, .unset] [(.int (ro - (2 : Int32))), (.int (2 : Int32)), (.ref b6)]))
        refine own_st (fun t k => XS.iconst X8.here hx rfl (hb hby at_114) k) ?_
        refine own_st (fun t k => XS.iand X8.here hx rfl (hb hby at_115) rfl k) ?_
        refine own_st (fun t k => XS.goto X8.here hx rfl (pc0 := 116) (pc' := 125) rfl (hb hby at_116) (by decide) (by decide) k) ?_
        show own_Go p e below G (T8.setTop (mkF m 125 #[iv x0, iv x1, iv x2, iv x3, .val (.long x4), .second, iv x5, rv b1, iv fr, iv ro, iv rvx, rv b6, .unset, .unset, .unset, .unset, .unset, .unset, .unset, .unset, .unset, .unset, .unset, .unset] [(.int ((ro - (2 : Int32)) &&& (3 : Int32))), (.int (2 : Int32)), (.ref b6)]))
        exact J125 _ (if_neg c107_93).symm
    by_cases c83_94 : rvx = (0 : Int32)
    · skip
      refine own_st (fun t k => XS.ifYes X7.here hx rfl (pc0 := 83) (pc' := 95) rfl (hb hby at_83) rfl ((if0 _ _).trans (teq c83_94).1) (by decide) (by decide) k) ?_
      show own_Go p e below G (T7.setTop (mkF m 95 #[iv x0, iv x1, iv x2, iv x3, .val (.long x4), .second, iv x5, rv b1, iv fr, iv ro, iv rvx, rv b6, .unset, .unset, .unset, .unset, .unset, .unset, .unset, .unset, .unset, .unset, .unset, .unset] [(.int (1 : Int32)), (.ref b6)]))
      refine own_st (fun t k => XS.iload X7.here hx rfl (hb hby at_95) rfl  k) ?_
      refine own_st (fun t k => XS.iconst X7.here hx rfl (hb hby at_97) k) ?_
      refine own_st (fun t k => XS.iadd X7.here hx rfl (hb hby at_98) rfl k) ?_
      show own_Go p e below G (T7.setTop (mkF m 99 #[iv x0, iv x1, iv x2, iv x3, .val (.long x4), .second, iv x5, rv b1, iv fr, iv ro, iv rvx, rv b6, .unset, .unset, .unset, .unset, .unset, .unset, .unset, .unset, .unset, .unset, .unset, .unset] [(.int (ro + (1 : Int32))), (.int (1 : Int32)), (.ref b6)]))
      refine own_st (fun t k => XS.iconst X7.here hx rfl (hb hby at_99) k) ?_
      refine own_st (fun t k => XS.iand X7.here hx rfl (hb hby at_100) rfl k) ?_
      show own_Go p e below G (T7.setTop (mkF m 101 #[iv x0, iv x1, iv x2, iv x3, .val (.long x4), .second, iv x5, rv b1, iv fr, iv ro, iv rvx, rv b6, .unset, .unset, .unset, .unset, .unset, .unset, .unset, .unset, .unset, .unset, .unset, .unset] [(.int ((ro + (1 : Int32)) &&& (3 : Int32))), (.int (1 : Int32)), (.ref b6)]))
      exact J101 _ (if_pos c83_94).symm
    · skip
      refine own_st (fun t k => XS.ifNo X7.here hx rfl (hb hby at_83) rfl ((if0 _ _).trans (feq c83_94).1) k) ?_
      show own_Go p e below G (T7.setTop (mkF m 86 #[iv x0, iv x1, iv x2, iv x3, .val (.long x4), .second, iv x5, rv b1, iv fr, iv ro, iv rvx, rv b6, .unset, .unset, .unset, .unset, .unset, .unset, .unset, .unset, .unset, .unset, .unset, .unset] [(.int (1 : Int32)), (.ref b6)]))
      refine own_st (fun t k => XS.iload X7.here hx rfl (hb hby at_86) rfl  k) ?_
      refine own_st (fun t k => XS.iconst X7.here hx rfl (hb hby at_88) k) ?_
      refine own_st (fun t k => XS.isub X7.here hx rfl (hb hby at_89) rfl k) ?_
      show own_Go p e below G (T7.setTop (mkF m 90 #[iv x0, iv x1, iv x2, iv x3, .val (.long x4), .second, iv x5, rv b1, iv fr, iv ro, iv rvx, rv b6, .unset, .unset, .unset, .unset, .unset, .unset, .unset, .unset, .unset, .unset, .unset, .unset] [(.int (ro - (1 : Int32))), (.int (1 : Int32)), (.ref b6)]))
      refine own_st (fun t k => XS.iconst X7.here hx rfl (hb hby at_90) k) ?_
      refine own_st (fun t k => XS.iand X7.here hx rfl (hb hby at_91) rfl k) ?_
      refine own_st (fun t k => XS.goto X7.here hx rfl (pc0 := 92) (pc' := 101) rfl (hb hby at_92) (by decide) (by decide) k) ?_
      show own_Go p e below G (T7.setTop (mkF m 101 #[iv x0, iv x1, iv x2, iv x3, .val (.long x4), .second, iv x5, rv b1, iv fr, iv ro, iv rvx, rv b6, .unset, .unset, .unset, .unset, .unset, .unset, .unset, .unset, .unset, .unset, .unset, .unset] [(.int ((ro - (1 : Int32)) &&& (3 : Int32))), (.int (1 : Int32)), (.ref b6)]))
      exact J101 _ (if_neg c83_94).symm
  by_cases c55_95 : (x5 &&& (32 : Int32)) = (0 : Int32)
  · skip
    refine own_st (fun t k => XS.ifYes X5.here hx rfl (pc0 := 55) (pc' := 62) rfl (hb hby at_55) rfl ((if0 _ _).trans (teq c55_95).1) (by decide) (by decide) k) ?_
    show own_Go p e below G (T5.setTop (mkF m 62 #[iv x0, iv x1, iv x2, iv x3, .val (.long x4), .second, iv x5, rv b1, iv fr, iv ro, .unset, .unset, .unset, .unset, .unset, .unset, .unset, .unset, .unset, .unset, .unset, .unset, .unset, .unset] []))
    refine own_st (fun t k => XS.iconst X5.here hx rfl (hb hby at_62) k) ?_
    show own_Go p e below G (T5.setTop (mkF m 63 #[iv x0, iv x1, iv x2, iv x3, .val (.long x4), .second, iv x5, rv b1, iv fr, iv ro, .unset, .unset, .unset, .unset, .unset, .unset, .unset, .unset, .unset, .unset, .unset, .unset, .unset, .unset] [(.int (0 : Int32))]))
    exact J63 _
  · skip
    refine own_st (fun t k => XS.ifNo X5.here hx rfl (hb hby at_55) rfl ((if0 _ _).trans (feq c55_95).1) k) ?_
    show own_Go p e below G (T5.setTop (mkF m 58 #[iv x0, iv x1, iv x2, iv x3, .val (.long x4), .second, iv x5, rv b1, iv fr, iv ro, .unset, .unset, .unset, .unset, .unset, .unset, .unset, .unset, .unset, .unset, .unset, .unset, .unset, .unset] []))
    refine own_st (fun t k => XS.iconst X5.here hx rfl (hb hby at_58) k) ?_
    refine own_st (fun t k => XS.goto X5.here hx rfl (pc0 := 59) (pc' := 63) rfl (hb hby at_59) (by decide) (by decide) k) ?_
    show own_Go p e below G (T5.setTop (mkF m 63 #[iv x0, iv x1, iv x2, iv x3, .val (.long x4), .second, iv x5, rv b1, iv fr, iv ro, .unset, .unset, .unset, .unset, .unset, .unset, .unset, .unset, .unset, .unset, .unset, .unset, .unset, .unset] [(.int (1 : Int32))]))
    exact J63 _
set_option maxRecDepth 65536 in
set_option maxHeartbeats 40000000 in
theorem comes_1 {Post : Tables → Env → Array Value → State → Outcome → State → Prop} (hpost : ∀ tb e args s v u, (limb_1_1.after args s (.returned v) u = true ∧ limb_1_2.after args s (.returned v) u = true) → FrameEnd s (.returned v) u (Jvm.fieldLocs frame_1_writes args s ++ Jvm.arrayLocs frame_1_arrays args s ++ Jvm.staticLocs frame_1_statics s) 48 192 → Post tb e args s (.returned v) u) :
    ArmFor flags0 classFile x code maxLocals ret World_1 tables_1 room_1 Calls_1 rest_1 Pre_1 Post := by
  intro l hfl _ _ p e ha hc hk s m args below hf hA hF happ hP
  obtain ⟨hcalls, hrest, hpre⟩ := hP
  obtain ⟨-, -, -, hnamed, -, -, -, hat⟩ := (Spec.applies_iff hf).mp happ
  obtain ⟨hg, hn⟩ := and_e (Cond.before_iff.mp (show (Jvm.Cond.and given_1 narrow_1).before args s = true from hpre))
  obtain ⟨gc, gr0⟩ := and_e hg
  obtain ⟨gv0, gr1⟩ := and_e gr0
  obtain ⟨gv1, gr2⟩ := and_e gr1
  obtain ⟨gv2, gr3⟩ := and_e gr2
  obtain ⟨gv3, gr4⟩ := and_e gr3
  obtain ⟨gv4, gv5⟩ := and_e gr4
  obtain ⟨w0, w1, w2, w3, w4, w5, rfl⟩ : ∃ w0 w1 w2 w3 w4 w5 : Value, args = #[w0, w1, w2, w3, w4, w5] := by
    have hs : args.size = 6 := by simpa [Cond.value, given_1] using gc
    obtain ⟨L⟩ := args
    match L, hs with
    | [w0, w1, w2, w3, w4, w5], _ => exact ⟨w0, w1, w2, w3, w4, w5, rfl⟩
  have hw := fun d (hd : d ∈ tables_1) => atoms_spec (ws := Jvm.Cond.code x code maxLocals ret :: tables_1) hat d (List.mem_cons_of_mem _ hd)
  have hfit : Fit s := fun {y c} hc i hi => by
    obtain ⟨ha, rfl⟩ := Array.getElem?_eq_some_iff.mp hc
    have q := List.all_eq_true.mp ((Array.all_eq_true_iff_forall_mem.mp hF) _ (Array.getElem_mem ha)) i (List.mem_range.mpr hi)
    simpa [Array.getElem?_eq_getElem hi] using q
  obtain ⟨i0, ei0⟩ := is_v gv0
  obtain rfl : w0 = (.int i0) := Option.some.inj ei0
  obtain ⟨i1, ei1⟩ := is_v gv1
  obtain rfl : w1 = (.int i1) := Option.some.inj ei1
  obtain ⟨i2, ei2⟩ := is_v gv2
  obtain rfl : w2 = (.int i2) := Option.some.inj ei2
  obtain ⟨i3, ei3⟩ := is_v gv3
  obtain rfl : w3 = (.int i3) := Option.some.inj ei3
  obtain ⟨i4, ei4⟩ := isL_v gv4
  obtain rfl : w4 = (.long i4) := Option.some.inj ei4
  obtain ⟨i5, ei5⟩ := is_v gv5
  obtain rfl : w5 = (.int i5) := Option.some.inj ei5
  obtain ⟨n, o, h1, h2, h3, _, L, rfl, ⟨rfl, N⟩, hq⟩ := rm0 l s _ hw tables_1 i0 i1 i2 i3 i4 i5 s.heap s.heap.size (Nat.le_refl _) p e ha hc hk s m _ below hf ((Spec.applies_iff_loose hf).mp happ).1 ⟨rfl, State.Warmed39.refl s, State.WarmedH.refl s, rfl⟩ trivial
  refine ⟨n, _, h1, h2, h3, hpost _ _ _ _ _ _ ⟨Cond.after_iff.mpr rfl, Cond.after_iff.mpr (eq_i res_at (Term.int_eval (1)) rfl)⟩ ⟨hq.1, hq.2.1, (hq.2.2.sift fun y hy => Or.inr (N y hy)).mono (by decide) (by decide)⟩⟩
theorem main_1_1 : Claimed_1_1 := comes_1 fun _ _ _ _ _ _ h hF => ⟨h.1, Jvm.LamKit.wideOf hF⟩
theorem main_1_2 : Claimed_1_2 := comes_1 fun _ _ _ _ _ _ h hF => ⟨h.2, Jvm.LamKit.wideOf hF⟩
end Jvm.Pilot.@@N@@
namespace Jvm.Pilot.@@N@@
open Jvm Jvm.ClassFile Sem Op Lib Jvm.Free Jvm.Stand Jvm.Pilot.@@N@@.Jvm.D
/-! MADE BY PROGRAM (witnessworld.py) out of the Statement's table words and the real class files: 22 classes; the members and pool entries that the words name. The judged class is class 1, her method 1. -/
namespace start1
open Jvm.ClassFile
def u (s : String) : CpInfo := .utf8 (stringToUtf16 s)
/-- a pool by its gaps: so many unusable entries, then the entry; so many at the end -/
def gap : Nat → List CpInfo → List CpInfo
  | 0, r => r
  | n + 1, r => .unusable :: gap n r
def poolList (es : List (Nat × CpInfo)) (last : Nat) : List CpInfo := es.foldr (fun e r => gap e.1 (e.2 :: r)) (gap last [])
def pool (es : List (Nat × CpInfo)) (last : Nat) : Array CpInfo := ⟨poolList es last⟩
def fileOf (pool : Array CpInfo) (this : Nat) (attrs : Array Attribute := #[]) (ms : Array MethodInfo := #[]) (fl : Nat := 33) (sup : Nat := 0) (ifs : Array Nat := #[]) (fds : Array FieldInfo := #[]) : ClassFile where
  minorVersion := 0
  majorVersion := 65
  constantPool := pool
  accessFlags := fl
  thisClass := this
  superClass := sup
  interfaces := ifs
  fields := fds
  methods := ms
  attributes := attrs
def plain (name : String) (sup : Option ClassId) : Class where
  name := name
  kind := .ordinary
  loader := none
  accessFlags := 33
  super := sup
  interfaces := #[]
  cf := none
  fields := #[]
  methods := #[]
  instanceTypes := #[]
  staticTypes := #[]
  resolved := #[]
  callSites := []
  init := .initialized
  statics := none
  mirror := none

def pool0 : Array CpInfo := pool [(5, u "<init>"), (0, u "()V"), (1, .class_ 10), (1, u "java/lang/Object"), (85, u "clone"), (0, u "()Ljava/lang/Object;")] 26

def k0c0 : Code := { maxStack := 0, maxLocals := 1, code := object_method_1_code, exceptionTable := #[], attributes := #[] }
def k0m0 : Method := { name := "<init>", desc := "()V", sig := { parameters := [], returnType := none }, accessFlags := 1, code := some k0c0 }
def k0m1 : Method := { name := "clone", desc := "()Ljava/lang/Object;", sig := { parameters := [], returnType := some (.object "java/lang/Object") }, accessFlags := 260, code := none }
/-- java/lang/Object -/
def k0 : Class := { plain "java/lang/Object" none with
  accessFlags := 33
  interfaces := #[]
  cf := some (fileOf pool0 8 #[] #[{ accessFlags := 1, nameIndex := 5, descriptorIndex := 6, attributes := #[] }, { accessFlags := 260, nameIndex := 96, descriptorIndex := 97, attributes := #[] }] 33 0 #[] #[])
  fields := #[]
  methods := #[k0m0, k0m1]
  instanceTypes := #[]
  staticTypes := #[]
  resolved := Array.replicate 124 none
  statics := none }

def pool1 : Array CpInfo := pool [(2, .class_ 4), (1, u "java/lang/Object"), (0, u "<init>"), (0, u "()V"), (0, .integer 2147483647), (2, .long 9223372036854775807), (1, .class_ 13), (0, u "com/example/thinleaf/thinleaf/prune/DocumentCut"), (0, .methodref 12 15), (0, .nameAndType 5 16), (0, u "([I)V"), (0, .methodref 12 18), (0, .nameAndType 19 20), (0, u "remove"), (0, u "([IIJ)I"), (0, .methodref 12 22), (0, .nameAndType 23 24), (0, u "keeping"), (0, u "(Ljava/util/Map;)Lcom/example/thinleaf/thinleaf/prune/Selection;"), (0, .class_ 26), (0, u "com/example/thinleaf/thinleaf/core/index/Postings"), (0, .methodref 25 28), (0, .nameAndType 5 29), (0, u "([I[I)V"), (0, .interfaceMethodref 31 32), (0, .class_ 33), (0, .nameAndType 34 35), (0, u "com/example/thinleaf/thinleaf/prune/Selection"), (0, u "keep"), (0, u "(ILcom/example/thinleaf/thinleaf/core/index/LexiconEntry;Lcom/example/thinleaf/thinleaf/core/index/Postings;)Lcom/example/thinleaf/thinleaf/core/index/Postings;"), (0, .methodref 37 38), (0, .class_ 39), (0, .nameAndType 40 41), (0, u "com/example/thinleaf/thinleaf/prune/DocumentCutRemovePinLaw"), (0, u "goes"), (0, u "(III)Z"), (0, .methodref 25 43), (0, .nameAndType 44 45), (0, u "documents"), (0, u "()[I"), (2, u "law"), (0, u "(IIIIJI)Z")] 7

def k1m0 : Method := { name := "<init>", desc := "()V", sig := { parameters := [], returnType := none }, accessFlags := 2, code := none }
def k1c1 : Code := { maxStack := 10, maxLocals := 24, code := code, exceptionTable := #[], attributes := #[] }
def k1m1 : Method := { name := "law", desc := "(IIIIJI)Z", sig := { parameters := [.int, .int, .int, .int, .long, .int], returnType := some .boolean }, accessFlags := 9, code := some k1c1 }
def k1c2 : Code := { maxStack := 2, maxLocals := 3, code := method_3_code, exceptionTable := #[], attributes := #[] }
def k1m2 : Method := { name := "goes", desc := "(III)Z", sig := { parameters := [.int, .int, .int], returnType := some .boolean }, accessFlags := 10, code := some k1c2 }
/-- com/example/thinleaf/thinleaf/prune/DocumentCutRemovePinLaw -/
def k1 : Class := { plain "com/example/thinleaf/thinleaf/prune/DocumentCutRemovePinLaw" (some 0) with
  accessFlags := 49
  interfaces := #[]
  cf := some (fileOf pool1 37 #[] #[{ accessFlags := 2, nameIndex := 5, descriptorIndex := 6, attributes := #[] }, { accessFlags := 9, nameIndex := 48, descriptorIndex := 49, attributes := #[] }, { accessFlags := 10, nameIndex := 40, descriptorIndex := 41, attributes := #[] }] 49 2 #[] #[])
  fields := #[]
  methods := #[k1m0, k1m1, k1m2]
  instanceTypes := #[]
  staticTypes := #[]
  resolved := Array.replicate 57 none
  statics := none }

def pool2 : Array CpInfo := pool [(1, .methodref 2 3), (0, .class_ 4), (0, .nameAndType 5 6), (0, u "java/lang/Object"), (0, u "<init>"), (0, u "()V"), (0, .fieldref 8 9), (0, .class_ 10), (0, .nameAndType 11 12), (0, u "com/example/thinleaf/thinleaf/prune/DocumentCut"), (0, u "postings"), (0, u "[I"), (0, .fieldref 8 14), (0, .nameAndType 15 16), (0, u "goes"), (0, u "[Z"), (15, u "([I)V"), (0, .class_ 34), (0, u "com/example/thinleaf/thinleaf/prune/DocumentCut$1"), (0, .methodref 33 36), (0, .nameAndType 5 37), (0, u "(Lcom/example/thinleaf/thinleaf/prune/DocumentCut;Ljava/util/Map;)V"), (6, u "remove"), (0, u "([IIJ)I"), (0, u "keeping"), (0, u "(Ljava/util/Map;)Lcom/example/thinleaf/thinleaf/prune/Selection;")] 6

def k2c0 : Code := { maxStack := 2, maxLocals := 2, code := prog_194_method_1_code, exceptionTable := #[], attributes := #[] }
def k2m0 : Method := { name := "<init>", desc := "([I)V", sig := { parameters := [(.array .int)], returnType := none }, accessFlags := 0, code := some k2c0 }
def k2c1 : Code := { maxStack := 5, maxLocals := 8, code := prog_194_method_3_code, exceptionTable := #[], attributes := #[] }
def k2m1 : Method := { name := "remove", desc := "([IIJ)I", sig := { parameters := [(.array .int), .int, .long], returnType := some .int }, accessFlags := 0, code := some k2c1 }
def k2c2 : Code := { maxStack := 4, maxLocals := 2, code := prog_194_method_4_code, exceptionTable := #[], attributes := #[] }
def k2m2 : Method := { name := "keeping", desc := "(Ljava/util/Map;)Lcom/example/thinleaf/thinleaf/prune/Selection;", sig := { parameters := [(.object "java/util/Map")], returnType := some (.object "com/example/thinleaf/thinleaf/prune/Selection") }, accessFlags := 0, code := some k2c2 }
/-- com/example/thinleaf/thinleaf/prune/DocumentCut -/
def k2 : Class := { plain "com/example/thinleaf/thinleaf/prune/DocumentCut" (some 0) with
  accessFlags := 48
  interfaces := #[]
  cf := some (fileOf pool2 8 #[.nestMembers #[33]] #[{ accessFlags := 0, nameIndex := 5, descriptorIndex := 32, attributes := #[] }, { accessFlags := 0, nameIndex := 44, descriptorIndex := 45, attributes := #[] }, { accessFlags := 0, nameIndex := 46, descriptorIndex := 47, attributes := #[] }] 48 2 #[] #[{ accessFlags := 18, nameIndex := 11, descriptorIndex := 12, attributes := #[] }, { accessFlags := 18, nameIndex := 15, descriptorIndex := 16, attributes := #[] }])
  fields := #[{ name := "postings", type := (.array .int), accessFlags := 18, slot := 0, constantValue := 0 }, { name := "goes", type := (.array .boolean), accessFlags := 18, slot := 1, constantValue := 0 }]
  methods := #[k2m0, k2m1, k2m2]
  instanceTypes := #[(.array .int), (.array .boolean)]
  staticTypes := #[]
  resolved := Array.replicate 54 none
  statics := none }

def pool3 : Array CpInfo := pool [(2, .class_ 4), (1, u "com/example/thinleaf/thinleaf/prune/Selection"), (2, .class_ 8), (0, u "java/lang/Object"), (5, u "keep"), (0, u "(ILcom/example/thinleaf/thinleaf/core/index/LexiconEntry;Lcom/example/thinleaf/thinleaf/core/index/Postings;)Lcom/example/thinleaf/thinleaf/core/index/Postings;")] 2

def k3m0 : Method := { name := "keep", desc := "(ILcom/example/thinleaf/thinleaf/core/index/LexiconEntry;Lcom/example/thinleaf/thinleaf/core/index/Postings;)Lcom/example/thinleaf/thinleaf/core/index/Postings;", sig := { parameters := [.int, (.object "com/example/thinleaf/thinleaf/core/index/LexiconEntry"), (.object "com/example/thinleaf/thinleaf/core/index/Postings")], returnType := some (.object "com/example/thinleaf/thinleaf/core/index/Postings") }, accessFlags := 1025, code := none }
/-- com/example/thinleaf/thinleaf/prune/Selection -/
def k3 : Class := { plain "com/example/thinleaf/thinleaf/prune/Selection" (some 0) with
  accessFlags := 1537
  interfaces := #[]
  cf := some (fileOf pool3 2 #[] #[{ accessFlags := 1025, nameIndex := 14, descriptorIndex := 15, attributes := #[] }] 1537 7 #[] #[])
  fields := #[]
  methods := #[k3m0]
  instanceTypes := #[]
  staticTypes := #[]
  resolved := Array.replicate 18 none
  statics := none }

def pool4 : Array CpInfo := pool [(1, .fieldref 2 3), (0, .class_ 4), (0, .nameAndType 5 6), (0, u "com/example/thinleaf/thinleaf/prune/DocumentCut$1"), (0, u "this$0"), (0, u "Lcom/example/thinleaf/thinleaf/prune/DocumentCut;"), (0, .fieldref 2 8), (0, .nameAndType 9 10), (0, u "val$figures"), (0, u "Ljava/util/Map;"), (0, .methodref 12 13), (0, .class_ 14), (0, .nameAndType 15 16), (0, u "java/lang/Object"), (0, u "<init>"), (0, u "()V"), (0, .methodref 18 19), (0, .class_ 20), (0, .nameAndType 21 22), (0, u "com/example/thinleaf/thinleaf/core/index/Postings"), (0, u "documents"), (0, u "()[I"), (0, .invokeDynamic 0 24), (0, .nameAndType 25 26), (0, u "test"), (0, u "(Lcom/example/thinleaf/thinleaf/prune/DocumentCut$1;[I)Ljava/util/function/IntPredicate;"), (0, .methodref 18 28), (0, .nameAndType 29 30), (0, u "keeping"), (0, u "(Ljava/util/function/IntPredicate;)Lcom/example/thinleaf/thinleaf/core/index/Postings;"), (0, .fieldref 32 33), (0, .class_ 34), (0, .nameAndType 35 36), (0, u "com/example/thinleaf/thinleaf/prune/DocumentCut"), (0, u "goes"), (0, u "[Z"), (0, .class_ 38), (0, u "com/example/thinleaf/thinleaf/prune/Selection"), (0, u "(Lcom/example/thinleaf/thinleaf/prune/DocumentCut;Ljava/util/Map;)V"), (7, u "keep"), (0, u "(ILcom/example/thinleaf/thinleaf/core/index/LexiconEntry;Lcom/example/thinleaf/thinleaf/core/index/Postings;)Lcom/example/thinleaf/thinleaf/core/index/Postings;"), (0, u "lambda$keep$0"), (0, u "([II)Z"), (8, .methodType 60), (0, u "(I)Z"), (0, .methodHandle 5 62), (0, .methodref 2 63), (0, .nameAndType 49 50), (0, .methodHandle 6 65), (0, .methodref 66 67), (0, .class_ 68), (0, .nameAndType 69 70), (0, u "java/lang/invoke/LambdaMetafactory"), (0, u "metafactory"), (0, u "(Ljava/lang/invoke/MethodHandles$Lookup;Ljava/lang/String;Ljava/lang/invoke/MethodType;Ljava/lang/invoke/MethodType;Ljava/lang/invoke/MethodHandle;Ljava/lang/invoke/MethodType;)Ljava/lang/invoke/CallSite;")] 6

def k4c0 : Code := { maxStack := 2, maxLocals := 3, code := prog_195_method_1_code, exceptionTable := #[], attributes := #[] }
def k4m0 : Method := { name := "<init>", desc := "(Lcom/example/thinleaf/thinleaf/prune/DocumentCut;Ljava/util/Map;)V", sig := { parameters := [(.object "com/example/thinleaf/thinleaf/prune/DocumentCut"), (.object "java/util/Map")], returnType := none }, accessFlags := 0, code := some k4c0 }
def k4c1 : Code := { maxStack := 3, maxLocals := 5, code := prog_195_method_3_code, exceptionTable := #[], attributes := #[] }
def k4m1 : Method := { name := "keep", desc := "(ILcom/example/thinleaf/thinleaf/core/index/LexiconEntry;Lcom/example/thinleaf/thinleaf/core/index/Postings;)Lcom/example/thinleaf/thinleaf/core/index/Postings;", sig := { parameters := [.int, (.object "com/example/thinleaf/thinleaf/core/index/LexiconEntry"), (.object "com/example/thinleaf/thinleaf/core/index/Postings")], returnType := some (.object "com/example/thinleaf/thinleaf/core/index/Postings") }, accessFlags := 1, code := some k4c1 }
def k4c2 : Code := { maxStack := 3, maxLocals := 3, code := prog_195_method_4_code, exceptionTable := #[], attributes := #[] }
def k4m2 : Method := { name := "lambda$keep$0", desc := "([II)Z", sig := { parameters := [(.array .int), .int], returnType := some .boolean }, accessFlags := 4098, code := some k4c2 }
/-- com/example/thinleaf/thinleaf/prune/DocumentCut$1 -/
def k4 : Class := { plain "com/example/thinleaf/thinleaf/prune/DocumentCut$1" (some 0) with
  accessFlags := 32
  interfaces := #[3]
  cf := some (fileOf pool4 2 #[.nestHost 32, .bootstrapMethods #[⟨64, #[59, 61, 59]⟩]] #[{ accessFlags := 0, nameIndex := 15, descriptorIndex := 39, attributes := #[] }, { accessFlags := 1, nameIndex := 47, descriptorIndex := 48, attributes := #[] }, { accessFlags := 4098, nameIndex := 49, descriptorIndex := 50, attributes := #[] }] 32 12 #[37] #[{ accessFlags := 4112, nameIndex := 9, descriptorIndex := 10, attributes := #[] }, { accessFlags := 4112, nameIndex := 5, descriptorIndex := 6, attributes := #[] }])
  fields := #[{ name := "val$figures", type := (.object "java/util/Map"), accessFlags := 4112, slot := 0, constantValue := 0 }, { name := "this$0", type := (.object "com/example/thinleaf/thinleaf/prune/DocumentCut"), accessFlags := 4112, slot := 1, constantValue := 0 }]
  methods := #[k4m0, k4m1, k4m2]
  instanceTypes := #[(.object "java/util/Map"), (.object "com/example/thinleaf/thinleaf/prune/DocumentCut")]
  staticTypes := #[]
  resolved := Array.replicate 77 none
  callSites := [(1, 10, .makes 21)]
  statics := none }

def pool5 : Array CpInfo := pool [(1, .methodref 2 3), (0, .class_ 4), (0, .nameAndType 5 6), (0, u "java/lang/Object"), (0, u "<init>"), (0, u "()V"), (0, .class_ 8), (0, u "java/lang/Record")] 13

def k5c0 : Code := { maxStack := 1, maxLocals := 1, code := jdk_30_method_1_code, exceptionTable := #[], attributes := #[] }
def k5m0 : Method := { name := "<init>", desc := "()V", sig := { parameters := [], returnType := none }, accessFlags := 4, code := some k5c0 }
/-- java/lang/Record -/
def k5 : Class := { plain "java/lang/Record" (some 0) with
  accessFlags := 1057
  interfaces := #[]
  cf := some (fileOf pool5 7 #[] #[{ accessFlags := 4, nameIndex := 5, descriptorIndex := 6, attributes := #[] }] 1057 2 #[] #[])
  fields := #[]
  methods := #[k5m0]
  instanceTypes := #[]
  staticTypes := #[]
  resolved := Array.replicate 22 none
  statics := none }

def pool6 : Array CpInfo := pool [(1, .methodref 2 3), (0, .class_ 4), (0, .nameAndType 5 6), (0, u "java/lang/Record"), (0, u "<init>"), (0, u "()V"), (0, .fieldref 8 9), (0, .class_ 10), (0, .nameAndType 11 12), (0, u "com/example/thinleaf/thinleaf/core/index/Postings"), (0, u "documents"), (0, u "[I"), (0, .fieldref 8 14), (0, .nameAndType 15 12), (0, u "frequencies"), (0, .methodref 8 17), (0, .nameAndType 18 19), (0, u "size"), (0, u "()I"), (0, .interfaceMethodref 21 22), (0, .class_ 23), (0, .nameAndType 24 25), (0, u "java/util/function/IntPredicate"), (0, u "test"), (0, u "(I)Z"), (0, .methodref 27 28), (0, .class_ 29), (0, .nameAndType 30 31), (0, u "java/util/Arrays"), (0, u "copyOf"), (0, u "([II)[I"), (0, .methodref 8 33), (0, .nameAndType 5 34), (0, u "([I[I)V"), (15, u "keeping"), (0, u "(Ljava/util/function/IntPredicate;)Lcom/example/thinleaf/thinleaf/core/index/Postings;"), (4, u "()[I")] 21

def k6c0 : Code := { maxStack := 2, maxLocals := 3, code := prog_74_method_1_code, exceptionTable := #[], attributes := #[] }
def k6m0 : Method := { name := "<init>", desc := "([I[I)V", sig := { parameters := [(.array .int), (.array .int)], returnType := none }, accessFlags := 1, code := some k6c0 }
def k6c1 : Code := { maxStack := 1, maxLocals := 1, code := prog_74_method_2_code, exceptionTable := #[], attributes := #[] }
def k6m1 : Method := { name := "size", desc := "()I", sig := { parameters := [], returnType := some .int }, accessFlags := 1, code := some k6c1 }
def k6c2 : Code := { maxStack := 5, maxLocals := 6, code := prog_74_method_3_code, exceptionTable := #[], attributes := #[] }
def k6m2 : Method := { name := "keeping", desc := "(Ljava/util/function/IntPredicate;)Lcom/example/thinleaf/thinleaf/core/index/Postings;", sig := { parameters := [(.object "java/util/function/IntPredicate")], returnType := some (.object "com/example/thinleaf/thinleaf/core/index/Postings") }, accessFlags := 1, code := some k6c2 }
def k6c3 : Code := { maxStack := 1, maxLocals := 1, code := prog_74_method_7_code, exceptionTable := #[], attributes := #[] }
def k6m3 : Method := { name := "documents", desc := "()[I", sig := { parameters := [], returnType := some (.array .int) }, accessFlags := 1, code := some k6c3 }
/-- com/example/thinleaf/thinleaf/core/index/Postings -/
def k6 : Class := { plain "com/example/thinleaf/thinleaf/core/index/Postings" (some 5) with
  accessFlags := 49
  interfaces := #[]
  cf := some (fileOf pool6 8 #[] #[{ accessFlags := 1, nameIndex := 5, descriptorIndex := 34, attributes := #[] }, { accessFlags := 1, nameIndex := 18, descriptorIndex := 19, attributes := #[] }, { accessFlags := 1, nameIndex := 50, descriptorIndex := 51, attributes := #[] }, { accessFlags := 1, nameIndex := 11, descriptorIndex := 56, attributes := #[] }] 49 2 #[] #[{ accessFlags := 18, nameIndex := 11, descriptorIndex := 12, attributes := #[] }, { accessFlags := 18, nameIndex := 15, descriptorIndex := 12, attributes := #[] }])
  fields := #[{ name := "documents", type := (.array .int), accessFlags := 18, slot := 0, constantValue := 0 }, { name := "frequencies", type := (.array .int), accessFlags := 18, slot := 1, constantValue := 0 }]
  methods := #[k6m0, k6m1, k6m2, k6m3]
  instanceTypes := #[(.array .int), (.array .int)]
  staticTypes := #[]
  resolved := Array.replicate 78 none
  statics := none }

def pool7 : Array CpInfo := pool [(9, u "test"), (6, .class_ 18), (1, u "java/util/function/IntPredicate"), (0, u "(I)Z"), (0, .class_ 21), (0, u "java/lang/Object")] 45

def k7m0 : Method := { name := "test", desc := "(I)Z", sig := { parameters := [.int], returnType := some .boolean }, accessFlags := 1025, code := none }
/-- java/util/function/IntPredicate -/
def k7 : Class := { plain "java/util/function/IntPredicate" (some 0) with
  accessFlags := 1537
  interfaces := #[]
  cf := some (fileOf pool7 16 #[] #[{ accessFlags := 1025, nameIndex := 9, descriptorIndex := 19, attributes := #[] }] 1537 20 #[] #[])
  fields := #[]
  methods := #[k7m0]
  instanceTypes := #[]
  staticTypes := #[]
  resolved := Array.replicate 67 none
  statics := none }

def pool8 : Array CpInfo := pool [(2, .class_ 4), (1, u "java/lang/Object"), (0, u "<init>"), (0, u "()V"), (7, .class_ 16), (1, u "java/util/Arrays"), (57, .class_ 76), (1, u "java/util/Arrays$NaturalOrder"), (32, u "()Ljava/lang/Object;"), (3, .class_ 115), (1, u "java/util/Arrays$LegacyMergeSort"), (1, u "Z"), (10, .nameAndType 129 109), (0, u "clone"), (20, .methodref 151 152), (0, .class_ 153), (0, .nameAndType 154 155), (0, u "java/lang/System"), (0, u "arraycopy"), (0, u "(Ljava/lang/Object;ILjava/lang/Object;II)V"), (146, u "copyOf"), (1, .methodref 305 306), (0, .class_ 307), (0, .nameAndType 308 309), (0, u "java/lang/Math"), (0, u "min"), (0, u "(II)I"), (6, .methodref 317 128), (0, .class_ 318), (0, u "[I"), (56, .class_ 376), (0, u "java/util/Arrays$ArrayList"), (68, u "$assertionsDisabled"), (269, u "MIN_ARRAY_SORT_GRAN"), (0, u "I"), (2, u "INSERTIONSORT_THRESHOLD"), (151, u "([II)[I"), (103, .class_ 976), (0, u "java/util/Arrays$ArrayItr")] 52

def k8m0 : Method := { name := "<init>", desc := "()V", sig := { parameters := [], returnType := none }, accessFlags := 2, code := none }
def k8c1 : Code := { maxStack := 6, maxLocals := 3, code := jdk_65_method_123_code, exceptionTable := #[], attributes := #[] }
def k8m1 : Method := { name := "copyOf", desc := "([II)[I", sig := { parameters := [(.array .int), .int], returnType := some (.array .int) }, accessFlags := 9, code := some k8c1 }
/-- java/util/Arrays -/
def k8 : Class := { plain "java/util/Arrays" (some 0) with
  accessFlags := 49
  interfaces := #[]
  cf := some (fileOf pool8 14 #[.nestMembers #[975, 375, 113, 74]] #[{ accessFlags := 2, nameIndex := 5, descriptorIndex := 6, attributes := #[] }, { accessFlags := 9, nameIndex := 302, descriptorIndex := 871, attributes := #[] }] 49 2 #[] #[{ accessFlags := 26, nameIndex := 715, descriptorIndex := 716, attributes := #[] }, { accessFlags := 26, nameIndex := 719, descriptorIndex := 716, attributes := #[] }, { accessFlags := 4120, nameIndex := 445, descriptorIndex := 117, attributes := #[] }])
  fields := #[{ name := "MIN_ARRAY_SORT_GRAN", type := .int, accessFlags := 26, slot := 0, constantValue := 0 }, { name := "INSERTIONSORT_THRESHOLD", type := .int, accessFlags := 26, slot := 1, constantValue := 0 }, { name := "$assertionsDisabled", type := .boolean, accessFlags := 4120, slot := 2, constantValue := 0 }]
  methods := #[k8m0, k8m1]
  instanceTypes := #[]
  staticTypes := #[.int, .int, .boolean]
  resolved := Array.replicate 1029 none
  statics := none }

def pool9 : Array CpInfo := pool [(1, .class_ 2), (0, u "java/lang/Cloneable"), (0, .class_ 4), (0, u "java/lang/Object")] 2

/-- java/lang/Cloneable -/
def k9 : Class := { plain "java/lang/Cloneable" (some 0) with
  accessFlags := 1537
  interfaces := #[]
  cf := some (fileOf pool9 1 #[] #[] 1537 3 #[] #[])
  fields := #[]
  methods := #[]
  instanceTypes := #[]
  staticTypes := #[]
  resolved := Array.replicate 7 none
  statics := none }

def pool10 : Array CpInfo := pool [(1, .class_ 2), (0, u "java/lang/Math"), (1, .class_ 6), (1, u "java/lang/Object"), (0, u "<init>"), (0, u "()V"), (89, .class_ 100), (1, u "java/lang/Math$RandomNumberGeneratorHolder"), (71, u "negativeZeroFloatBits"), (0, u "J"), (2, u "negativeZeroDoubleBits"), (24, u "min"), (43, u "$assertionsDisabled"), (0, u "Z"), (88, u "(II)I"), (2, u "twoToTheDoubleScaleDown"), (0, u "D"), (4, u "twoToTheDoubleScaleUp"), (9, u "E"), (3, u "PI"), (2, u "TAU"), (2, u "DEGREES_TO_RADIANS"), (0, u "RADIANS_TO_DEGREES")] 94

def k10m0 : Method := { name := "<init>", desc := "()V", sig := { parameters := [], returnType := none }, accessFlags := 2, code := none }
def k10c1 : Code := { maxStack := 2, maxLocals := 2, code := jdk_29_method_69_code, exceptionTable := #[], attributes := #[] }
def k10m1 : Method := { name := "min", desc := "(II)I", sig := { parameters := [.int, .int], returnType := some .int }, accessFlags := 9, code := some k10c1 }
/-- java/lang/Math -/
def k10 : Class := { plain "java/lang/Math" (some 0) with
  accessFlags := 49
  interfaces := #[]
  cf := some (fileOf pool10 1 #[.nestMembers #[98]] #[{ accessFlags := 2, nameIndex := 7, descriptorIndex := 8, attributes := #[] }, { accessFlags := 9, nameIndex := 201, descriptorIndex := 335, attributes := #[] }] 49 4 #[] #[{ accessFlags := 25, nameIndex := 354, descriptorIndex := 339, attributes := #[] }, { accessFlags := 25, nameIndex := 358, descriptorIndex := 339, attributes := #[] }, { accessFlags := 25, nameIndex := 361, descriptorIndex := 339, attributes := #[] }, { accessFlags := 26, nameIndex := 364, descriptorIndex := 339, attributes := #[] }, { accessFlags := 26, nameIndex := 365, descriptorIndex := 339, attributes := #[] }, { accessFlags := 26, nameIndex := 172, descriptorIndex := 173, attributes := #[] }, { accessFlags := 26, nameIndex := 176, descriptorIndex := 173, attributes := #[] }, { accessFlags := 8, nameIndex := 344, descriptorIndex := 339, attributes := #[] }, { accessFlags := 8, nameIndex := 338, descriptorIndex := 339, attributes := #[] }, { accessFlags := 4120, nameIndex := 245, descriptorIndex := 246, attributes := #[] }])
  fields := #[{ name := "E", type := .double, accessFlags := 25, slot := 0, constantValue := 0 }, { name := "PI", type := .double, accessFlags := 25, slot := 1, constantValue := 0 }, { name := "TAU", type := .double, accessFlags := 25, slot := 2, constantValue := 0 }, { name := "DEGREES_TO_RADIANS", type := .double, accessFlags := 26, slot := 3, constantValue := 0 }, { name := "RADIANS_TO_DEGREES", type := .double, accessFlags := 26, slot := 4, constantValue := 0 }, { name := "negativeZeroFloatBits", type := .long, accessFlags := 26, slot := 5, constantValue := 0 }, { name := "negativeZeroDoubleBits", type := .long, accessFlags := 26, slot := 6, constantValue := 0 }, { name := "twoToTheDoubleScaleUp", type := .double, accessFlags := 8, slot := 7, constantValue := 0 }, { name := "twoToTheDoubleScaleDown", type := .double, accessFlags := 8, slot := 8, constantValue := 0 }, { name := "$assertionsDisabled", type := .boolean, accessFlags := 4120, slot := 9, constantValue := 0 }]
  methods := #[k10m0, k10m1]
  instanceTypes := #[]
  staticTypes := #[.double, .double, .double, .double, .double, .long, .long, .double, .double, .boolean]
  resolved := Array.replicate 460 none
  statics := none }

def pool11 : Array CpInfo := pool [(2, .class_ 4), (1, u "java/lang/Object"), (0, u "<init>"), (0, u "()V"), (1, .class_ 10), (1, u "java/lang/System"), (0, u "allowSecurityManager"), (0, u "I"), (16, u "cons"), (0, u "Ljava/io/Console;"), (77, .class_ 110), (1, u "java/lang/System$CallersHolder"), (43, u "initialErrStream"), (0, u "Ljava/io/PrintStream;"), (19, u "security"), (0, u "Ljava/lang/SecurityManager;"), (31, .class_ 209), (0, u "java/lang/System$1"), (7, u "props"), (0, u "Ljava/util/Properties;"), (2, u "lineSeparator"), (0, u "Ljava/lang/String;"), (96, .class_ 321), (1, u "java/lang/System$LoggerFinder"), (5, .class_ 328), (0, u "java/lang/System$Logger"), (67, u "err"), (2, u "out"), (91, u "notSupportedJnuEncoding"), (15, u "in"), (17, u "initialIn"), (0, u "Ljava/io/InputStream;"), (35, u "bootLayer"), (0, u "Ljava/lang/ModuleLayer;"), (99, .class_ 664), (0, u "java/lang/System$2"), (9, u "NEVER"), (2, u "MAYBE"), (49, u "arraycopy"), (0, u "(Ljava/lang/Object;ILjava/lang/Object;II)V"), (72, .class_ 802), (0, u "java/lang/System$Logger$Level")] 31

def k11m0 : Method := { name := "<init>", desc := "()V", sig := { parameters := [], returnType := none }, accessFlags := 2, code := none }
def k11m1 : Method := { name := "arraycopy", desc := "(Ljava/lang/Object;ILjava/lang/Object;II)V", sig := { parameters := [(.object "java/lang/Object"), .int, (.object "java/lang/Object"), .int, .int], returnType := none }, accessFlags := 265, code := none }
/-- java/lang/System -/
def k11 : Class := { plain "java/lang/System" (some 0) with
  accessFlags := 49
  interfaces := #[]
  cf := some (fileOf pool11 8 #[.nestMembers #[319, 327, 801, 108, 663, 208]] #[{ accessFlags := 2, nameIndex := 5, descriptorIndex := 6, attributes := #[] }, { accessFlags := 265, nameIndex := 727, descriptorIndex := 728, attributes := #[] }] 49 2 #[] #[{ accessFlags := 25, nameIndex := 507, descriptorIndex := 526, attributes := #[] }, { accessFlags := 25, nameIndex := 399, descriptorIndex := 155, attributes := #[] }, { accessFlags := 25, nameIndex := 396, descriptorIndex := 155, attributes := #[] }, { accessFlags := 10, nameIndex := 525, descriptorIndex := 526, attributes := #[] }, { accessFlags := 26, nameIndex := 674, descriptorIndex := 12, attributes := #[] }, { accessFlags := 26, nameIndex := 677, descriptorIndex := 12, attributes := #[] }, { accessFlags := 10, nameIndex := 11, descriptorIndex := 12, attributes := #[] }, { accessFlags := 74, nameIndex := 175, descriptorIndex := 176, attributes := #[] }, { accessFlags := 10, nameIndex := 491, descriptorIndex := 222, attributes := #[] }, { accessFlags := 74, nameIndex := 29, descriptorIndex := 30, attributes := #[] }, { accessFlags := 74, nameIndex := 154, descriptorIndex := 155, attributes := #[] }, { accessFlags := 10, nameIndex := 217, descriptorIndex := 218, attributes := #[] }, { accessFlags := 10, nameIndex := 221, descriptorIndex := 222, attributes := #[] }, { accessFlags := 8, nameIndex := 562, descriptorIndex := 563, attributes := #[] }])
  fields := #[{ name := "in", type := (.object "java/io/InputStream"), accessFlags := 25, slot := 0, constantValue := 0 }, { name := "out", type := (.object "java/io/PrintStream"), accessFlags := 25, slot := 1, constantValue := 0 }, { name := "err", type := (.object "java/io/PrintStream"), accessFlags := 25, slot := 2, constantValue := 0 }, { name := "initialIn", type := (.object "java/io/InputStream"), accessFlags := 10, slot := 3, constantValue := 0 }, { name := "NEVER", type := .int, accessFlags := 26, slot := 4, constantValue := 0 }, { name := "MAYBE", type := .int, accessFlags := 26, slot := 5, constantValue := 0 }, { name := "allowSecurityManager", type := .int, accessFlags := 10, slot := 6, constantValue := 0 }, { name := "security", type := (.object "java/lang/SecurityManager"), accessFlags := 74, slot := 7, constantValue := 0 }, { name := "notSupportedJnuEncoding", type := (.object "java/lang/String"), accessFlags := 10, slot := 8, constantValue := 0 }, { name := "cons", type := (.object "java/io/Console"), accessFlags := 74, slot := 9, constantValue := 0 }, { name := "initialErrStream", type := (.object "java/io/PrintStream"), accessFlags := 74, slot := 10, constantValue := 0 }, { name := "props", type := (.object "java/util/Properties"), accessFlags := 10, slot := 11, constantValue := 0 }, { name := "lineSeparator", type := (.object "java/lang/String"), accessFlags := 10, slot := 12, constantValue := 0 }, { name := "bootLayer", type := (.object "java/lang/ModuleLayer"), accessFlags := 8, slot := 13, constantValue := 0 }]
  methods := #[k11m0, k11m1]
  instanceTypes := #[]
  staticTypes := #[(.object "java/io/InputStream"), (.object "java/io/PrintStream"), (.object "java/io/PrintStream"), (.object "java/io/InputStream"), .int, .int, .int, (.object "java/lang/SecurityManager"), (.object "java/lang/String"), (.object "java/io/Console"), (.object "java/io/PrintStream"), (.object "java/util/Properties"), (.object "java/lang/String"), (.object "java/lang/ModuleLayer")]
  resolved := Array.replicate 834 none
  statics := none }

def pool12 : Array CpInfo := pool [(1, u "java/io/Serializable"), (0, .class_ 1), (0, u "java/lang/Object"), (0, .class_ 3)] 3

/-- java/io/Serializable -/
def k12 : Class := { plain "java/io/Serializable" (some 0) with
  accessFlags := 1537
  interfaces := #[]
  cf := some (fileOf pool12 2 #[] #[] 1537 4 #[] #[])
  fields := #[]
  methods := #[]
  instanceTypes := #[]
  staticTypes := #[]
  resolved := Array.replicate 8 none
  statics := none }

/-- the primitive boolean -/
def k13 : Class := { plain "boolean" none with kind := .primitive 'Z', accessFlags := 0x411 }
/-- [Z -/
def k14 : Class := { plain "[Z" (some 0) with kind := .array 13 .boolean, interfaces := #[9, 12], accessFlags := 1041 }

/-- the primitive byte -/
def k15 : Class := { plain "byte" none with kind := .primitive 'B', accessFlags := 0x411 }
/-- [B -/
def k16 : Class := { plain "[B" (some 0) with kind := .array 15 .byte, interfaces := #[9, 12], accessFlags := 1041 }

/-- the primitive int -/
def k17 : Class := { plain "int" none with kind := .primitive 'I', accessFlags := 0x411 }
/-- [I -/
def k18 : Class := { plain "[I" (some 0) with kind := .array 17 .int, interfaces := #[9, 12], accessFlags := 1041 }

/-- the primitive long -/
def k19 : Class := { plain "long" none with kind := .primitive 'J', accessFlags := 0x411 }
/-- [J -/
def k20 : Class := { plain "[J" (some 0) with kind := .array 19 .long, interfaces := #[9, 12], accessFlags := 1041 }

def classes0 : Array Class := #[k0, k1, k2, k3, k4, k5, k6, k7, k8, k9, k10, k11, k12, k13, k14, k15, k16, k17, k18, k19, k20]
/-- the class that the rule has made for the site at 10 of com/example/thinleaf/thinleaf/prune/DocumentCut$1.keep -/
def k21 : Class := Jvm.LamKit.madeRec { classes := classes0 } "com/example/thinleaf/thinleaf/prune/DocumentCut$1" (Jvm.Lambda.Shape.mk "java/util/function/IntPredicate" "test" (Jvm.ClassFile.MethodDescriptor.mk ([Jvm.ClassFile.FieldType.int] : List Jvm.ClassFile.FieldType) (Option.some Jvm.ClassFile.FieldType.boolean)) ([(Jvm.ClassFile.FieldType.object "com/example/thinleaf/thinleaf/prune/DocumentCut$1"), (Jvm.ClassFile.FieldType.array Jvm.ClassFile.FieldType.int)] : List Jvm.ClassFile.FieldType) (5 : Nat) "com/example/thinleaf/thinleaf/prune/DocumentCut$1" "lambda$keep$0" (Jvm.ClassFile.MethodDescriptor.mk ([(Jvm.ClassFile.FieldType.array Jvm.ClassFile.FieldType.int), Jvm.ClassFile.FieldType.int] : List Jvm.ClassFile.FieldType) (Option.some Jvm.ClassFile.FieldType.boolean)) false (Jvm.ClassFile.MethodDescriptor.mk ([Jvm.ClassFile.FieldType.int] : List Jvm.ClassFile.FieldType) (Option.some Jvm.ClassFile.FieldType.boolean))) 21

def heap : Heap := #[]
def classes : Array Class := #[k0, k1, k2, k3, k4, k5, k6, k7, k8, k9, k10, k11, k12, k13, k14, k15, k16, k17, k18, k19, k20, k21]
def interned : List (Array UInt16 × Addr) := []
def slotsUsed : Nat := 0
def theMethod : MethodId := ⟨1, 1⟩
def args0 : Array Value := #[.int 5, .int 6, .int 7, .int 8, .long 9, .int 10]
def aboutOver (below : List Frame) : State where
  vm := { classes := classes, interned := interned.toArray }
  heap := heap
  slotsUsed := slotsUsed
  threads := #[{ frames := .invoking theMethod args0 :: below }]
def below0 : List Frame := [.native { method := ⟨0, 0⟩, args := #[] }]
def about1 : State := aboutOver below0
def p0 : Program := .bare "" "" ""
def e0 : Env := launch0.env 0 0 0
theorem w_frames : about1.frames = Frame.invoking theMethod args0 :: below0 := rfl
set_option maxRecDepth 65536 in
theorem w_args : argsFit about1.vm theMethod args0 = true := by decide +kernel
set_option maxRecDepth 65536 in
theorem w_heap : heapFits about1 = true := by decide +kernel
set_option maxRecDepth 65536 in
theorem w_runnable : about1.curStatus? = some .runnable := by decide +kernel
set_option maxRecDepth 65536 in
theorem w_alone : about1.alone = true := by decide +kernel
set_option maxRecDepth 65536 in
theorem w_named : about1.methodNamed? x = some theMethod := by decide +kernel
set_option maxRecDepth 65536 in
theorem w_hears : about1.hears theMethod below0 = true := by decide +kernel
set_option maxRecDepth 65536 in
theorem w_ripe : about1.ripe theMethod args0 below0 = true := by decide +kernel
theorem w_running : about1.status = .running := rfl
set_option maxRecDepth 65536 in
theorem w_room : about1.hasRoom e0.platform room_1 = true :=
  launch0.hasRoom_least _ room_1 (by decide +kernel) (by decide +kernel) (by decide +kernel) (by decide +kernel) (by decide +kernel) (by decide +kernel)
theorem allAtoms_all (ts : List Jvm.Cond) (a : Array Jvm.Value) (st : Jvm.State) : (allAtoms ts).before a st = ts.all (fun c => c.before a st) := by
  induction ts with
  | nil => rfl
  | cons c t ih =>
    show (Jvm.Cond.and c (allAtoms t)).before a st = _
    rw [Jvm.Cond.before_and, ih, List.all_cons]
def words1 : List Jvm.Cond := Jvm.Cond.code x code maxLocals ret :: tables_1
/-- a 'code' word, met by the world's own term for the bytes: nothing is compared byte by byte -/
theorem code_word {y : MethodName} {bytes : ByteArray} {mx : Nat} {rt : Option FieldType} {a : Array Value} {s : State} {m : MethodId} {meth : Method} {c : Code} (h1 : s.methodNamed? y = some m) (h2 : s.vm.method? m = some meth) (h3 : meth.code = some c) (h4 : c.code = bytes)
    (h5 : (c.maxLocals == mx && c.exceptionTable.isEmpty && decide (c.maxStack ≤ mostOperands) && decide (meth.sig.returnType = rt) && !meth.locks && decide (parseMethodDescriptor y.desc = some meth.sig)) = true) : (Jvm.Cond.code y bytes mx rt).before a s = true := by
  simp only [Bool.and_eq_true, beq_iff_eq, Bool.not_eq_true', decide_eq_true_eq] at h5
  obtain ⟨⟨⟨⟨⟨g1, g2⟩, g3⟩, g4⟩, g5⟩, g6⟩ := h5
  simp [Cond.before, Cond.holds, Cond.value, h1, h2, h3, h4, g1, g2, g3, g4, g5, g6]
def isCode : Jvm.Cond → Bool
  | .code _ _ _ _ => true
  | _ => false
theorem all_split {L : List Jvm.Cond} {P : Jvm.Cond → Bool} (h1 : L.all (fun c => isCode c || P c) = true) (h2 : ∀ c ∈ L.filter isCode, P c = true) : L.all P = true := by
  refine List.all_eq_true.mpr fun c hc => ?_
  have h := List.all_eq_true.mp h1 c hc
  rcases Bool.eq_false_or_eq_true (isCode c) with hi | hi
  · exact h2 c (List.mem_filter.mpr ⟨hc, hi⟩)
  · simpa [hi] using h
set_option maxRecDepth 65536 in
theorem w_c0 : (Jvm.Cond.code x code maxLocals ret).before args0 about1 = true := code_word (m := ⟨1, 1⟩) (meth := k1m1) (c := k1c1) (by decide +kernel) rfl rfl rfl (by decide +kernel)
set_option maxRecDepth 65536 in
theorem w_c1 : (Jvm.Cond.code ({ cls := "com/example/thinleaf/thinleaf/prune/DocumentCut", name := "<init>", desc := "([I)V" } : Jvm.MethodName) prog_194_method_1_code (2 : Nat) (Option.none : Option Jvm.ClassFile.FieldType)).before args0 about1 = true := code_word (m := ⟨2, 0⟩) (meth := k2m0) (c := k2c0) (by decide +kernel) rfl rfl rfl (by decide +kernel)
set_option maxRecDepth 65536 in
theorem w_c2 : (Jvm.Cond.code ({ cls := "java/lang/Object", name := "<init>", desc := "()V" } : Jvm.MethodName) object_method_1_code (1 : Nat) (Option.none : Option Jvm.ClassFile.FieldType)).before args0 about1 = true := code_word (m := ⟨0, 0⟩) (meth := k0m0) (c := k0c0) (by decide +kernel) rfl rfl rfl (by decide +kernel)
set_option maxRecDepth 65536 in
theorem w_c3 : (Jvm.Cond.code ({ cls := "com/example/thinleaf/thinleaf/prune/DocumentCut", name := "remove", desc := "([IIJ)I" } : Jvm.MethodName) prog_194_method_3_code (8 : Nat) (Option.some Jvm.ClassFile.FieldType.int)).before args0 about1 = true := code_word (m := ⟨2, 1⟩) (meth := k2m1) (c := k2c1) (by decide +kernel) rfl rfl rfl (by decide +kernel)
set_option maxRecDepth 65536 in
theorem w_c4 : (Jvm.Cond.code ({ cls := "com/example/thinleaf/thinleaf/prune/DocumentCut", name := "keeping", desc := "(Ljava/util/Map;)Lcom/example/thinleaf/thinleaf/prune/Selection;" } : Jvm.MethodName) prog_194_method_4_code (2 : Nat) (Option.some (Jvm.ClassFile.FieldType.object "com/example/thinleaf/thinleaf/prune/Selection"))).before args0 about1 = true := code_word (m := ⟨2, 2⟩) (meth := k2m2) (c := k2c2) (by decide +kernel) rfl rfl rfl (by decide +kernel)
set_option maxRecDepth 65536 in
theorem w_c5 : (Jvm.Cond.code ({ cls := "com/example/thinleaf/thinleaf/prune/DocumentCut$1", name := "<init>", desc := "(Lcom/example/thinleaf/thinleaf/prune/DocumentCut;Ljava/util/Map;)V" } : Jvm.MethodName) prog_195_method_1_code (3 : Nat) (Option.none : Option Jvm.ClassFile.FieldType)).before args0 about1 = true := code_word (m := ⟨4, 0⟩) (meth := k4m0) (c := k4c0) (by decide +kernel) rfl rfl rfl (by decide +kernel)
set_option maxRecDepth 65536 in
theorem w_c6 : (Jvm.Cond.code ({ cls := "com/example/thinleaf/thinleaf/core/index/Postings", name := "<init>", desc := "([I[I)V" } : Jvm.MethodName) prog_74_method_1_code (3 : Nat) (Option.none : Option Jvm.ClassFile.FieldType)).before args0 about1 = true := code_word (m := ⟨6, 0⟩) (meth := k6m0) (c := k6c0) (by decide +kernel) rfl rfl rfl (by decide +kernel)
set_option maxRecDepth 65536 in
theorem w_c7 : (Jvm.Cond.code ({ cls := "java/lang/Record", name := "<init>", desc := "()V" } : Jvm.MethodName) jdk_30_method_1_code (1 : Nat) (Option.none : Option Jvm.ClassFile.FieldType)).before args0 about1 = true := code_word (m := ⟨5, 0⟩) (meth := k5m0) (c := k5c0) (by decide +kernel) rfl rfl rfl (by decide +kernel)
set_option maxRecDepth 65536 in
theorem w_c8 : (Jvm.Cond.code ({ cls := "com/example/thinleaf/thinleaf/prune/DocumentCut$1", name := "keep", desc := "(ILcom/example/thinleaf/thinleaf/core/index/LexiconEntry;Lcom/example/thinleaf/thinleaf/core/index/Postings;)Lcom/example/thinleaf/thinleaf/core/index/Postings;" } : Jvm.MethodName) prog_195_method_3_code (5 : Nat) (Option.some (Jvm.ClassFile.FieldType.object "com/example/thinleaf/thinleaf/core/index/Postings"))).before args0 about1 = true := code_word (m := ⟨4, 1⟩) (meth := k4m1) (c := k4c1) (by decide +kernel) rfl rfl rfl (by decide +kernel)
set_option maxRecDepth 65536 in
theorem w_c9 : (Jvm.Cond.code ({ cls := "com/example/thinleaf/thinleaf/core/index/Postings", name := "documents", desc := "()[I" } : Jvm.MethodName) prog_74_method_7_code (1 : Nat) (Option.some (Jvm.ClassFile.FieldType.array Jvm.ClassFile.FieldType.int))).before args0 about1 = true := code_word (m := ⟨6, 3⟩) (meth := k6m3) (c := k6c3) (by decide +kernel) rfl rfl rfl (by decide +kernel)
set_option maxRecDepth 65536 in
theorem w_c10 : (Jvm.Cond.code ({ cls := "com/example/thinleaf/thinleaf/core/index/Postings", name := "keeping", desc := "(Ljava/util/function/IntPredicate;)Lcom/example/thinleaf/thinleaf/core/index/Postings;" } : Jvm.MethodName) prog_74_method_3_code (6 : Nat) (Option.some (Jvm.ClassFile.FieldType.object "com/example/thinleaf/thinleaf/core/index/Postings"))).before args0 about1 = true := code_word (m := ⟨6, 2⟩) (meth := k6m2) (c := k6c2) (by decide +kernel) rfl rfl rfl (by decide +kernel)
set_option maxRecDepth 65536 in
theorem w_c11 : (Jvm.Cond.code ({ cls := "com/example/thinleaf/thinleaf/core/index/Postings", name := "size", desc := "()I" } : Jvm.MethodName) prog_74_method_2_code (1 : Nat) (Option.some Jvm.ClassFile.FieldType.int)).before args0 about1 = true := code_word (m := ⟨6, 1⟩) (meth := k6m1) (c := k6c1) (by decide +kernel) rfl rfl rfl (by decide +kernel)
set_option maxRecDepth 65536 in
theorem w_c12 : (Jvm.Cond.code ({ cls := "com/example/thinleaf/thinleaf/prune/DocumentCut$1", name := "lambda$keep$0", desc := "([II)Z" } : Jvm.MethodName) prog_195_method_4_code (3 : Nat) (Option.some Jvm.ClassFile.FieldType.boolean)).before args0 about1 = true := code_word (m := ⟨4, 2⟩) (meth := k4m2) (c := k4c2) (by decide +kernel) rfl rfl rfl (by decide +kernel)
set_option maxRecDepth 65536 in
theorem w_c13 : (Jvm.Cond.code ({ cls := "java/util/Arrays", name := "copyOf", desc := "([II)[I" } : Jvm.MethodName) jdk_65_method_123_code (3 : Nat) (Option.some (Jvm.ClassFile.FieldType.array Jvm.ClassFile.FieldType.int))).before args0 about1 = true := code_word (m := ⟨8, 1⟩) (meth := k8m1) (c := k8c1) (by decide +kernel) rfl rfl rfl (by decide +kernel)
set_option maxRecDepth 65536 in
theorem w_c14 : (Jvm.Cond.code ({ cls := "com/example/thinleaf/thinleaf/prune/DocumentCutRemovePinLaw", name := "goes", desc := "(III)Z" } : Jvm.MethodName) method_3_code (3 : Nat) (Option.some Jvm.ClassFile.FieldType.boolean)).before args0 about1 = true := code_word (m := ⟨1, 2⟩) (meth := k1m2) (c := k1c2) (by decide +kernel) rfl rfl rfl (by decide +kernel)
set_option maxRecDepth 65536 in
theorem w_c15 : (Jvm.Cond.code ({ cls := "java/lang/Math", name := "min", desc := "(II)I" } : Jvm.MethodName) jdk_29_method_69_code (2 : Nat) (Option.some Jvm.ClassFile.FieldType.int)).before args0 about1 = true := code_word (m := ⟨10, 1⟩) (meth := k10m1) (c := k10c1) (by decide +kernel) rfl rfl rfl (by decide +kernel)
def codes1 : List Jvm.Cond := [Jvm.Cond.code x code maxLocals ret, Jvm.Cond.code ({ cls := "com/example/thinleaf/thinleaf/prune/DocumentCut", name := "<init>", desc := "([I)V" } : Jvm.MethodName) prog_194_method_1_code (2 : Nat) (Option.none : Option Jvm.ClassFile.FieldType), Jvm.Cond.code ({ cls := "java/lang/Object", name := "<init>", desc := "()V" } : Jvm.MethodName) object_method_1_code (1 : Nat) (Option.none : Option Jvm.ClassFile.FieldType), Jvm.Cond.code ({ cls := "com/example/thinleaf/thinleaf/prune/DocumentCut", name := "remove", desc := "([IIJ)I" } : Jvm.MethodName) prog_194_method_3_code (8 : Nat) (Option.some Jvm.ClassFile.FieldType.int), Jvm.Cond.code ({ cls := "com/example/thinleaf/thinleaf/prune/DocumentCut", name := "keeping", desc := "(Ljava/util/Map;)Lcom/example/thinleaf/thinleaf/prune/Selection;" } : Jvm.MethodName) prog_194_method_4_code (2 : Nat) (Option.some (Jvm.ClassFile.FieldType.object "com/example/thinleaf/thinleaf/prune/Selection")), Jvm.Cond.code ({ cls := "com/example/thinleaf/thinleaf/prune/DocumentCut$1", name := "<init>", desc := "(Lcom/example/thinleaf/thinleaf/prune/DocumentCut;Ljava/util/Map;)V" } : Jvm.MethodName) prog_195_method_1_code (3 : Nat) (Option.none : Option Jvm.ClassFile.FieldType), Jvm.Cond.code ({ cls := "com/example/thinleaf/thinleaf/core/index/Postings", name := "<init>", desc := "([I[I)V" } : Jvm.MethodName) prog_74_method_1_code (3 : Nat) (Option.none : Option Jvm.ClassFile.FieldType), Jvm.Cond.code ({ cls := "java/lang/Record", name := "<init>", desc := "()V" } : Jvm.MethodName) jdk_30_method_1_code (1 : Nat) (Option.none : Option Jvm.ClassFile.FieldType), Jvm.Cond.code ({ cls := "com/example/thinleaf/thinleaf/prune/DocumentCut$1", name := "keep", desc := "(ILcom/example/thinleaf/thinleaf/core/index/LexiconEntry;Lcom/example/thinleaf/thinleaf/core/index/Postings;)Lcom/example/thinleaf/thinleaf/core/index/Postings;" } : Jvm.MethodName) prog_195_method_3_code (5 : Nat) (Option.some (Jvm.ClassFile.FieldType.object "com/example/thinleaf/thinleaf/core/index/Postings")), Jvm.Cond.code ({ cls := "com/example/thinleaf/thinleaf/core/index/Postings", name := "documents", desc := "()[I" } : Jvm.MethodName) prog_74_method_7_code (1 : Nat) (Option.some (Jvm.ClassFile.FieldType.array Jvm.ClassFile.FieldType.int)), Jvm.Cond.code ({ cls := "com/example/thinleaf/thinleaf/core/index/Postings", name := "keeping", desc := "(Ljava/util/function/IntPredicate;)Lcom/example/thinleaf/thinleaf/core/index/Postings;" } : Jvm.MethodName) prog_74_method_3_code (6 : Nat) (Option.some (Jvm.ClassFile.FieldType.object "com/example/thinleaf/thinleaf/core/index/Postings")), Jvm.Cond.code ({ cls := "com/example/thinleaf/thinleaf/core/index/Postings", name := "size", desc := "()I" } : Jvm.MethodName) prog_74_method_2_code (1 : Nat) (Option.some Jvm.ClassFile.FieldType.int), Jvm.Cond.code ({ cls := "com/example/thinleaf/thinleaf/prune/DocumentCut$1", name := "lambda$keep$0", desc := "([II)Z" } : Jvm.MethodName) prog_195_method_4_code (3 : Nat) (Option.some Jvm.ClassFile.FieldType.boolean), Jvm.Cond.code ({ cls := "java/util/Arrays", name := "copyOf", desc := "([II)[I" } : Jvm.MethodName) jdk_65_method_123_code (3 : Nat) (Option.some (Jvm.ClassFile.FieldType.array Jvm.ClassFile.FieldType.int)), Jvm.Cond.code ({ cls := "com/example/thinleaf/thinleaf/prune/DocumentCutRemovePinLaw", name := "goes", desc := "(III)Z" } : Jvm.MethodName) method_3_code (3 : Nat) (Option.some Jvm.ClassFile.FieldType.boolean), Jvm.Cond.code ({ cls := "java/lang/Math", name := "min", desc := "(II)I" } : Jvm.MethodName) jdk_29_method_69_code (2 : Nat) (Option.some Jvm.ClassFile.FieldType.int)]
set_option maxRecDepth 65536 in
theorem codes_eq : words1.filter isCode = codes1 := rfl
theorem w_codes : ∀ c ∈ words1.filter isCode, c.before args0 about1 = true := by
  rw [codes_eq]
  intro c hc
  simp only [codes1, List.mem_cons, List.not_mem_nil, or_false] at hc
  rcases hc with rfl | rfl | rfl | rfl | rfl | rfl | rfl | rfl | rfl | rfl | rfl | rfl | rfl | rfl | rfl | rfl
  · exact w_c0
  · exact w_c1
  · exact w_c2
  · exact w_c3
  · exact w_c4
  · exact w_c5
  · exact w_c6
  · exact w_c7
  · exact w_c8
  · exact w_c9
  · exact w_c10
  · exact w_c11
  · exact w_c12
  · exact w_c13
  · exact w_c14
  · exact w_c15
set_option maxRecDepth 65536 in
theorem w_t1 : (words1.take 24).all (fun c => isCode c || c.before args0 about1) = true := by decide +kernel
set_option maxRecDepth 65536 in
theorem w_t2 : ((words1.drop 24).take 24).all (fun c => isCode c || c.before args0 about1) = true := by decide +kernel
set_option maxRecDepth 65536 in
theorem w_t3 : (((words1.drop 24).drop 24).take 24).all (fun c => isCode c || c.before args0 about1) = true := by decide +kernel
set_option maxRecDepth 65536 in
theorem w_t4 : ((((words1.drop 24).drop 24).drop 24).take 24).all (fun c => isCode c || c.before args0 about1) = true := by decide +kernel
set_option maxRecDepth 65536 in
theorem w_t5 : ((((words1.drop 24).drop 24).drop 24).drop 24).all (fun c => isCode c || c.before args0 about1) = true := by decide +kernel
theorem w_tables : (allAtoms (Jvm.Cond.code x code maxLocals ret :: tables_1)).before args0 about1 = true := by
  rw [allAtoms_all]
  show words1.all (fun c => c.before args0 about1) = true
  refine all_split ?_ w_codes
  rw [← List.take_append_drop 24 words1, List.all_append, w_t1, ← List.take_append_drop 24 (words1.drop 24), List.all_append, w_t2, ← List.take_append_drop 24 ((words1.drop 24).drop 24), List.all_append, w_t3, ← List.take_append_drop 24 (((words1.drop 24).drop 24).drop 24), List.all_append, w_t4, w_t5]
  rfl
set_option maxRecDepth 65536 in
theorem w_case : (Jvm.Cond.and given_1 narrow_1).before args0 about1 = true := by decide +kernel
theorem w_applies : (headSpec (Jvm.Cond.code x code maxLocals ret :: tables_1) room_1).applies x e0.platform about1 = true :=
  (Spec.applies_iff w_frames).mpr ⟨w_running, w_runnable, w_alone, w_named, w_hears, w_ripe, w_room, w_tables⟩
theorem atStart : AtStart classFile x code maxLocals ret World_1 tables_1 room_1 Calls_1 rest_1 Pre_1 launch0 p0 e0 about1 theMethod args0 below0 :=
  ⟨lists_1, trivial, launch0.admits_env _ _ _, launch0.least_env, fairChoices_fair.cas, fairChoices_fair.clock, w_frames, w_args, w_heap, w_applies, trivial, trivial, w_case⟩
end start1
theorem witness_1 : WitnessClaimed_1 := ⟨start1.p0, start1.e0, start1.about1, start1.theMethod, start1.args0, start1.below0, start1.atStart⟩
end Jvm.Pilot.@@N@@
