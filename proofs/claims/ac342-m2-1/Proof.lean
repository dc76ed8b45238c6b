import JvmDerived
import JvmDerived.Pilot.@@N@@Statement
import JvmDerived.Pilot.@@N@@Code
set_option linter.unusedVariables false
set_option linter.unusedSimpArgs false
namespace Jvm.RoadKit
open Sem ClassFile Op Lib Jvm.Stand Jvm.Free Jvm.LawKit
section New
variable {p : Program} {l : Launch} {e : Env} {R : Room} {s : State} {m : MethodId} {args : Array Value} {below : List Frame} {meth : Method} {c : Code} {T : State} {locs : List Loc} {cells slots : Nat}
theorem retI (X : Stand p l e R s m args below meth c T locs cells slots) (hx : p.tables.exec = Jvm.exec) {pc : Nat} {Ls : Array Slot} {z : Int32} {rest : List Value} (hret : meth.sig.returnType = some .int) (hd : decode c.code pc = .ok (.ireturn, 1)) {fs : List Frame}
    (hl : ∀ (f : JFrame) (acts : List Action), f.method = m → f.locked = none → f.entered = [] → (doReturn e (T.setTop f) acts (some (.int z))).1 = T.setFrames fs) : Steps p.tables e below (T.setTop (mkF m pc Ls (.int z :: rest))) (T.setFrames fs) := by
  have hm' : T.vm.method? m = some meth := X.method'
  have hn : narrow .int (.int z) = .int z := rfl
  show Steps p.tables e below (T.setTop { method := m, pc := pc, locals := Ls, stack := _ :: rest, locked := none }) _
  jvm_step X.here [X.here.top, hx, hd, hm', hret, hn]
  first | (intro acts; rw [hl _ acts rfl rfl rfl]) | rw [hl _ _ rfl rfl rfl]
  exact Steps.refl _
/-- where a run is to come: it has ended, returning, with Q of what it returned, its heap and what it wrote -/
def own_End (s : State) (below : List Frame) (Q : Option Value → Heap → List Loc → Prop) (cc nn : Nat) (t : State) (o : Outcome) : Prop :=
  t.status = .running ∧ Ended t below o ∧ ∃ v L, o = .returned v ∧ Q v t.heap L ∧ FrameEnd s o t L cc nn
/-- from A the run comes to such an end -/
def own_Go (p : Program) (e : Env) (below : List Frame) (G : State → Outcome → Prop) (A : State) : Prop := ∃ t o, Steps p.tables e below A t ∧ G t o
theorem own_st {G : State → Outcome → Prop} {A B : State} (h : ∀ t, Steps p.tables e below B t → Steps p.tables e below A t) (k : own_Go p e below G B) : own_Go p e below G A := by
  obtain ⟨t, o, h1, h2⟩ := k
  exact ⟨t, o, h t h1, h2⟩
theorem own_retZ (X : Stand p l e R s m args below meth c T locs cells slots) (hx : p.tables.exec = Jvm.exec) (hlk : meth.locks = false) {t : FieldType} (hret : meth.sig.returnType = some t) (ht : t = .boolean ∨ t = .byte ∨ t = .char ∨ t = .short)
    {pc : Nat} {Ls : Array Slot} {z : Int32} {rest : List Value} (hd : decode c.code pc = .ok (.ireturn, 1)) {Q : Option Value → Heap → List Loc → Prop} {cc nn : Nat} (hq : Q (some (.int (nar t z))) T.heap locs) (hc : cells ≤ cc) (hn : slots ≤ nn) :
    own_Go p e below (own_End s below Q cc nn) (T.setTop (mkF m pc Ls (.int z :: rest))) := by
  obtain ⟨fs, hr, hrun, hended, hW, hsame⟩ := X.leave (v := some (.int (nar t z))) (fun h => by rw [hret] at h; cases h) hlk
  exact ⟨_, _, retN X hx hret ht hd hr, hrun, hended, _, _, rfl, hq, ⟨_, rfl⟩, hW, hsame.mono hc hn⟩
theorem own_retI (X : Stand p l e R s m args below meth c T locs cells slots) (hx : p.tables.exec = Jvm.exec) (hlk : meth.locks = false) (hret : meth.sig.returnType = some .int)
    {pc : Nat} {Ls : Array Slot} {z : Int32} {rest : List Value} (hd : decode c.code pc = .ok (.ireturn, 1)) {Q : Option Value → Heap → List Loc → Prop} {cc nn : Nat} (hq : Q (some (.int z)) T.heap locs) (hc : cells ≤ cc) (hn : slots ≤ nn) :
    own_Go p e below (own_End s below Q cc nn) (T.setTop (mkF m pc Ls (.int z :: rest))) := by
  obtain ⟨fs, hr, hrun, hended, hW, hsame⟩ := X.leave (v := some (.int z)) (fun h => by rw [hret] at h; cases h) hlk
  exact ⟨_, _, retI X hx hret hd hr, hrun, hended, _, _, rfl, hq, ⟨_, rfl⟩, hW, hsame.mono hc hn⟩
theorem own_retA (X : Stand p l e R s m args below meth c T locs cells slots) (hx : p.tables.exec = Jvm.exec) (hlk : meth.locks = false) {ty : FieldType} (hret : meth.sig.returnType = some ty) (hty : ty.isReference = true)
    {pc : Nat} {Ls : Array Slot} {v : Value} (hv : v.isRef = true) {rest : List Value} (hd : decode c.code pc = .ok (.areturn, 1)) {Q : Option Value → Heap → List Loc → Prop} {cc nn : Nat} (hq : Q (some v) T.heap locs) (hc : cells ≤ cc) (hn : slots ≤ nn) :
    own_Go p e below (own_End s below Q cc nn) (T.setTop (mkF m pc Ls (v :: rest))) := by
  obtain ⟨fs, hr, hrun, hended, hW, hsame⟩ := X.leave (v := some v) (fun h => by rw [hret] at h; cases h) hlk
  refine ⟨_, _, ?_, hrun, hended, _, _, rfl, hq, ⟨_, rfl⟩, hW, hsame.mono hc hn⟩
  have hm' : T.vm.method? m = some meth := X.method'
  show Steps p.tables e below (T.setTop { method := m, pc := pc, locals := Ls, stack := _ :: rest, locked := none }) _
  jvm_step X.here [X.here.top, hx, hd, hm', hret, hv, hty]
  first | (intro acts; rw [hr _ acts rfl rfl rfl]) | rw [hr _ _ rfl rfl rfl]
  exact Steps.refl _
theorem own_retV (X : Stand p l e R s m args below meth c T locs cells slots) (hx : p.tables.exec = Jvm.exec) (hlk : meth.locks = false) (hret : meth.sig.returnType = none)
    {pc : Nat} {Ls : Array Slot} (hd : decode c.code pc = .ok (.return_, 1)) {Q : Option Value → Heap → List Loc → Prop} {cc nn : Nat} (hq : Q none T.heap locs) (hc : cells ≤ cc) (hn : slots ≤ nn) :
    own_Go p e below (own_End s below Q cc nn) (T.setTop (mkF m pc Ls [])) := by
  obtain ⟨fs, hr, hrun, hended, hW, hsame⟩ := X.leave (v := none) (fun _ => rfl) hlk
  exact ⟨_, _, X.returnOut hx hret hd hr, hrun, hended, _, _, rfl, hq, ⟨_, rfl⟩, hW, hsame.mono hc hn⟩
/-- a body's contract: called with these values over this heap it returns, with Q -/
def own_Met (l : Launch) (Z : State) (y : MethodName) (bytes : ByteArray) (maxL : Nat) (ret : Option FieldType) (ws : List Cond) (rm : Room) (as' : Array Value) (h0 : Heap) (Q : Option Value → Heap → List Loc → Prop) : Prop :=
  MetFree l y (head1 (Cond.code y bytes maxL ret :: ws) rm) (fun a U => a = as' ∧ Z.Warmed39 U.vm ∧ U.heap = h0) (fun _ _ _ _ _ => True) (fun _ U o U' => ∃ v L, o = .returned v ∧ Q v U'.heap L ∧ FrameEnd U o U' L rm.cells rm.slots)
theorem own_body {Z : State} {y : MethodName} {bytes : ByteArray} {maxL : Nat} {ret : Option FieldType} {ws : List Cond} {rm : Room} {as' : Array Value} {h0 : Heap} {Q : Option Value → Heap → List Loc → Prop} (hpl : plainFor y = true)
    (k : ∀ (p : Program) (e : Env) (s : State) (m : MethodId) (below : List Frame) (meth : Method) (c : Code) (s₁ : State), p.tables.exec = Jvm.exec → c.code = bytes → c.maxLocals = maxL → s.vm.findClass y.cls = some m.cls → meth.name = y.name → meth.sig.returnType = ret → meth.locks = false → Z.Warmed39 s.vm →
      Stand p l e rm s m as' below meth c s₁ [] 0 0 → s₁.heap = h0 → ∀ G, G = own_End s below Q rm.cells rm.slots → own_Go p e below G (s₁.setTop (entryFrame m as' maxL))) :
    own_Met l Z y bytes maxL ret ws rm as' h0 Q := by
  refine MetFree.of_bodySF hpl hisR ?_
  intro p e s m args below meth c s₁ Bd hml0 hP hK
  obtain ⟨rfl, hZ, hh⟩ := hP
  have e0 : s₁.heap = h0 := by rw [← hh, Bd.state]; rfl
  exact k p e s m below meth c s₁ Bd.exec Bd.bytes hml0 (findClass_of_methodNamed Bd.named) (name_of_methodNamed Bd.named Bd.method).1 Bd.returns Bd.notSynchronized hZ (Stand.of_body Bd) e0 _ rfl
section Calls
variable {Z : State} {a0 : Array Value} {h : Heap}
theorem own_callS (X : Stand p l e R s m args below meth c T locs cells slots) (hx : p.tables.exec = Jvm.exec) (hZ : Z.Warmed39 s.vm) {own : String} {index : Nat} {y : MethodName} {bytes : ByteArray} {maxL : Nat} {ret : Option FieldType} (hown : s.vm.findClass own = some m.cls)
    (w1 : (Cond.methodLink own index y).before a0 Z = true) (w2 : (Cond.static y).before a0 Z = true) (w3 : (Cond.initialized y.cls).before a0 Z = true) (w4 : (Cond.code y bytes maxL ret).before a0 Z = true)
    (hy : y.cls ≠ "java/lang/invoke/MethodHandle" ∧ y.cls ≠ "java/lang/invoke/VarHandle") {rm : Room} {as' : Array Value} {Q : Option Value → Heap → List Loc → Prop} {W : Nat} (hM : own_Met l Z y bytes maxL ret [] rm as' h Q)
    (hf : rm.frames + 1 ≤ R.frames) (hl : W + (maxL + 11) + rm.locals ≤ R.locals) (eT : T.heap = h) {g : JFrame} (hg : g.method = m) (hsize : g.locals.size = c.maxLocals) {argsL rest : List Value}
    {ps : List FieldType} {r : Option FieldType} (hd : parseMethodDescriptor y.desc = some ⟨ps, r⟩) (hlen : argsL.length = ps.length) (hstack : g.stack = argsL.reverse ++ rest) (hW : 2 * g.monitorRoom + (rest.map fun v => v.category).sum ≤ W)
    (hdg : decode c.code g.pc = .ok (.invokestatic index, 3)) (ha : argsL.toArray = as') (hc : cells + rm.cells ≤ R.cells) (hn : slots + rm.slots ≤ R.slots) :
    ∃ (v : Option Value) (T' : State) (L : List Loc), Stand p l e R s m args below meth c T' (locs ++ L) (cells + rm.cells) (slots + rm.slots) ∧ Q v T'.heap L ∧
      ∀ target, Steps p.tables e below (T'.setTop { g with pc := g.pc + 3, stack := v.toList ++ rest }) target → Steps p.tables e below (T.setTop g) target := by
  obtain ⟨v, vm1, ⟨T', L', k', n'⟩, -, X', ⟨Lc, hQ, l1, l2, l3⟩, st⟩ := Jvm.LawKit.callS X hx (y := y) hown (mvT hZ w1) (mvT hZ w2) (mvT hZ w3) (mvT hZ w4) hy (backOf (W := W) hM hZ w4 w3 hf hl) hg hsize (argsL := argsL) (rest := rest) (lenOf hd hlen) hstack hW hdg (fun _ _ => ⟨ha, eT, hc, hn⟩)
  dsimp only [Pt.U, Pt.locs, Pt.cells, Pt.slots] at X' l1 l2 l3 st hQ
  subst l1 l2 l3
  exact ⟨v, T', Lc, X', hQ, st⟩
theorem own_callC (X : Stand p l e R s m args below meth c T locs cells slots) (hx : p.tables.exec = Jvm.exec) (hZ : Z.Warmed39 s.vm) {own : String} {index : Nat} {y : MethodName} {bytes : ByteArray} {maxL : Nat} (hn1 : y.name = "<init>") (hown : s.vm.findClass own = some m.cls)
    (w1 : (Cond.methodLink own index y).before a0 Z = true) (w2 : (Cond.instanceMethod y).before a0 Z = true) (w3 : (Cond.initialized y.cls).before a0 Z = true) (w4 : (Cond.code y bytes maxL none).before a0 Z = true)
    (hy : y.cls ≠ "java/lang/invoke/MethodHandle" ∧ y.cls ≠ "java/lang/invoke/VarHandle") {rm : Room} {as' : Array Value} {Q : Option Value → Heap → List Loc → Prop} {W : Nat} (hM : own_Met l Z y bytes maxL none [] rm as' h Q)
    (hf : rm.frames + 1 ≤ R.frames) (hl : W + (maxL + 11) + rm.locals ≤ R.locals) (eT : T.heap = h) {g : JFrame} (hg : g.method = m) (hsize : g.locals.size = c.maxLocals) {a : Addr} {argsL rest : List Value}
    {ps : List FieldType} {r : Option FieldType} (hd : parseMethodDescriptor y.desc = some ⟨ps, r⟩) (hlen : argsL.length = ps.length) (hstack : g.stack = argsL.reverse ++ .ref a :: rest) (hW : 2 * g.monitorRoom + (rest.map fun v => v.category).sum ≤ W)
    (hdg : decode c.code g.pc = .ok (.invokespecial index, 3)) (ha : (.ref a :: argsL).toArray = as') (hc : cells + rm.cells ≤ R.cells) (hn : slots + rm.slots ≤ R.slots) :
    ∃ (v : Option Value) (T' : State) (L : List Loc), Stand p l e R s m args below meth c T' (locs ++ L) (cells + rm.cells) (slots + rm.slots) ∧ Q v T'.heap L ∧
      ∀ target, Steps p.tables e below (T'.setTop { g with pc := g.pc + 3, stack := v.toList ++ rest }) target → Steps p.tables e below (T.setTop g) target := by
  obtain ⟨v, vm1, ⟨T', L', k', n'⟩, -, X', ⟨Lc, hQ, l1, l2, l3⟩, st⟩ := X.specialBack hx (y := y) hn1 hown (mvT hZ w1) (mvT hZ w2) (mvT hZ w4) hy (backOf (W := W) hM hZ w4 w3 hf hl) hg hsize (Steps.refl _) (a := a) (argsL := argsL) (rest := rest) (lenOf hd hlen) hstack hW hdg (fun _ _ => ⟨ha, eT, hc, hn⟩)
  dsimp only [Pt.U, Pt.locs, Pt.cells, Pt.slots] at X' l1 l2 l3 st hQ
  subst l1 l2 l3
  exact ⟨v, T', Lc, X', hQ, fun t k => st.trans k⟩
theorem own_callV (X : Stand p l e R s m args below meth c T locs cells slots) (hx : p.tables.exec = Jvm.exec) (hZ : Z.Warmed39 s.vm) {own C : String} {index : Nat} {y z : MethodName} {bytes : ByteArray} {maxL : Nat} {ret : Option FieldType} (hown : s.vm.findClass own = some m.cls)
    (w1 : (Cond.methodLink own index y).before a0 Z = true) (w2 : (Cond.declares y).before a0 Z = true) (hnf : NotFace s y) (w5 : (Cond.selects C y z).before a0 Z = true) (w6 : (Cond.instanceMethod z).before a0 Z = true) (w3 : (Cond.initialized z.cls).before a0 Z = true) (w4 : (Cond.code z bytes maxL ret).before a0 Z = true)
    (hy : y.cls ≠ "java/lang/invoke/MethodHandle" ∧ y.cls ≠ "java/lang/invoke/VarHandle") {rm : Room} {as' : Array Value} {Q : Option Value → Heap → List Loc → Prop} {W : Nat} (hM : own_Met l Z z bytes maxL ret [] rm as' h Q)
    (hf : rm.frames + 1 ≤ R.frames) (hl : W + (maxL + 11) + rm.locals ≤ R.locals) (eT : T.heap = h) {a : Addr} (E : Exa Z h a C) {g : JFrame} (hg : g.method = m) (hsize : g.locals.size = c.maxLocals) {argsL rest : List Value}
    {ps : List FieldType} {r : Option FieldType} (hd : parseMethodDescriptor y.desc = some ⟨ps, r⟩) (hlen : argsL.length = ps.length) (hstack : g.stack = argsL.reverse ++ .ref a :: rest) (hW : 2 * g.monitorRoom + (rest.map fun v => v.category).sum ≤ W)
    (hdg : decode c.code g.pc = .ok (.invokevirtual index, 3)) (ha : (.ref a :: argsL).toArray = as') (hc : cells + rm.cells ≤ R.cells) (hn : slots + rm.slots ≤ R.slots) :
    ∃ (v : Option Value) (T' : State) (L : List Loc), Stand p l e R s m args below meth c T' (locs ++ L) (cells + rm.cells) (slots + rm.slots) ∧ Q v T'.heap L ∧
      ∀ target, Steps p.tables e below (T'.setTop { g with pc := g.pc + 3, stack := v.toList ++ rest }) target → Steps p.tables e below (T.setTop g) target := by
  obtain ⟨cq, kq, q1, q2, q3⟩ := isOf hZ eT E
  obtain ⟨v, vm1, ⟨T', L', k', n'⟩, -, X', ⟨Lc, hQ, l1, l2, l3⟩, st⟩ := X.virtualBack hx (y := y) (z := z) hown (mvT hZ w1) (mvT hZ w2) hnf (mvT hZ w5) (mvT hZ w6) hy (backOf (W := W) hM hZ w4 w3 hf hl) q1 q3 hg hsize (Steps.refl _) (argsL := argsL) (rest := rest) (lenOf hd hlen) hstack hW hdg (fun _ _ => ⟨ha, eT, hc, hn⟩)
  dsimp only [Pt.U, Pt.locs, Pt.cells, Pt.slots] at X' l1 l2 l3 st hQ
  subst l1 l2 l3
  exact ⟨v, T', Lc, X', hQ, fun t k => st.trans k⟩
end Calls
section Words
variable {Z : State} {a0 : Array Value}
theorem own_exa {t : Term} {C : String} (h : (Cond.exactly t C).value a0 Z none Z [] = some true) : ∃ a, t.eval a0 Z none [] Z = some (.ref a) ∧ Exa Z Z.heap a C := by
  obtain ⟨a, e⟩ := exa_v h
  exact ⟨a, e, Exa.start e h⟩
theorem own_fldI {t : Term} {O n d : String} {k : Int32} {a : Addr} (h : (Cond.eq (.field t O n d) (.int k)).value a0 Z none Z [] = some true) (e : t.eval a0 Z none [] Z = some (.ref a)) : Fld Z Z.heap a O n d (.int k) := by
  obtain ⟨x, y, h1, h2, h3, h4⟩ := cmp_v (Or.inl h)
  cases (Term.int_eval k).symm.trans h2
  obtain ⟨q, rfl⟩ := h4
  obtain rfl := gotT (Cond.eq_ints h1 (Term.int_eval k)) h
  exact Fld.start ((fld_at e).symm.trans h1)
theorem own_fldJ {t : Term} {O n d : String} {k : Int64} {a : Addr} (h : (Cond.eq (.field t O n d) (.long k)).value a0 Z none Z [] = some true) (e : t.eval a0 Z none [] Z = some (.ref a)) : Fld Z Z.heap a O n d (.long k) := by
  obtain ⟨x, y, h1, h2, h3, h4⟩ := cmp_v (Or.inl h)
  cases (long_at k).symm.trans h2
  obtain ⟨q, rfl⟩ := h4
  obtain rfl := gotT (eq_L h1 (long_at k)) h
  exact Fld.start ((fld_at e).symm.trans h1)
theorem own_el {t u : Term} {i : Int32} {ca a : Addr} {cl : Cell} (h : (Cond.eq (.elem t (.int i)) u).value a0 Z none Z [] = some true) (ht : t.eval a0 Z none [] Z = some (.ref ca)) (hu : u.eval a0 Z none [] Z = some (.ref a)) (hc : Z.heap[ca]? = some cl) : cl.slots[i.toNatClampNeg]? = some (.ref a) := by
  obtain ⟨x, y, h1, h2, h3, h4⟩ := cmp_v (Or.inl h)
  cases hu.symm.trans h2
  have hx : x.isRef = true := by cases x <;> simp [Kin, Value.isRef] at h3 h4 ⊢
  have e := gotT (eq_R h1 h2 hx rfl) h
  subst e
  exact (elem_in h1 ht (Term.int_eval i) hc).2
theorem own_len {t : Term} {n : Int32} {ca : Addr} {cl : Cell} (h : (Cond.eq (.length t) (.int n)).value a0 Z none Z [] = some true) (ht : t.eval a0 Z none [] Z = some (.ref ca)) (hc : Z.heap[ca]? = some cl) : cl.slots.size < 2 ^ 31 ∧ cl.slots.size.toInt32 = n := by
  obtain ⟨x, y, h1, h2, h3, h4⟩ := cmp_v (Or.inl h)
  obtain ⟨b, cell, e1, e2, e3, rfl⟩ := Jvm.Lib.length_spec h1
  cases ht.symm.trans e1
  cases hc.symm.trans (Jvm.Lib.arrayAt_spec e2).1
  exact ⟨e3, gotT (Cond.eq_ints h1 (Term.int_eval n)) h⟩
end Words
end New
end Jvm.RoadKit
namespace Jvm.Pilot.@@N@@
open Jvm Jvm.ClassFile Sem Op Lib Jvm.Free Jvm.Stand Jvm.LawKit Jvm.RoadKit Bundle Jvm.Pilot.@@N@@.Jvm.D
theorem own_pd0 : parseMethodDescriptor "()Z" = some ⟨[], some .boolean⟩ := by decide +kernel
def own_nu (r a b : Value) : Int32 := if r = a ∨ r = b then 0 else 1
theorem own_k12 (x : Int32) : ((x &&& 2147483647) % 12) = 0 ∨ ((x &&& 2147483647) % 12) = 1 ∨ ((x &&& 2147483647) % 12) = 2 ∨ ((x &&& 2147483647) % 12) = 3 ∨ ((x &&& 2147483647) % 12) = 4 ∨ ((x &&& 2147483647) % 12) = 5 ∨ ((x &&& 2147483647) % 12) = 6 ∨ ((x &&& 2147483647) % 12) = 7 ∨ ((x &&& 2147483647) % 12) = 8 ∨ ((x &&& 2147483647) % 12) = 9 ∨ ((x &&& 2147483647) % 12) = 10 ∨ ((x &&& 2147483647) % 12) = 11 := by
  have h1 := (c_andS x 2147483647).2.2 (by decide)
  have h2 := (c_irem (x &&& 2147483647) 12 12 rfl).1 h1
  simp only [← Int32.toInt_inj, show (0 : Int32).toInt = 0 from rfl, show (1 : Int32).toInt = 1 from rfl, show (2 : Int32).toInt = 2 from rfl, show (3 : Int32).toInt = 3 from rfl, show (4 : Int32).toInt = 4 from rfl, show (5 : Int32).toInt = 5 from rfl, show (6 : Int32).toInt = 6 from rfl, show (7 : Int32).toInt = 7 from rfl, show (8 : Int32).toInt = 8 from rfl, show (9 : Int32).toInt = 9 from rfl, show (10 : Int32).toInt = 10 from rfl, show (11 : Int32).toInt = 11 from rfl]
  omega
theorem own_nu1 {r a b : Addr} (h1 : r ≠ a) (h2 : r ≠ b) : own_nu (.ref r) (.ref a) (.ref b) = 1 := if_neg (fun q => q.elim (fun q => h1 (Value.ref.inj q)) (fun q => h2 (Value.ref.inj q)))
theorem d1_0 : decode prog_15_method_9_code 0 = .ok (.aload_n 0, 1) := by decide +kernel
theorem d1_1 : decode prog_15_method_9_code 1 = .ok (.getstatic 3, 3) := by decide +kernel
theorem d1_4 : decode prog_15_method_9_code 4 = .ok (.if_acmp .eq 14, 3) := by decide +kernel
theorem d1_7 : decode prog_15_method_9_code 7 = .ok (.aload_n 0, 1) := by decide +kernel
theorem d1_8 : decode prog_15_method_9_code 8 = .ok (.getstatic 37, 3) := by decide +kernel
theorem d1_11 : decode prog_15_method_9_code 11 = .ok (.if_acmp .eq 7, 3) := by decide +kernel
theorem d1_14 : decode prog_15_method_9_code 14 = .ok (.iconst 1, 1) := by decide +kernel
theorem d1_15 : decode prog_15_method_9_code 15 = .ok (.goto 4, 3) := by decide +kernel
theorem d1_18 : decode prog_15_method_9_code 18 = .ok (.iconst 0, 1) := by decide +kernel
theorem d1_19 : decode prog_15_method_9_code 19 = .ok (.ireturn, 1) := by decide +kernel
theorem pn_rm1 : plainFor (⟨"com/example/knowing_records/knowingrecords/data/ScalarType", "isNumeric", "()Z"⟩ : MethodName) = true := by decide +kernel
theorem ef_rm1 (m : MethodId) (x0 : Addr) : entryFrame m #[(.ref x0)] 1 = mkF m 0 #[.val (.ref x0)] [] := by first | (simp [entryFrame, mkF, argsToLocals, Value.category]; done) | rfl
set_option maxRecDepth 65536 in
set_option maxHeartbeats 40000000 in
theorem rm1 (l : Launch) (Z : State) (a0 : Array Value) (hw : ∀ d ∈ tables_1, d.before a0 Z = true) (r0 aBOOLEAN aSTRING : Addr) (h0 : Heap) (S0 : Sta Z h0 "com/example/knowing_records/knowingrecords/data/ScalarType" "BOOLEAN" "Lcom/example/knowing_records/knowingrecords/data/ScalarType;" (.ref aBOOLEAN)) (S1 : Sta Z h0 "com/example/knowing_records/knowingrecords/data/ScalarType" "STRING" "Lcom/example/knowing_records/knowingrecords/data/ScalarType;" (.ref aSTRING)) :
    own_Met l Z (⟨"com/example/knowing_records/knowingrecords/data/ScalarType", "isNumeric", "()Z"⟩ : MethodName) prog_15_method_9_code 1 (some .boolean) [] ({ frames := 0, cells := 0, slots := 0, locals := 0 } : Room) #[(.ref r0)] h0 (fun v h L => v = some (.int (own_nu (.ref r0) (.ref aBOOLEAN) (.ref aSTRING))) ∧ L = [] ∧ h = h0) := by
  refine own_body pn_rm1 ?_
  intro p e s m below meth c s₁ hx hby hml hown hnm hret hlk hZ X0 e0 G hG
  replace hml : c.maxLocals = 1 := hml
  replace hown : s.vm.findClass "com/example/knowing_records/knowingrecords/data/ScalarType" = some m.cls := hown
  rw [ef_rm1]
  show own_Go p e below G (s₁.setTop (mkF m 0 #[.val (.ref r0)] []))
  refine own_st (fun t k => XS.aloadN X0.here hx rfl (hb hby d1_0) rfl rfl  k) ?_
  show own_Go p e below G (s₁.setTop (mkF m 1 #[.val (.ref r0)] [(.ref r0)]))
  obtain ⟨T1, X1, e1, st1⟩ := getS X0 hx hZ hown (host := "") (hw _ (List.mem_of_getElem? (i := 35) rfl)) Via.refl e0 S0 (g := (mkF m 1 #[.val (.ref r0)] [(.ref r0)])) rfl (hb hby d1_1)
  refine own_st st1 ?_
  show own_Go p e below G (T1.setTop (mkF m 4 #[.val (.ref r0)] [(.ref aBOOLEAN), (.ref r0)]))
  by_cases c4_2 : ((.ref r0) : Value) = (.ref aBOOLEAN)
  · skip
    refine own_st (fun t k => Jvm.RoadKit.acmp (g := (mkF m 4 #[.val (.ref r0)] [(.ref aBOOLEAN), (.ref r0)])) X1 hx rfl rfl rfl (pc0 := 4) (pc' := 18) (same := true) rfl (hb hby d1_4) rfl (decide_eq_true c4_2) (by decide) (by decide) k) ?_
    show own_Go p e below G (T1.setTop (mkF m 18 #[.val (.ref r0)] []))
    refine own_st (fun t k => XS.iconst X1.here hx rfl (hb hby d1_18) k) ?_
    show own_Go p e below G (T1.setTop (mkF m 19 #[.val (.ref r0)] [(.int (0 : Int32))]))
    rw [hG]
    exact own_retZ X1 hx hlk (t := .boolean) hret (by simp) (hb hby d1_19) ⟨congrArg (fun z => some (Value.int z)) (show (0 : Int32) = own_nu (.ref r0) (.ref aBOOLEAN) (.ref aSTRING) from (if_pos (Or.inl c4_2)).symm), rfl, e1⟩ (by decide) (by decide)
  · skip
    refine own_st (fun t k => Jvm.RoadKit.acmp (g := (mkF m 4 #[.val (.ref r0)] [(.ref aBOOLEAN), (.ref r0)])) X1 hx rfl rfl rfl (pc0 := 4) (pc' := 7) (same := false) rfl (hb hby d1_4) rfl (decide_eq_false c4_2) (by decide) (by decide) k) ?_
    show own_Go p e below G (T1.setTop (mkF m 7 #[.val (.ref r0)] []))
    refine own_st (fun t k => XS.aloadN X1.here hx rfl (hb hby d1_7) rfl rfl  k) ?_
    show own_Go p e below G (T1.setTop (mkF m 8 #[.val (.ref r0)] [(.ref r0)]))
    obtain ⟨T3, X3, e3, st3⟩ := getS X1 hx hZ hown (host := "") (hw _ (List.mem_of_getElem? (i := 36) rfl)) Via.refl e1 S1 (g := (mkF m 8 #[.val (.ref r0)] [(.ref r0)])) rfl (hb hby d1_8)
    refine own_st st3 ?_
    show own_Go p e below G (T3.setTop (mkF m 11 #[.val (.ref r0)] [(.ref aSTRING), (.ref r0)]))
    by_cases c11_4 : ((.ref r0) : Value) = (.ref aSTRING)
    · skip
      refine own_st (fun t k => Jvm.RoadKit.acmp (g := (mkF m 11 #[.val (.ref r0)] [(.ref aSTRING), (.ref r0)])) X3 hx rfl rfl rfl (pc0 := 11) (pc' := 18) (same := true) rfl (hb hby d1_11) rfl (decide_eq_true c11_4) (by decide) (by decide) k) ?_
      show own_Go p e below G (T3.setTop (mkF m 18 #[.val (.ref r0)] []))
      refine own_st (fun t k => XS.iconst X3.here hx rfl (hb hby d1_18) k) ?_
      show own_Go p e below G (T3.setTop (mkF m 19 #[.val (.ref r0)] [(.int (0 : Int32))]))
      rw [hG]
      exact own_retZ X3 hx hlk (t := .boolean) hret (by simp) (hb hby d1_19) ⟨congrArg (fun z => some (Value.int z)) (show (0 : Int32) = own_nu (.ref r0) (.ref aBOOLEAN) (.ref aSTRING) from (if_pos (Or.inr c11_4)).symm), rfl, e3⟩ (by decide) (by decide)
    · skip
      refine own_st (fun t k => Jvm.RoadKit.acmp (g := (mkF m 11 #[.val (.ref r0)] [(.ref aSTRING), (.ref r0)])) X3 hx rfl rfl rfl (pc0 := 11) (pc' := 14) (same := false) rfl (hb hby d1_11) rfl (decide_eq_false c11_4) (by decide) (by decide) k) ?_
      show own_Go p e below G (T3.setTop (mkF m 14 #[.val (.ref r0)] []))
      refine own_st (fun t k => XS.iconst X3.here hx rfl (hb hby d1_14) k) ?_
      show own_Go p e below G (T3.setTop (mkF m 15 #[.val (.ref r0)] [(.int (1 : Int32))]))
      refine own_st (fun t k => XS.goto X3.here hx rfl (pc0 := 15) (pc' := 19) rfl (hb hby d1_15) (by decide) (by decide) k) ?_
      show own_Go p e below G (T3.setTop (mkF m 19 #[.val (.ref r0)] [(.int (1 : Int32))]))
      rw [hG]
      exact own_retZ X3 hx hlk (t := .boolean) hret (by simp) (hb hby d1_19) ⟨congrArg (fun z => some (Value.int z)) (show (1 : Int32) = own_nu (.ref r0) (.ref aBOOLEAN) (.ref aSTRING) from (if_neg (fun q => q.elim c4_2 c11_4)).symm), rfl, e3⟩ (by decide) (by decide)
theorem pn_rm0 : plainFor (⟨"com/example/knowing_records/knowingrecords/data/ScalarTypeIsNumericPinLaw", "law", "(I)Z"⟩ : MethodName) = true := by decide +kernel
theorem ef_rm0 (m : MethodId) (x0 : Int32) : entryFrame m #[(.int x0)] maxLocals = mkF m 0 #[.val (.int x0), .unset, .unset, .unset] [] := by first | (simp [entryFrame, mkF, argsToLocals, Value.category, maxLocals]; done) | rfl
set_option maxRecDepth 65536 in
set_option maxHeartbeats 40000000 in
theorem rm0 (l : Launch) (Z : State) (a0 : Array Value) (hw : ∀ d ∈ tables_1, d.before a0 Z = true) (ws : List Jvm.Cond) (x0 : Int32) (aBOOLEAN aBYTE aSHORT aINT aLONG aUBYTE aUSHORT aUINT aULONG aFLOAT aDOUBLE aSTRING : Addr) (h0 : Heap) (n0 : Nat) (Z0 : n0 ≤ h0.size) (OL : Old Z n0 h0) (SBOOLEAN : Sta Z Z.heap "com/example/knowing_records/knowingrecords/data/ScalarType" "BOOLEAN" "Lcom/example/knowing_records/knowingrecords/data/ScalarType;" (.ref aBOOLEAN)) (EBOOLEAN : Exa Z Z.heap aBOOLEAN "com/example/knowing_records/knowingrecords/data/ScalarType") (hBOOLEAN : own_nu (.ref aBOOLEAN) (.ref aBOOLEAN) (.ref aSTRING) = 0) (SBYTE : Sta Z Z.heap "com/example/knowing_records/knowingrecords/data/ScalarType" "BYTE" "Lcom/example/knowing_records/knowingrecords/data/ScalarType;" (.ref aBYTE)) (EBYTE : Exa Z Z.heap aBYTE "com/example/knowing_records/knowingrecords/data/ScalarType") (hBYTE : own_nu (.ref aBYTE) (.ref aBOOLEAN) (.ref aSTRING) = 1) (SSHORT : Sta Z Z.heap "com/example/knowing_records/knowingrecords/data/ScalarType" "SHORT" "Lcom/example/knowing_records/knowingrecords/data/ScalarType;" (.ref aSHORT)) (ESHORT : Exa Z Z.heap aSHORT "com/example/knowing_records/knowingrecords/data/ScalarType") (hSHORT : own_nu (.ref aSHORT) (.ref aBOOLEAN) (.ref aSTRING) = 1) (SINT : Sta Z Z.heap "com/example/knowing_records/knowingrecords/data/ScalarType" "INT" "Lcom/example/knowing_records/knowingrecords/data/ScalarType;" (.ref aINT)) (EINT : Exa Z Z.heap aINT "com/example/knowing_records/knowingrecords/data/ScalarType") (hINT : own_nu (.ref aINT) (.ref aBOOLEAN) (.ref aSTRING) = 1) (SLONG : Sta Z Z.heap "com/example/knowing_records/knowingrecords/data/ScalarType" "LONG" "Lcom/example/knowing_records/knowingrecords/data/ScalarType;" (.ref aLONG)) (ELONG : Exa Z Z.heap aLONG "com/example/knowing_records/knowingrecords/data/ScalarType") (hLONG : own_nu (.ref aLONG) (.ref aBOOLEAN) (.ref aSTRING) = 1) (SUBYTE : Sta Z Z.heap "com/example/knowing_records/knowingrecords/data/ScalarType" "UBYTE" "Lcom/example/knowing_records/knowingrecords/data/ScalarType;" (.ref aUBYTE)) (EUBYTE : Exa Z Z.heap aUBYTE "com/example/knowing_records/knowingrecords/data/ScalarType") (hUBYTE : own_nu (.ref aUBYTE) (.ref aBOOLEAN) (.ref aSTRING) = 1) (SUSHORT : Sta Z Z.heap "com/example/knowing_records/knowingrecords/data/ScalarType" "USHORT" "Lcom/example/knowing_records/knowingrecords/data/ScalarType;" (.ref aUSHORT)) (EUSHORT : Exa Z Z.heap aUSHORT "com/example/knowing_records/knowingrecords/data/ScalarType") (hUSHORT : own_nu (.ref aUSHORT) (.ref aBOOLEAN) (.ref aSTRING) = 1) (SUINT : Sta Z Z.heap "com/example/knowing_records/knowingrecords/data/ScalarType" "UINT" "Lcom/example/knowing_records/knowingrecords/data/ScalarType;" (.ref aUINT)) (EUINT : Exa Z Z.heap aUINT "com/example/knowing_records/knowingrecords/data/ScalarType") (hUINT : own_nu (.ref aUINT) (.ref aBOOLEAN) (.ref aSTRING) = 1) (SULONG : Sta Z Z.heap "com/example/knowing_records/knowingrecords/data/ScalarType" "ULONG" "Lcom/example/knowing_records/knowingrecords/data/ScalarType;" (.ref aULONG)) (EULONG : Exa Z Z.heap aULONG "com/example/knowing_records/knowingrecords/data/ScalarType") (hULONG : own_nu (.ref aULONG) (.ref aBOOLEAN) (.ref aSTRING) = 1) (SFLOAT : Sta Z Z.heap "com/example/knowing_records/knowingrecords/data/ScalarType" "FLOAT" "Lcom/example/knowing_records/knowingrecords/data/ScalarType;" (.ref aFLOAT)) (EFLOAT : Exa Z Z.heap aFLOAT "com/example/knowing_records/knowingrecords/data/ScalarType") (hFLOAT : own_nu (.ref aFLOAT) (.ref aBOOLEAN) (.ref aSTRING) = 1) (SDOUBLE : Sta Z Z.heap "com/example/knowing_records/knowingrecords/data/ScalarType" "DOUBLE" "Lcom/example/knowing_records/knowingrecords/data/ScalarType;" (.ref aDOUBLE)) (EDOUBLE : Exa Z Z.heap aDOUBLE "com/example/knowing_records/knowingrecords/data/ScalarType") (hDOUBLE : own_nu (.ref aDOUBLE) (.ref aBOOLEAN) (.ref aSTRING) = 1) (SSTRING : Sta Z Z.heap "com/example/knowing_records/knowingrecords/data/ScalarType" "STRING" "Lcom/example/knowing_records/knowingrecords/data/ScalarType;" (.ref aSTRING)) (ESTRING : Exa Z Z.heap aSTRING "com/example/knowing_records/knowingrecords/data/ScalarType") (hSTRING : own_nu (.ref aSTRING) (.ref aBOOLEAN) (.ref aSTRING) = 0) :
    own_Met l Z x code maxLocals ret ws room_1 #[(.int x0)] h0 (fun v h L => v = some (.int 1) ∧ Fr n0 L) := by
  refine own_body pn_rm0 ?_
  intro p e s m below meth c s₁ hx hby hml hown hnm hret hlk hZ X0 e0 G hG
  replace hml : c.maxLocals = 4 := hml
  replace hown : s.vm.findClass "com/example/knowing_records/knowingrecords/data/ScalarTypeIsNumericPinLaw" = some m.cls := hown
  rw [ef_rm0]
  have N0 := Fr.nil n0
  show own_Go p e below G (s₁.setTop (mkF m 0 #[.val (.int x0), .unset, .unset, .unset] []))
  refine own_st (fun t k => XS.bipush X0.here hx rfl (hb hby at_0) k) ?_
  show own_Go p e below G (s₁.setTop (mkF m 2 #[.val (.int x0), .unset, .unset, .unset] [(.int (12 : Int32))]))
  obtain ⟨T1, h1, k1, X1, e1, E1, A1, O1, st1⟩ := newR X0 hx hZ hown (hw _ (List.mem_of_getElem? (i := 0) rfl)) (hw _ (List.mem_of_getElem? (i := 1) rfl)) e0 (g := (mkF m 2 #[.val (.int x0), .unset, .unset, .unset] [(.int (12 : Int32))])) rfl (hb hby at_2) rfl (by decide) (cap := 12) (by decide) (by decide) (by decide) (by decide)
  obtain ⟨b1, gb1⟩ : ∃ z, z = h0.size := ⟨_, rfl⟩
  rw [← gb1] at A1 st1
  have g_b1 : n0 ≤ b1 := Nat.le_trans Z0 (Nat.le_of_eq gb1.symm)
  replace Z0 := Nat.le_trans Z0 E1.1
  replace OL := OL.ext E1
  have V_b1 : Arv Z h1 b1 k1 (.object "com/example/knowing_records/knowingrecords/data/ScalarType") (12 : Int32) [.null, .null, .null, .null, .null, .null, .null, .null, .null, .null, .null, .null] .null := (Arv.new A1 (by decide)).pad (pad_rep [] .null 12)
  refine own_st st1 ?_
  show own_Go p e below G (T1.setTop (mkF m 5 #[.val (.int x0), .unset, .unset, .unset] [(.ref b1)]))
  refine own_st (fun t k => XS.dup X1.here hx rfl (hb hby at_5) rfl rfl k) ?_
  show own_Go p e below G (T1.setTop (mkF m 6 #[.val (.int x0), .unset, .unset, .unset] [(.ref b1), (.ref b1)]))
  refine own_st (fun t k => XS.iconst X1.here hx rfl (hb hby at_6) k) ?_
  show own_Go p e below G (T1.setTop (mkF m 7 #[.val (.int x0), .unset, .unset, .unset] [(.int (0 : Int32)), (.ref b1), (.ref b1)]))
  obtain ⟨T2, X2, e2, st2⟩ := getS X1 hx hZ hown (host := "") (hw _ (List.mem_of_getElem? (i := 2) rfl)) Via.refl e1 (SBOOLEAN.ext OL.2) (g := (mkF m 7 #[.val (.int x0), .unset, .unset, .unset] [(.int (0 : Int32)), (.ref b1), (.ref b1)])) rfl (hb hby at_7)
  refine own_st st2 ?_
  show own_Go p e below G (T2.setTop (mkF m 10 #[.val (.int x0), .unset, .unset, .unset] [(.ref aBOOLEAN), (.int (0 : Int32)), (.ref b1), (.ref b1)]))
  obtain ⟨cl3, Ar3, qa3, Sa3, Na3, Ha3, Ga3⟩ := V_b1
  have hin3 : ¬ ((0 : Int32) < 0 ∨ cl3.slots.size ≤ ((0 : Int32)).toNatClampNeg) := inb_of Sa3 ⟨by decide, by decide⟩
  obtain ⟨T3, h3, X3, e3, W3, st3⟩ := stR X2 hx hZ e2 Ar3 (j := (0 : Int32)) hin3 rfl (Sto.ofV Ar3 qa3 O1 (Ins.self (EBOOLEAN.ext OL.2))) (g := (mkF m 10 #[.val (.int x0), .unset, .unset, .unset] [(.ref aBOOLEAN), (.int (0 : Int32)), (.ref b1), (.ref b1)])) rfl rfl (hb hby at_10)
  have V_b1 : Arv Z h3 b1 k1 (.object "com/example/knowing_records/knowingrecords/data/ScalarType") (12 : Int32) [(.ref aBOOLEAN), .null, .null, .null, .null, .null, .null, .null, .null, .null, .null, .null] .null := Arv.set Ar3 qa3 Sa3 Na3 Ha3 Ga3 rfl W3 0 rfl (Nat.le_of_ble_eq_true rfl)
  replace OL := OL.wr W3 g_b1
  replace Z0 := Nat.le_trans Z0 (Keep.of_wr W3).1
  replace N0 := Fr.snoc X3 N0 g_b1
  refine own_st st3 ?_
  show own_Go p e below G (T3.setTop (mkF m 11 #[.val (.int x0), .unset, .unset, .unset] [(.ref b1)]))
  refine own_st (fun t k => XS.dup X3.here hx rfl (hb hby at_11) rfl rfl k) ?_
  show own_Go p e below G (T3.setTop (mkF m 12 #[.val (.int x0), .unset, .unset, .unset] [(.ref b1), (.ref b1)]))
  refine own_st (fun t k => XS.iconst X3.here hx rfl (hb hby at_12) k) ?_
  show own_Go p e below G (T3.setTop (mkF m 13 #[.val (.int x0), .unset, .unset, .unset] [(.int (1 : Int32)), (.ref b1), (.ref b1)]))
  obtain ⟨T4, X4, e4, st4⟩ := getS X3 hx hZ hown (host := "") (hw _ (List.mem_of_getElem? (i := 6) rfl)) Via.refl e3 (SBYTE.ext OL.2) (g := (mkF m 13 #[.val (.int x0), .unset, .unset, .unset] [(.int (1 : Int32)), (.ref b1), (.ref b1)])) rfl (hb hby at_13)
  refine own_st st4 ?_
  show own_Go p e below G (T4.setTop (mkF m 16 #[.val (.int x0), .unset, .unset, .unset] [(.ref aBYTE), (.int (1 : Int32)), (.ref b1), (.ref b1)]))
  obtain ⟨cl5, Ar5, qa5, Sa5, Na5, Ha5, Ga5⟩ := V_b1
  have hin5 : ¬ ((1 : Int32) < 0 ∨ cl5.slots.size ≤ ((1 : Int32)).toNatClampNeg) := inb_of Sa5 ⟨by decide, by decide⟩
  obtain ⟨T5, h5, X5, e5, W5, st5⟩ := stR X4 hx hZ e4 Ar5 (j := (1 : Int32)) hin5 rfl (Sto.ofV Ar5 qa5 O1 (Ins.self (EBYTE.ext OL.2))) (g := (mkF m 16 #[.val (.int x0), .unset, .unset, .unset] [(.ref aBYTE), (.int (1 : Int32)), (.ref b1), (.ref b1)])) rfl rfl (hb hby at_16)
  have V_b1 : Arv Z h5 b1 k1 (.object "com/example/knowing_records/knowingrecords/data/ScalarType") (12 : Int32) [(.ref aBOOLEAN), (.ref aBYTE), .null, .null, .null, .null, .null, .null, .null, .null, .null, .null] .null := Arv.set Ar5 qa5 Sa5 Na5 Ha5 Ga5 rfl W5 1 rfl (Nat.le_of_ble_eq_true rfl)
  replace OL := OL.wr W5 g_b1
  replace Z0 := Nat.le_trans Z0 (Keep.of_wr W5).1
  replace N0 := Fr.snoc X5 N0 g_b1
  refine own_st st5 ?_
  show own_Go p e below G (T5.setTop (mkF m 17 #[.val (.int x0), .unset, .unset, .unset] [(.ref b1)]))
  refine own_st (fun t k => XS.dup X5.here hx rfl (hb hby at_17) rfl rfl k) ?_
  show own_Go p e below G (T5.setTop (mkF m 18 #[.val (.int x0), .unset, .unset, .unset] [(.ref b1), (.ref b1)]))
  refine own_st (fun t k => XS.iconst X5.here hx rfl (hb hby at_18) k) ?_
  show own_Go p e below G (T5.setTop (mkF m 19 #[.val (.int x0), .unset, .unset, .unset] [(.int (2 : Int32)), (.ref b1), (.ref b1)]))
  obtain ⟨T6, X6, e6, st6⟩ := getS X5 hx hZ hown (host := "") (hw _ (List.mem_of_getElem? (i := 8) rfl)) Via.refl e5 (SSHORT.ext OL.2) (g := (mkF m 19 #[.val (.int x0), .unset, .unset, .unset] [(.int (2 : Int32)), (.ref b1), (.ref b1)])) rfl (hb hby at_19)
  refine own_st st6 ?_
  show own_Go p e below G (T6.setTop (mkF m 22 #[.val (.int x0), .unset, .unset, .unset] [(.ref aSHORT), (.int (2 : Int32)), (.ref b1), (.ref b1)]))
  obtain ⟨cl7, Ar7, qa7, Sa7, Na7, Ha7, Ga7⟩ := V_b1
  have hin7 : ¬ ((2 : Int32) < 0 ∨ cl7.slots.size ≤ ((2 : Int32)).toNatClampNeg) := inb_of Sa7 ⟨by decide, by decide⟩
  obtain ⟨T7, h7, X7, e7, W7, st7⟩ := stR X6 hx hZ e6 Ar7 (j := (2 : Int32)) hin7 rfl (Sto.ofV Ar7 qa7 O1 (Ins.self (ESHORT.ext OL.2))) (g := (mkF m 22 #[.val (.int x0), .unset, .unset, .unset] [(.ref aSHORT), (.int (2 : Int32)), (.ref b1), (.ref b1)])) rfl rfl (hb hby at_22)
  have V_b1 : Arv Z h7 b1 k1 (.object "com/example/knowing_records/knowingrecords/data/ScalarType") (12 : Int32) [(.ref aBOOLEAN), (.ref aBYTE), (.ref aSHORT), .null, .null, .null, .null, .null, .null, .null, .null, .null] .null := Arv.set Ar7 qa7 Sa7 Na7 Ha7 Ga7 rfl W7 2 rfl (Nat.le_of_ble_eq_true rfl)
  replace OL := OL.wr W7 g_b1
  replace Z0 := Nat.le_trans Z0 (Keep.of_wr W7).1
  replace N0 := Fr.snoc X7 N0 g_b1
  refine own_st st7 ?_
  show own_Go p e below G (T7.setTop (mkF m 23 #[.val (.int x0), .unset, .unset, .unset] [(.ref b1)]))
  refine own_st (fun t k => XS.dup X7.here hx rfl (hb hby at_23) rfl rfl k) ?_
  show own_Go p e below G (T7.setTop (mkF m 24 #[.val (.int x0), .unset, .unset, .unset] [(.ref b1), (.ref b1)]))
  refine own_st (fun t k => XS.iconst X7.here hx rfl (hb hby at_24) k) ?_
  show own_Go p e below G (T7.setTop (mkF m 25 #[.val (.int x0), .unset, .unset, .unset] [(.int (3 : Int32)), (.ref b1), (.ref b1)]))
  obtain ⟨T8, X8, e8, st8⟩ := getS X7 hx hZ hown (host := "") (hw _ (List.mem_of_getElem? (i := 10) rfl)) Via.refl e7 (SINT.ext OL.2) (g := (mkF m 25 #[.val (.int x0), .unset, .unset, .unset] [(.int (3 : Int32)), (.ref b1), (.ref b1)])) rfl (hb hby at_25)
  refine own_st st8 ?_
  show own_Go p e below G (T8.setTop (mkF m 28 #[.val (.int x0), .unset, .unset, .unset] [(.ref aINT), (.int (3 : Int32)), (.ref b1), (.ref b1)]))
  obtain ⟨cl9, Ar9, qa9, Sa9, Na9, Ha9, Ga9⟩ := V_b1
  have hin9 : ¬ ((3 : Int32) < 0 ∨ cl9.slots.size ≤ ((3 : Int32)).toNatClampNeg) := inb_of Sa9 ⟨by decide, by decide⟩
  obtain ⟨T9, h9, X9, e9, W9, st9⟩ := stR X8 hx hZ e8 Ar9 (j := (3 : Int32)) hin9 rfl (Sto.ofV Ar9 qa9 O1 (Ins.self (EINT.ext OL.2))) (g := (mkF m 28 #[.val (.int x0), .unset, .unset, .unset] [(.ref aINT), (.int (3 : Int32)), (.ref b1), (.ref b1)])) rfl rfl (hb hby at_28)
  have V_b1 : Arv Z h9 b1 k1 (.object "com/example/knowing_records/knowingrecords/data/ScalarType") (12 : Int32) [(.ref aBOOLEAN), (.ref aBYTE), (.ref aSHORT), (.ref aINT), .null, .null, .null, .null, .null, .null, .null, .null] .null := Arv.set Ar9 qa9 Sa9 Na9 Ha9 Ga9 rfl W9 3 rfl (Nat.le_of_ble_eq_true rfl)
  replace OL := OL.wr W9 g_b1
  replace Z0 := Nat.le_trans Z0 (Keep.of_wr W9).1
  replace N0 := Fr.snoc X9 N0 g_b1
  refine own_st st9 ?_
  show own_Go p e below G (T9.setTop (mkF m 29 #[.val (.int x0), .unset, .unset, .unset] [(.ref b1)]))
  refine own_st (fun t k => XS.dup X9.here hx rfl (hb hby at_29) rfl rfl k) ?_
  show own_Go p e below G (T9.setTop (mkF m 30 #[.val (.int x0), .unset, .unset, .unset] [(.ref b1), (.ref b1)]))
  refine own_st (fun t k => XS.iconst X9.here hx rfl (hb hby at_30) k) ?_
  show own_Go p e below G (T9.setTop (mkF m 31 #[.val (.int x0), .unset, .unset, .unset] [(.int (4 : Int32)), (.ref b1), (.ref b1)]))
  obtain ⟨T10, X10, e10, st10⟩ := getS X9 hx hZ hown (host := "") (hw _ (List.mem_of_getElem? (i := 12) rfl)) Via.refl e9 (SLONG.ext OL.2) (g := (mkF m 31 #[.val (.int x0), .unset, .unset, .unset] [(.int (4 : Int32)), (.ref b1), (.ref b1)])) rfl (hb hby at_31)
  refine own_st st10 ?_
  show own_Go p e below G (T10.setTop (mkF m 34 #[.val (.int x0), .unset, .unset, .unset] [(.ref aLONG), (.int (4 : Int32)), (.ref b1), (.ref b1)]))
  obtain ⟨cl11, Ar11, qa11, Sa11, Na11, Ha11, Ga11⟩ := V_b1
  have hin11 : ¬ ((4 : Int32) < 0 ∨ cl11.slots.size ≤ ((4 : Int32)).toNatClampNeg) := inb_of Sa11 ⟨by decide, by decide⟩
  obtain ⟨T11, h11, X11, e11, W11, st11⟩ := stR X10 hx hZ e10 Ar11 (j := (4 : Int32)) hin11 rfl (Sto.ofV Ar11 qa11 O1 (Ins.self (ELONG.ext OL.2))) (g := (mkF m 34 #[.val (.int x0), .unset, .unset, .unset] [(.ref aLONG), (.int (4 : Int32)), (.ref b1), (.ref b1)])) rfl rfl (hb hby at_34)
  have V_b1 : Arv Z h11 b1 k1 (.object "com/example/knowing_records/knowingrecords/data/ScalarType") (12 : Int32) [(.ref aBOOLEAN), (.ref aBYTE), (.ref aSHORT), (.ref aINT), (.ref aLONG), .null, .null, .null, .null, .null, .null, .null] .null := Arv.set Ar11 qa11 Sa11 Na11 Ha11 Ga11 rfl W11 4 rfl (Nat.le_of_ble_eq_true rfl)
  replace OL := OL.wr W11 g_b1
  replace Z0 := Nat.le_trans Z0 (Keep.of_wr W11).1
  replace N0 := Fr.snoc X11 N0 g_b1
  refine own_st st11 ?_
  show own_Go p e below G (T11.setTop (mkF m 35 #[.val (.int x0), .unset, .unset, .unset] [(.ref b1)]))
  refine own_st (fun t k => XS.dup X11.here hx rfl (hb hby at_35) rfl rfl k) ?_
  show own_Go p e below G (T11.setTop (mkF m 36 #[.val (.int x0), .unset, .unset, .unset] [(.ref b1), (.ref b1)]))
  refine own_st (fun t k => XS.iconst X11.here hx rfl (hb hby at_36) k) ?_
  show own_Go p e below G (T11.setTop (mkF m 37 #[.val (.int x0), .unset, .unset, .unset] [(.int (5 : Int32)), (.ref b1), (.ref b1)]))
  obtain ⟨T12, X12, e12, st12⟩ := getS X11 hx hZ hown (host := "") (hw _ (List.mem_of_getElem? (i := 14) rfl)) Via.refl e11 (SUBYTE.ext OL.2) (g := (mkF m 37 #[.val (.int x0), .unset, .unset, .unset] [(.int (5 : Int32)), (.ref b1), (.ref b1)])) rfl (hb hby at_37)
  refine own_st st12 ?_
  show own_Go p e below G (T12.setTop (mkF m 40 #[.val (.int x0), .unset, .unset, .unset] [(.ref aUBYTE), (.int (5 : Int32)), (.ref b1), (.ref b1)]))
  obtain ⟨cl13, Ar13, qa13, Sa13, Na13, Ha13, Ga13⟩ := V_b1
  have hin13 : ¬ ((5 : Int32) < 0 ∨ cl13.slots.size ≤ ((5 : Int32)).toNatClampNeg) := inb_of Sa13 ⟨by decide, by decide⟩
  obtain ⟨T13, h13, X13, e13, W13, st13⟩ := stR X12 hx hZ e12 Ar13 (j := (5 : Int32)) hin13 rfl (Sto.ofV Ar13 qa13 O1 (Ins.self (EUBYTE.ext OL.2))) (g := (mkF m 40 #[.val (.int x0), .unset, .unset, .unset] [(.ref aUBYTE), (.int (5 : Int32)), (.ref b1), (.ref b1)])) rfl rfl (hb hby at_40)
  have V_b1 : Arv Z h13 b1 k1 (.object "com/example/knowing_records/knowingrecords/data/ScalarType") (12 : Int32) [(.ref aBOOLEAN), (.ref aBYTE), (.ref aSHORT), (.ref aINT), (.ref aLONG), (.ref aUBYTE), .null, .null, .null, .null, .null, .null] .null := Arv.set Ar13 qa13 Sa13 Na13 Ha13 Ga13 rfl W13 5 rfl (Nat.le_of_ble_eq_true rfl)
  replace OL := OL.wr W13 g_b1
  replace Z0 := Nat.le_trans Z0 (Keep.of_wr W13).1
  replace N0 := Fr.snoc X13 N0 g_b1
  refine own_st st13 ?_
  show own_Go p e below G (T13.setTop (mkF m 41 #[.val (.int x0), .unset, .unset, .unset] [(.ref b1)]))
  refine own_st (fun t k => XS.dup X13.here hx rfl (hb hby at_41) rfl rfl k) ?_
  show own_Go p e below G (T13.setTop (mkF m 42 #[.val (.int x0), .unset, .unset, .unset] [(.ref b1), (.ref b1)]))
  refine own_st (fun t k => XS.bipush X13.here hx rfl (hb hby at_42) k) ?_
  show own_Go p e below G (T13.setTop (mkF m 44 #[.val (.int x0), .unset, .unset, .unset] [(.int (6 : Int32)), (.ref b1), (.ref b1)]))
  obtain ⟨T14, X14, e14, st14⟩ := getS X13 hx hZ hown (host := "") (hw _ (List.mem_of_getElem? (i := 16) rfl)) Via.refl e13 (SUSHORT.ext OL.2) (g := (mkF m 44 #[.val (.int x0), .unset, .unset, .unset] [(.int (6 : Int32)), (.ref b1), (.ref b1)])) rfl (hb hby at_44)
  refine own_st st14 ?_
  show own_Go p e below G (T14.setTop (mkF m 47 #[.val (.int x0), .unset, .unset, .unset] [(.ref aUSHORT), (.int (6 : Int32)), (.ref b1), (.ref b1)]))
  obtain ⟨cl15, Ar15, qa15, Sa15, Na15, Ha15, Ga15⟩ := V_b1
  have hin15 : ¬ ((6 : Int32) < 0 ∨ cl15.slots.size ≤ ((6 : Int32)).toNatClampNeg) := inb_of Sa15 ⟨by decide, by decide⟩
  obtain ⟨T15, h15, X15, e15, W15, st15⟩ := stR X14 hx hZ e14 Ar15 (j := (6 : Int32)) hin15 rfl (Sto.ofV Ar15 qa15 O1 (Ins.self (EUSHORT.ext OL.2))) (g := (mkF m 47 #[.val (.int x0), .unset, .unset, .unset] [(.ref aUSHORT), (.int (6 : Int32)), (.ref b1), (.ref b1)])) rfl rfl (hb hby at_47)
  have V_b1 : Arv Z h15 b1 k1 (.object "com/example/knowing_records/knowingrecords/data/ScalarType") (12 : Int32) [(.ref aBOOLEAN), (.ref aBYTE), (.ref aSHORT), (.ref aINT), (.ref aLONG), (.ref aUBYTE), (.ref aUSHORT), .null, .null, .null, .null, .null] .null := Arv.set Ar15 qa15 Sa15 Na15 Ha15 Ga15 rfl W15 6 rfl (Nat.le_of_ble_eq_true rfl)
  replace OL := OL.wr W15 g_b1
  replace Z0 := Nat.le_trans Z0 (Keep.of_wr W15).1
  replace N0 := Fr.snoc X15 N0 g_b1
  refine own_st st15 ?_
  show own_Go p e below G (T15.setTop (mkF m 48 #[.val (.int x0), .unset, .unset, .unset] [(.ref b1)]))
  refine own_st (fun t k => XS.dup X15.here hx rfl (hb hby at_48) rfl rfl k) ?_
  show own_Go p e below G (T15.setTop (mkF m 49 #[.val (.int x0), .unset, .unset, .unset] [(.ref b1), (.ref b1)]))
  refine own_st (fun t k => XS.bipush X15.here hx rfl (hb hby at_49) k) ?_
  show own_Go p e below G (T15.setTop (mkF m 51 #[.val (.int x0), .unset, .unset, .unset] [(.int (7 : Int32)), (.ref b1), (.ref b1)]))
  obtain ⟨T16, X16, e16, st16⟩ := getS X15 hx hZ hown (host := "") (hw _ (List.mem_of_getElem? (i := 18) rfl)) Via.refl e15 (SUINT.ext OL.2) (g := (mkF m 51 #[.val (.int x0), .unset, .unset, .unset] [(.int (7 : Int32)), (.ref b1), (.ref b1)])) rfl (hb hby at_51)
  refine own_st st16 ?_
  show own_Go p e below G (T16.setTop (mkF m 54 #[.val (.int x0), .unset, .unset, .unset] [(.ref aUINT), (.int (7 : Int32)), (.ref b1), (.ref b1)]))
  obtain ⟨cl17, Ar17, qa17, Sa17, Na17, Ha17, Ga17⟩ := V_b1
  have hin17 : ¬ ((7 : Int32) < 0 ∨ cl17.slots.size ≤ ((7 : Int32)).toNatClampNeg) := inb_of Sa17 ⟨by decide, by decide⟩
  obtain ⟨T17, h17, X17, e17, W17, st17⟩ := stR X16 hx hZ e16 Ar17 (j := (7 : Int32)) hin17 rfl (Sto.ofV Ar17 qa17 O1 (Ins.self (EUINT.ext OL.2))) (g := (mkF m 54 #[.val (.int x0), .unset, .unset, .unset] [(.ref aUINT), (.int (7 : Int32)), (.ref b1), (.ref b1)])) rfl rfl (hb hby at_54)
  have V_b1 : Arv Z h17 b1 k1 (.object "com/example/knowing_records/knowingrecords/data/ScalarType") (12 : Int32) [(.ref aBOOLEAN), (.ref aBYTE), (.ref aSHORT), (.ref aINT), (.ref aLONG), (.ref aUBYTE), (.ref aUSHORT), (.ref aUINT), .null, .null, .null, .null] .null := Arv.set Ar17 qa17 Sa17 Na17 Ha17 Ga17 rfl W17 7 rfl (Nat.le_of_ble_eq_true rfl)
  replace OL := OL.wr W17 g_b1
  replace Z0 := Nat.le_trans Z0 (Keep.of_wr W17).1
  replace N0 := Fr.snoc X17 N0 g_b1
  refine own_st st17 ?_
  show own_Go p e below G (T17.setTop (mkF m 55 #[.val (.int x0), .unset, .unset, .unset] [(.ref b1)]))
  refine own_st (fun t k => XS.dup X17.here hx rfl (hb hby at_55) rfl rfl k) ?_
  show own_Go p e below G (T17.setTop (mkF m 56 #[.val (.int x0), .unset, .unset, .unset] [(.ref b1), (.ref b1)]))
  refine own_st (fun t k => XS.bipush X17.here hx rfl (hb hby at_56) k) ?_
  show own_Go p e below G (T17.setTop (mkF m 58 #[.val (.int x0), .unset, .unset, .unset] [(.int (8 : Int32)), (.ref b1), (.ref b1)]))
  obtain ⟨T18, X18, e18, st18⟩ := getS X17 hx hZ hown (host := "") (hw _ (List.mem_of_getElem? (i := 20) rfl)) Via.refl e17 (SULONG.ext OL.2) (g := (mkF m 58 #[.val (.int x0), .unset, .unset, .unset] [(.int (8 : Int32)), (.ref b1), (.ref b1)])) rfl (hb hby at_58)
  refine own_st st18 ?_
  show own_Go p e below G (T18.setTop (mkF m 61 #[.val (.int x0), .unset, .unset, .unset] [(.ref aULONG), (.int (8 : Int32)), (.ref b1), (.ref b1)]))
  obtain ⟨cl19, Ar19, qa19, Sa19, Na19, Ha19, Ga19⟩ := V_b1
  have hin19 : ¬ ((8 : Int32) < 0 ∨ cl19.slots.size ≤ ((8 : Int32)).toNatClampNeg) := inb_of Sa19 ⟨by decide, by decide⟩
  obtain ⟨T19, h19, X19, e19, W19, st19⟩ := stR X18 hx hZ e18 Ar19 (j := (8 : Int32)) hin19 rfl (Sto.ofV Ar19 qa19 O1 (Ins.self (EULONG.ext OL.2))) (g := (mkF m 61 #[.val (.int x0), .unset, .unset, .unset] [(.ref aULONG), (.int (8 : Int32)), (.ref b1), (.ref b1)])) rfl rfl (hb hby at_61)
  have V_b1 : Arv Z h19 b1 k1 (.object "com/example/knowing_records/knowingrecords/data/ScalarType") (12 : Int32) [(.ref aBOOLEAN), (.ref aBYTE), (.ref aSHORT), (.ref aINT), (.ref aLONG), (.ref aUBYTE), (.ref aUSHORT), (.ref aUINT), (.ref aULONG), .null, .null, .null] .null := Arv.set Ar19 qa19 Sa19 Na19 Ha19 Ga19 rfl W19 8 rfl (Nat.le_of_ble_eq_true rfl)
  replace OL := OL.wr W19 g_b1
  replace Z0 := Nat.le_trans Z0 (Keep.of_wr W19).1
  replace N0 := Fr.snoc X19 N0 g_b1
  refine own_st st19 ?_
  show own_Go p e below G (T19.setTop (mkF m 62 #[.val (.int x0), .unset, .unset, .unset] [(.ref b1)]))
  refine own_st (fun t k => XS.dup X19.here hx rfl (hb hby at_62) rfl rfl k) ?_
  show own_Go p e below G (T19.setTop (mkF m 63 #[.val (.int x0), .unset, .unset, .unset] [(.ref b1), (.ref b1)]))
  refine own_st (fun t k => XS.bipush X19.here hx rfl (hb hby at_63) k) ?_
  show own_Go p e below G (T19.setTop (mkF m 65 #[.val (.int x0), .unset, .unset, .unset] [(.int (9 : Int32)), (.ref b1), (.ref b1)]))
  obtain ⟨T20, X20, e20, st20⟩ := getS X19 hx hZ hown (host := "") (hw _ (List.mem_of_getElem? (i := 22) rfl)) Via.refl e19 (SFLOAT.ext OL.2) (g := (mkF m 65 #[.val (.int x0), .unset, .unset, .unset] [(.int (9 : Int32)), (.ref b1), (.ref b1)])) rfl (hb hby at_65)
  refine own_st st20 ?_
  show own_Go p e below G (T20.setTop (mkF m 68 #[.val (.int x0), .unset, .unset, .unset] [(.ref aFLOAT), (.int (9 : Int32)), (.ref b1), (.ref b1)]))
  obtain ⟨cl21, Ar21, qa21, Sa21, Na21, Ha21, Ga21⟩ := V_b1
  have hin21 : ¬ ((9 : Int32) < 0 ∨ cl21.slots.size ≤ ((9 : Int32)).toNatClampNeg) := inb_of Sa21 ⟨by decide, by decide⟩
  obtain ⟨T21, h21, X21, e21, W21, st21⟩ := stR X20 hx hZ e20 Ar21 (j := (9 : Int32)) hin21 rfl (Sto.ofV Ar21 qa21 O1 (Ins.self (EFLOAT.ext OL.2))) (g := (mkF m 68 #[.val (.int x0), .unset, .unset, .unset] [(.ref aFLOAT), (.int (9 : Int32)), (.ref b1), (.ref b1)])) rfl rfl (hb hby at_68)
  have V_b1 : Arv Z h21 b1 k1 (.object "com/example/knowing_records/knowingrecords/data/ScalarType") (12 : Int32) [(.ref aBOOLEAN), (.ref aBYTE), (.ref aSHORT), (.ref aINT), (.ref aLONG), (.ref aUBYTE), (.ref aUSHORT), (.ref aUINT), (.ref aULONG), (.ref aFLOAT), .null, .null] .null := Arv.set Ar21 qa21 Sa21 Na21 Ha21 Ga21 rfl W21 9 rfl (Nat.le_of_ble_eq_true rfl)
  replace OL := OL.wr W21 g_b1
  replace Z0 := Nat.le_trans Z0 (Keep.of_wr W21).1
  replace N0 := Fr.snoc X21 N0 g_b1
  refine own_st st21 ?_
  show own_Go p e below G (T21.setTop (mkF m 69 #[.val (.int x0), .unset, .unset, .unset] [(.ref b1)]))
  refine own_st (fun t k => XS.dup X21.here hx rfl (hb hby at_69) rfl rfl k) ?_
  show own_Go p e below G (T21.setTop (mkF m 70 #[.val (.int x0), .unset, .unset, .unset] [(.ref b1), (.ref b1)]))
  refine own_st (fun t k => XS.bipush X21.here hx rfl (hb hby at_70) k) ?_
  show own_Go p e below G (T21.setTop (mkF m 72 #[.val (.int x0), .unset, .unset, .unset] [(.int (10 : Int32)), (.ref b1), (.ref b1)]))
  obtain ⟨T22, X22, e22, st22⟩ := getS X21 hx hZ hown (host := "") (hw _ (List.mem_of_getElem? (i := 24) rfl)) Via.refl e21 (SDOUBLE.ext OL.2) (g := (mkF m 72 #[.val (.int x0), .unset, .unset, .unset] [(.int (10 : Int32)), (.ref b1), (.ref b1)])) rfl (hb hby at_72)
  refine own_st st22 ?_
  show own_Go p e below G (T22.setTop (mkF m 75 #[.val (.int x0), .unset, .unset, .unset] [(.ref aDOUBLE), (.int (10 : Int32)), (.ref b1), (.ref b1)]))
  obtain ⟨cl23, Ar23, qa23, Sa23, Na23, Ha23, Ga23⟩ := V_b1
  have hin23 : ¬ ((10 : Int32) < 0 ∨ cl23.slots.size ≤ ((10 : Int32)).toNatClampNeg) := inb_of Sa23 ⟨by decide, by decide⟩
  obtain ⟨T23, h23, X23, e23, W23, st23⟩ := stR X22 hx hZ e22 Ar23 (j := (10 : Int32)) hin23 rfl (Sto.ofV Ar23 qa23 O1 (Ins.self (EDOUBLE.ext OL.2))) (g := (mkF m 75 #[.val (.int x0), .unset, .unset, .unset] [(.ref aDOUBLE), (.int (10 : Int32)), (.ref b1), (.ref b1)])) rfl rfl (hb hby at_75)
  have V_b1 : Arv Z h23 b1 k1 (.object "com/example/knowing_records/knowingrecords/data/ScalarType") (12 : Int32) [(.ref aBOOLEAN), (.ref aBYTE), (.ref aSHORT), (.ref aINT), (.ref aLONG), (.ref aUBYTE), (.ref aUSHORT), (.ref aUINT), (.ref aULONG), (.ref aFLOAT), (.ref aDOUBLE), .null] .null := Arv.set Ar23 qa23 Sa23 Na23 Ha23 Ga23 rfl W23 10 rfl (Nat.le_of_ble_eq_true rfl)
  replace OL := OL.wr W23 g_b1
  replace Z0 := Nat.le_trans Z0 (Keep.of_wr W23).1
  replace N0 := Fr.snoc X23 N0 g_b1
  refine own_st st23 ?_
  show own_Go p e below G (T23.setTop (mkF m 76 #[.val (.int x0), .unset, .unset, .unset] [(.ref b1)]))
  refine own_st (fun t k => XS.dup X23.here hx rfl (hb hby at_76) rfl rfl k) ?_
  show own_Go p e below G (T23.setTop (mkF m 77 #[.val (.int x0), .unset, .unset, .unset] [(.ref b1), (.ref b1)]))
  refine own_st (fun t k => XS.bipush X23.here hx rfl (hb hby at_77) k) ?_
  show own_Go p e below G (T23.setTop (mkF m 79 #[.val (.int x0), .unset, .unset, .unset] [(.int (11 : Int32)), (.ref b1), (.ref b1)]))
  obtain ⟨T24, X24, e24, st24⟩ := getS X23 hx hZ hown (host := "") (hw _ (List.mem_of_getElem? (i := 26) rfl)) Via.refl e23 (SSTRING.ext OL.2) (g := (mkF m 79 #[.val (.int x0), .unset, .unset, .unset] [(.int (11 : Int32)), (.ref b1), (.ref b1)])) rfl (hb hby at_79)
  refine own_st st24 ?_
  show own_Go p e below G (T24.setTop (mkF m 82 #[.val (.int x0), .unset, .unset, .unset] [(.ref aSTRING), (.int (11 : Int32)), (.ref b1), (.ref b1)]))
  obtain ⟨cl25, Ar25, qa25, Sa25, Na25, Ha25, Ga25⟩ := V_b1
  have hin25 : ¬ ((11 : Int32) < 0 ∨ cl25.slots.size ≤ ((11 : Int32)).toNatClampNeg) := inb_of Sa25 ⟨by decide, by decide⟩
  obtain ⟨T25, h25, X25, e25, W25, st25⟩ := stR X24 hx hZ e24 Ar25 (j := (11 : Int32)) hin25 rfl (Sto.ofV Ar25 qa25 O1 (Ins.self (ESTRING.ext OL.2))) (g := (mkF m 82 #[.val (.int x0), .unset, .unset, .unset] [(.ref aSTRING), (.int (11 : Int32)), (.ref b1), (.ref b1)])) rfl rfl (hb hby at_82)
  have V_b1 : Arv Z h25 b1 k1 (.object "com/example/knowing_records/knowingrecords/data/ScalarType") (12 : Int32) [(.ref aBOOLEAN), (.ref aBYTE), (.ref aSHORT), (.ref aINT), (.ref aLONG), (.ref aUBYTE), (.ref aUSHORT), (.ref aUINT), (.ref aULONG), (.ref aFLOAT), (.ref aDOUBLE), (.ref aSTRING)] .null := Arv.set Ar25 qa25 Sa25 Na25 Ha25 Ga25 rfl W25 11 rfl (Nat.le_of_ble_eq_true rfl)
  replace OL := OL.wr W25 g_b1
  replace Z0 := Nat.le_trans Z0 (Keep.of_wr W25).1
  replace N0 := Fr.snoc X25 N0 g_b1
  refine own_st st25 ?_
  show own_Go p e below G (T25.setTop (mkF m 83 #[.val (.int x0), .unset, .unset, .unset] [(.ref b1)]))
  refine own_st (fun t k => XS.astoreN X25.here hx rfl (hb hby at_83) rfl rfl (l' := #[.val (.int x0), .val (.ref b1), .unset, .unset]) rfl k) ?_
  show own_Go p e below G (T25.setTop (mkF m 84 #[.val (.int x0), .val (.ref b1), .unset, .unset] []))
  refine own_st (fun t k => XS.bipush X25.here hx rfl (hb hby at_84) k) ?_
  show own_Go p e below G (T25.setTop (mkF m 86 #[.val (.int x0), .val (.ref b1), .unset, .unset] [(.int (12 : Int32))]))
  obtain ⟨T26, h26, k26, X26, e26, E26, A26, st26⟩ := newP X25 hx hZ (hw _ (List.mem_of_getElem? (i := 28) rfl)) e25 (g := (mkF m 86 #[.val (.int x0), .val (.ref b1), .unset, .unset] [(.int (12 : Int32))])) rfl (hb hby at_86) rfl (by decide) (cap := 12) (by decide) (by decide) (by decide) (by decide)
  obtain ⟨b26, gb26⟩ : ∃ z, z = h25.size := ⟨_, rfl⟩
  rw [← gb26] at A26 st26
  have g_b26 : n0 ≤ b26 := Nat.le_trans Z0 (Nat.le_of_eq gb26.symm)
  have ne_b1_b26 : b1 ≠ b26 := Nat.ne_of_lt (Nat.lt_of_lt_of_le V_b1.lt (Nat.le_of_eq gb26.symm))
  replace Z0 := Nat.le_trans Z0 E26.1
  replace OL := OL.ext E26
  replace V_b1 := V_b1.ext E26
  have V_b26 : Arv Z h26 b26 k26 .boolean (12 : Int32) [(.int (0 : Int32)), (.int (0 : Int32)), (.int (0 : Int32)), (.int (0 : Int32)), (.int (0 : Int32)), (.int (0 : Int32)), (.int (0 : Int32)), (.int (0 : Int32)), (.int (0 : Int32)), (.int (0 : Int32)), (.int (0 : Int32)), (.int (0 : Int32))] (.int (0 : Int32)) := (Arv.new A26 (by decide)).pad (pad_rep [] (.int (0 : Int32)) 12)
  refine own_st st26 ?_
  show own_Go p e below G (T26.setTop (mkF m 88 #[.val (.int x0), .val (.ref b1), .unset, .unset] [(.ref b26)]))
  refine own_st (fun t k => XS.dup X26.here hx rfl (hb hby at_88) rfl rfl k) ?_
  show own_Go p e below G (T26.setTop (mkF m 89 #[.val (.int x0), .val (.ref b1), .unset, .unset] [(.ref b26), (.ref b26)]))
  refine own_st (fun t k => XS.iconst X26.here hx rfl (hb hby at_89) k) ?_
  show own_Go p e below G (T26.setTop (mkF m 90 #[.val (.int x0), .val (.ref b1), .unset, .unset] [(.int (0 : Int32)), (.ref b26), (.ref b26)]))
  refine own_st (fun t k => XS.iconst X26.here hx rfl (hb hby at_90) k) ?_
  show own_Go p e below G (T26.setTop (mkF m 91 #[.val (.int x0), .val (.ref b1), .unset, .unset] [(.int (0 : Int32)), (.int (0 : Int32)), (.ref b26), (.ref b26)]))
  obtain ⟨cl27, Ar27, qa27, Sa27, Na27, Ha27, Ga27⟩ := V_b26
  have hin27 : ¬ ((0 : Int32) < 0 ∨ cl27.slots.size ≤ ((0 : Int32)).toNatClampNeg) := inb_of Sa27 ⟨by decide, by decide⟩
  obtain ⟨T27, h27, X27, e27, W27, st27⟩ := stZ X26 hx hZ e26 Ar27 (j := (0 : Int32)) hin27 (g := (mkF m 91 #[.val (.int x0), .val (.ref b1), .unset, .unset] [(.int (0 : Int32)), (.int (0 : Int32)), (.ref b26), (.ref b26)])) rfl rfl (hb hby at_91)
  have V_b26 : Arv Z h27 b26 k26 .boolean (12 : Int32) [(.int (nar .boolean (0 : Int32))), (.int (0 : Int32)), (.int (0 : Int32)), (.int (0 : Int32)), (.int (0 : Int32)), (.int (0 : Int32)), (.int (0 : Int32)), (.int (0 : Int32)), (.int (0 : Int32)), (.int (0 : Int32)), (.int (0 : Int32)), (.int (0 : Int32))] (.int (0 : Int32)) := Arv.set Ar27 qa27 Sa27 Na27 Ha27 Ga27 (fits_nar_bool _) W27 0 rfl (Nat.le_of_ble_eq_true rfl)
  replace OL := OL.wr W27 g_b26
  replace V_b1 := V_b1.other W27 ne_b1_b26
  replace Z0 := Nat.le_trans Z0 (Keep.of_wr W27).1
  replace N0 := Fr.snoc X27 N0 g_b26
  refine own_st st27 ?_
  show own_Go p e below G (T27.setTop (mkF m 92 #[.val (.int x0), .val (.ref b1), .unset, .unset] [(.ref b26)]))
  refine own_st (fun t k => XS.dup X27.here hx rfl (hb hby at_92) rfl rfl k) ?_
  show own_Go p e below G (T27.setTop (mkF m 93 #[.val (.int x0), .val (.ref b1), .unset, .unset] [(.ref b26), (.ref b26)]))
  refine own_st (fun t k => XS.iconst X27.here hx rfl (hb hby at_93) k) ?_
  show own_Go p e below G (T27.setTop (mkF m 94 #[.val (.int x0), .val (.ref b1), .unset, .unset] [(.int (1 : Int32)), (.ref b26), (.ref b26)]))
  refine own_st (fun t k => XS.iconst X27.here hx rfl (hb hby at_94) k) ?_
  show own_Go p e below G (T27.setTop (mkF m 95 #[.val (.int x0), .val (.ref b1), .unset, .unset] [(.int (1 : Int32)), (.int (1 : Int32)), (.ref b26), (.ref b26)]))
  obtain ⟨cl28, Ar28, qa28, Sa28, Na28, Ha28, Ga28⟩ := V_b26
  have hin28 : ¬ ((1 : Int32) < 0 ∨ cl28.slots.size ≤ ((1 : Int32)).toNatClampNeg) := inb_of Sa28 ⟨by decide, by decide⟩
  obtain ⟨T28, h28, X28, e28, W28, st28⟩ := stZ X27 hx hZ e27 Ar28 (j := (1 : Int32)) hin28 (g := (mkF m 95 #[.val (.int x0), .val (.ref b1), .unset, .unset] [(.int (1 : Int32)), (.int (1 : Int32)), (.ref b26), (.ref b26)])) rfl rfl (hb hby at_95)
  have V_b26 : Arv Z h28 b26 k26 .boolean (12 : Int32) [(.int (nar .boolean (0 : Int32))), (.int (nar .boolean (1 : Int32))), (.int (0 : Int32)), (.int (0 : Int32)), (.int (0 : Int32)), (.int (0 : Int32)), (.int (0 : Int32)), (.int (0 : Int32)), (.int (0 : Int32)), (.int (0 : Int32)), (.int (0 : Int32)), (.int (0 : Int32))] (.int (0 : Int32)) := Arv.set Ar28 qa28 Sa28 Na28 Ha28 Ga28 (fits_nar_bool _) W28 1 rfl (Nat.le_of_ble_eq_true rfl)
  replace OL := OL.wr W28 g_b26
  replace V_b1 := V_b1.other W28 ne_b1_b26
  replace Z0 := Nat.le_trans Z0 (Keep.of_wr W28).1
  replace N0 := Fr.snoc X28 N0 g_b26
  refine own_st st28 ?_
  show own_Go p e below G (T28.setTop (mkF m 96 #[.val (.int x0), .val (.ref b1), .unset, .unset] [(.ref b26)]))
  refine own_st (fun t k => XS.dup X28.here hx rfl (hb hby at_96) rfl rfl k) ?_
  show own_Go p e below G (T28.setTop (mkF m 97 #[.val (.int x0), .val (.ref b1), .unset, .unset] [(.ref b26), (.ref b26)]))
  refine own_st (fun t k => XS.iconst X28.here hx rfl (hb hby at_97) k) ?_
  show own_Go p e below G (T28.setTop (mkF m 98 #[.val (.int x0), .val (.ref b1), .unset, .unset] [(.int (2 : Int32)), (.ref b26), (.ref b26)]))
  refine own_st (fun t k => XS.iconst X28.here hx rfl (hb hby at_98) k) ?_
  show own_Go p e below G (T28.setTop (mkF m 99 #[.val (.int x0), .val (.ref b1), .unset, .unset] [(.int (1 : Int32)), (.int (2 : Int32)), (.ref b26), (.ref b26)]))
  obtain ⟨cl29, Ar29, qa29, Sa29, Na29, Ha29, Ga29⟩ := V_b26
  have hin29 : ¬ ((2 : Int32) < 0 ∨ cl29.slots.size ≤ ((2 : Int32)).toNatClampNeg) := inb_of Sa29 ⟨by decide, by decide⟩
  obtain ⟨T29, h29, X29, e29, W29, st29⟩ := stZ X28 hx hZ e28 Ar29 (j := (2 : Int32)) hin29 (g := (mkF m 99 #[.val (.int x0), .val (.ref b1), .unset, .unset] [(.int (1 : Int32)), (.int (2 : Int32)), (.ref b26), (.ref b26)])) rfl rfl (hb hby at_99)
  have V_b26 : Arv Z h29 b26 k26 .boolean (12 : Int32) [(.int (nar .boolean (0 : Int32))), (.int (nar .boolean (1 : Int32))), (.int (nar .boolean (1 : Int32))), (.int (0 : Int32)), (.int (0 : Int32)), (.int (0 : Int32)), (.int (0 : Int32)), (.int (0 : Int32)), (.int (0 : Int32)), (.int (0 : Int32)), (.int (0 : Int32)), (.int (0 : Int32))] (.int (0 : Int32)) := Arv.set Ar29 qa29 Sa29 Na29 Ha29 Ga29 (fits_nar_bool _) W29 2 rfl (Nat.le_of_ble_eq_true rfl)
  replace OL := OL.wr W29 g_b26
  replace V_b1 := V_b1.other W29 ne_b1_b26
  replace Z0 := Nat.le_trans Z0 (Keep.of_wr W29).1
  replace N0 := Fr.snoc X29 N0 g_b26
  refine own_st st29 ?_
  show own_Go p e below G (T29.setTop (mkF m 100 #[.val (.int x0), .val (.ref b1), .unset, .unset] [(.ref b26)]))
  refine own_st (fun t k => XS.dup X29.here hx rfl (hb hby at_100) rfl rfl k) ?_
  show own_Go p e below G (T29.setTop (mkF m 101 #[.val (.int x0), .val (.ref b1), .unset, .unset] [(.ref b26), (.ref b26)]))
  refine own_st (fun t k => XS.iconst X29.here hx rfl (hb hby at_101) k) ?_
  show own_Go p e below G (T29.setTop (mkF m 102 #[.val (.int x0), .val (.ref b1), .unset, .unset] [(.int (3 : Int32)), (.ref b26), (.ref b26)]))
  refine own_st (fun t k => XS.iconst X29.here hx rfl (hb hby at_102) k) ?_
  show own_Go p e below G (T29.setTop (mkF m 103 #[.val (.int x0), .val (.ref b1), .unset, .unset] [(.int (1 : Int32)), (.int (3 : Int32)), (.ref b26), (.ref b26)]))
  obtain ⟨cl30, Ar30, qa30, Sa30, Na30, Ha30, Ga30⟩ := V_b26
  have hin30 : ¬ ((3 : Int32) < 0 ∨ cl30.slots.size ≤ ((3 : Int32)).toNatClampNeg) := inb_of Sa30 ⟨by decide, by decide⟩
  obtain ⟨T30, h30, X30, e30, W30, st30⟩ := stZ X29 hx hZ e29 Ar30 (j := (3 : Int32)) hin30 (g := (mkF m 103 #[.val (.int x0), .val (.ref b1), .unset, .unset] [(.int (1 : Int32)), (.int (3 : Int32)), (.ref b26), (.ref b26)])) rfl rfl (hb hby at_103)
  have V_b26 : Arv Z h30 b26 k26 .boolean (12 : Int32) [(.int (nar .boolean (0 : Int32))), (.int (nar .boolean (1 : Int32))), (.int (nar .boolean (1 : Int32))), (.int (nar .boolean (1 : Int32))), (.int (0 : Int32)), (.int (0 : Int32)), (.int (0 : Int32)), (.int (0 : Int32)), (.int (0 : Int32)), (.int (0 : Int32)), (.int (0 : Int32)), (.int (0 : Int32))] (.int (0 : Int32)) := Arv.set Ar30 qa30 Sa30 Na30 Ha30 Ga30 (fits_nar_bool _) W30 3 rfl (Nat.le_of_ble_eq_true rfl)
  replace OL := OL.wr W30 g_b26
  replace V_b1 := V_b1.other W30 ne_b1_b26
  replace Z0 := Nat.le_trans Z0 (Keep.of_wr W30).1
  replace N0 := Fr.snoc X30 N0 g_b26
  refine own_st st30 ?_
  show own_Go p e below G (T30.setTop (mkF m 104 #[.val (.int x0), .val (.ref b1), .unset, .unset] [(.ref b26)]))
  refine own_st (fun t k => XS.dup X30.here hx rfl (hb hby at_104) rfl rfl k) ?_
  show own_Go p e below G (T30.setTop (mkF m 105 #[.val (.int x0), .val (.ref b1), .unset, .unset] [(.ref b26), (.ref b26)]))
  refine own_st (fun t k => XS.iconst X30.here hx rfl (hb hby at_105) k) ?_
  show own_Go p e below G (T30.setTop (mkF m 106 #[.val (.int x0), .val (.ref b1), .unset, .unset] [(.int (4 : Int32)), (.ref b26), (.ref b26)]))
  refine own_st (fun t k => XS.iconst X30.here hx rfl (hb hby at_106) k) ?_
  show own_Go p e below G (T30.setTop (mkF m 107 #[.val (.int x0), .val (.ref b1), .unset, .unset] [(.int (1 : Int32)), (.int (4 : Int32)), (.ref b26), (.ref b26)]))
  obtain ⟨cl31, Ar31, qa31, Sa31, Na31, Ha31, Ga31⟩ := V_b26
  have hin31 : ¬ ((4 : Int32) < 0 ∨ cl31.slots.size ≤ ((4 : Int32)).toNatClampNeg) := inb_of Sa31 ⟨by decide, by decide⟩
  obtain ⟨T31, h31, X31, e31, W31, st31⟩ := stZ X30 hx hZ e30 Ar31 (j := (4 : Int32)) hin31 (g := (mkF m 107 #[.val (.int x0), .val (.ref b1), .unset, .unset] [(.int (1 : Int32)), (.int (4 : Int32)), (.ref b26), (.ref b26)])) rfl rfl (hb hby at_107)
  have V_b26 : Arv Z h31 b26 k26 .boolean (12 : Int32) [(.int (nar .boolean (0 : Int32))), (.int (nar .boolean (1 : Int32))), (.int (nar .boolean (1 : Int32))), (.int (nar .boolean (1 : Int32))), (.int (nar .boolean (1 : Int32))), (.int (0 : Int32)), (.int (0 : Int32)), (.int (0 : Int32)), (.int (0 : Int32)), (.int (0 : Int32)), (.int (0 : Int32)), (.int (0 : Int32))] (.int (0 : Int32)) := Arv.set Ar31 qa31 Sa31 Na31 Ha31 Ga31 (fits_nar_bool _) W31 4 rfl (Nat.le_of_ble_eq_true rfl)
  replace OL := OL.wr W31 g_b26
  replace V_b1 := V_b1.other W31 ne_b1_b26
  replace Z0 := Nat.le_trans Z0 (Keep.of_wr W31).1
  replace N0 := Fr.snoc X31 N0 g_b26
  refine own_st st31 ?_
  show own_Go p e below G (T31.setTop (mkF m 108 #[.val (.int x0), .val (.ref b1), .unset, .unset] [(.ref b26)]))
  refine own_st (fun t k => XS.dup X31.here hx rfl (hb hby at_108) rfl rfl k) ?_
  show own_Go p e below G (T31.setTop (mkF m 109 #[.val (.int x0), .val (.ref b1), .unset, .unset] [(.ref b26), (.ref b26)]))
  refine own_st (fun t k => XS.iconst X31.here hx rfl (hb hby at_109) k) ?_
  show own_Go p e below G (T31.setTop (mkF m 110 #[.val (.int x0), .val (.ref b1), .unset, .unset] [(.int (5 : Int32)), (.ref b26), (.ref b26)]))
  refine own_st (fun t k => XS.iconst X31.here hx rfl (hb hby at_110) k) ?_
  show own_Go p e below G (T31.setTop (mkF m 111 #[.val (.int x0), .val (.ref b1), .unset, .unset] [(.int (1 : Int32)), (.int (5 : Int32)), (.ref b26), (.ref b26)]))
  obtain ⟨cl32, Ar32, qa32, Sa32, Na32, Ha32, Ga32⟩ := V_b26
  have hin32 : ¬ ((5 : Int32) < 0 ∨ cl32.slots.size ≤ ((5 : Int32)).toNatClampNeg) := inb_of Sa32 ⟨by decide, by decide⟩
  obtain ⟨T32, h32, X32, e32, W32, st32⟩ := stZ X31 hx hZ e31 Ar32 (j := (5 : Int32)) hin32 (g := (mkF m 111 #[.val (.int x0), .val (.ref b1), .unset, .unset] [(.int (1 : Int32)), (.int (5 : Int32)), (.ref b26), (.ref b26)])) rfl rfl (hb hby at_111)
  have V_b26 : Arv Z h32 b26 k26 .boolean (12 : Int32) [(.int (nar .boolean (0 : Int32))), (.int (nar .boolean (1 : Int32))), (.int (nar .boolean (1 : Int32))), (.int (nar .boolean (1 : Int32))), (.int (nar .boolean (1 : Int32))), (.int (nar .boolean (1 : Int32))), (.int (0 : Int32)), (.int (0 : Int32)), (.int (0 : Int32)), (.int (0 : Int32)), (.int (0 : Int32)), (.int (0 : Int32))] (.int (0 : Int32)) := Arv.set Ar32 qa32 Sa32 Na32 Ha32 Ga32 (fits_nar_bool _) W32 5 rfl (Nat.le_of_ble_eq_true rfl)
  replace OL := OL.wr W32 g_b26
  replace V_b1 := V_b1.other W32 ne_b1_b26
  replace Z0 := Nat.le_trans Z0 (Keep.of_wr W32).1
  replace N0 := Fr.snoc X32 N0 g_b26
  refine own_st st32 ?_
  show own_Go p e below G (T32.setTop (mkF m 112 #[.val (.int x0), .val (.ref b1), .unset, .unset] [(.ref b26)]))
  refine own_st (fun t k => XS.dup X32.here hx rfl (hb hby at_112) rfl rfl k) ?_
  show own_Go p e below G (T32.setTop (mkF m 113 #[.val (.int x0), .val (.ref b1), .unset, .unset] [(.ref b26), (.ref b26)]))
  refine own_st (fun t k => XS.bipush X32.here hx rfl (hb hby at_113) k) ?_
  show own_Go p e below G (T32.setTop (mkF m 115 #[.val (.int x0), .val (.ref b1), .unset, .unset] [(.int (6 : Int32)), (.ref b26), (.ref b26)]))
  refine own_st (fun t k => XS.iconst X32.here hx rfl (hb hby at_115) k) ?_
  show own_Go p e below G (T32.setTop (mkF m 116 #[.val (.int x0), .val (.ref b1), .unset, .unset] [(.int (1 : Int32)), (.int (6 : Int32)), (.ref b26), (.ref b26)]))
  obtain ⟨cl33, Ar33, qa33, Sa33, Na33, Ha33, Ga33⟩ := V_b26
  have hin33 : ¬ ((6 : Int32) < 0 ∨ cl33.slots.size ≤ ((6 : Int32)).toNatClampNeg) := inb_of Sa33 ⟨by decide, by decide⟩
  obtain ⟨T33, h33, X33, e33, W33, st33⟩ := stZ X32 hx hZ e32 Ar33 (j := (6 : Int32)) hin33 (g := (mkF m 116 #[.val (.int x0), .val (.ref b1), .unset, .unset] [(.int (1 : Int32)), (.int (6 : Int32)), (.ref b26), (.ref b26)])) rfl rfl (hb hby at_116)
  have V_b26 : Arv Z h33 b26 k26 .boolean (12 : Int32) [(.int (nar .boolean (0 : Int32))), (.int (nar .boolean (1 : Int32))), (.int (nar .boolean (1 : Int32))), (.int (nar .boolean (1 : Int32))), (.int (nar .boolean (1 : Int32))), (.int (nar .boolean (1 : Int32))), (.int (nar .boolean (1 : Int32))), (.int (0 : Int32)), (.int (0 : Int32)), (.int (0 : Int32)), (.int (0 : Int32)), (.int (0 : Int32))] (.int (0 : Int32)) := Arv.set Ar33 qa33 Sa33 Na33 Ha33 Ga33 (fits_nar_bool _) W33 6 rfl (Nat.le_of_ble_eq_true rfl)
  replace OL := OL.wr W33 g_b26
  replace V_b1 := V_b1.other W33 ne_b1_b26
  replace Z0 := Nat.le_trans Z0 (Keep.of_wr W33).1
  replace N0 := Fr.snoc X33 N0 g_b26
  refine own_st st33 ?_
  show own_Go p e below G (T33.setTop (mkF m 117 #[.val (.int x0), .val (.ref b1), .unset, .unset] [(.ref b26)]))
  refine own_st (fun t k => XS.dup X33.here hx rfl (hb hby at_117) rfl rfl k) ?_
  show own_Go p e below G (T33.setTop (mkF m 118 #[.val (.int x0), .val (.ref b1), .unset, .unset] [(.ref b26), (.ref b26)]))
  refine own_st (fun t k => XS.bipush X33.here hx rfl (hb hby at_118) k) ?_
  show own_Go p e below G (T33.setTop (mkF m 120 #[.val (.int x0), .val (.ref b1), .unset, .unset] [(.int (7 : Int32)), (.ref b26), (.ref b26)]))
  refine own_st (fun t k => XS.iconst X33.here hx rfl (hb hby at_120) k) ?_
  show own_Go p e below G (T33.setTop (mkF m 121 #[.val (.int x0), .val (.ref b1), .unset, .unset] [(.int (1 : Int32)), (.int (7 : Int32)), (.ref b26), (.ref b26)]))
  obtain ⟨cl34, Ar34, qa34, Sa34, Na34, Ha34, Ga34⟩ := V_b26
  have hin34 : ¬ ((7 : Int32) < 0 ∨ cl34.slots.size ≤ ((7 : Int32)).toNatClampNeg) := inb_of Sa34 ⟨by decide, by decide⟩
  obtain ⟨T34, h34, X34, e34, W34, st34⟩ := stZ X33 hx hZ e33 Ar34 (j := (7 : Int32)) hin34 (g := (mkF m 121 #[.val (.int x0), .val (.ref b1), .unset, .unset] [(.int (1 : Int32)), (.int (7 : Int32)), (.ref b26), (.ref b26)])) rfl rfl (hb hby at_121)
  have V_b26 : Arv Z h34 b26 k26 .boolean (12 : Int32) [(.int (nar .boolean (0 : Int32))), (.int (nar .boolean (1 : Int32))), (.int (nar .boolean (1 : Int32))), (.int (nar .boolean (1 : Int32))), (.int (nar .boolean (1 : Int32))), (.int (nar .boolean (1 : Int32))), (.int (nar .boolean (1 : Int32))), (.int (nar .boolean (1 : Int32))), (.int (0 : Int32)), (.int (0 : Int32)), (.int (0 : Int32)), (.int (0 : Int32))] (.int (0 : Int32)) := Arv.set Ar34 qa34 Sa34 Na34 Ha34 Ga34 (fits_nar_bool _) W34 7 rfl (Nat.le_of_ble_eq_true rfl)
  replace OL := OL.wr W34 g_b26
  replace V_b1 := V_b1.other W34 ne_b1_b26
  replace Z0 := Nat.le_trans Z0 (Keep.of_wr W34).1
  replace N0 := Fr.snoc X34 N0 g_b26
  refine own_st st34 ?_
  show own_Go p e below G (T34.setTop (mkF m 122 #[.val (.int x0), .val (.ref b1), .unset, .unset] [(.ref b26)]))
  refine own_st (fun t k => XS.dup X34.here hx rfl (hb hby at_122) rfl rfl k) ?_
  show own_Go p e below G (T34.setTop (mkF m 123 #[.val (.int x0), .val (.ref b1), .unset, .unset] [(.ref b26), (.ref b26)]))
  refine own_st (fun t k => XS.bipush X34.here hx rfl (hb hby at_123) k) ?_
  show own_Go p e below G (T34.setTop (mkF m 125 #[.val (.int x0), .val (.ref b1), .unset, .unset] [(.int (8 : Int32)), (.ref b26), (.ref b26)]))
  refine own_st (fun t k => XS.iconst X34.here hx rfl (hb hby at_125) k) ?_
  show own_Go p e below G (T34.setTop (mkF m 126 #[.val (.int x0), .val (.ref b1), .unset, .unset] [(.int (1 : Int32)), (.int (8 : Int32)), (.ref b26), (.ref b26)]))
  obtain ⟨cl35, Ar35, qa35, Sa35, Na35, Ha35, Ga35⟩ := V_b26
  have hin35 : ¬ ((8 : Int32) < 0 ∨ cl35.slots.size ≤ ((8 : Int32)).toNatClampNeg) := inb_of Sa35 ⟨by decide, by decide⟩
  obtain ⟨T35, h35, X35, e35, W35, st35⟩ := stZ X34 hx hZ e34 Ar35 (j := (8 : Int32)) hin35 (g := (mkF m 126 #[.val (.int x0), .val (.ref b1), .unset, .unset] [(.int (1 : Int32)), (.int (8 : Int32)), (.ref b26), (.ref b26)])) rfl rfl (hb hby at_126)
  have V_b26 : Arv Z h35 b26 k26 .boolean (12 : Int32) [(.int (nar .boolean (0 : Int32))), (.int (nar .boolean (1 : Int32))), (.int (nar .boolean (1 : Int32))), (.int (nar .boolean (1 : Int32))), (.int (nar .boolean (1 : Int32))), (.int (nar .boolean (1 : Int32))), (.int (nar .boolean (1 : Int32))), (.int (nar .boolean (1 : Int32))), (.int (nar .boolean (1 : Int32))), (.int (0 : Int32)), (.int (0 : Int32)), (.int (0 : Int32))] (.int (0 : Int32)) := Arv.set Ar35 qa35 Sa35 Na35 Ha35 Ga35 (fits_nar_bool _) W35 8 rfl (Nat.le_of_ble_eq_true rfl)
  replace OL := OL.wr W35 g_b26
  replace V_b1 := V_b1.other W35 ne_b1_b26
  replace Z0 := Nat.le_trans Z0 (Keep.of_wr W35).1
  replace N0 := Fr.snoc X35 N0 g_b26
  refine own_st st35 ?_
  show own_Go p e below G (T35.setTop (mkF m 127 #[.val (.int x0), .val (.ref b1), .unset, .unset] [(.ref b26)]))
  refine own_st (fun t k => XS.dup X35.here hx rfl (hb hby at_127) rfl rfl k) ?_
  show own_Go p e below G (T35.setTop (mkF m 128 #[.val (.int x0), .val (.ref b1), .unset, .unset] [(.ref b26), (.ref b26)]))
  refine own_st (fun t k => XS.bipush X35.here hx rfl (hb hby at_128) k) ?_
  show own_Go p e below G (T35.setTop (mkF m 130 #[.val (.int x0), .val (.ref b1), .unset, .unset] [(.int (9 : Int32)), (.ref b26), (.ref b26)]))
  refine own_st (fun t k => XS.iconst X35.here hx rfl (hb hby at_130) k) ?_
  show own_Go p e below G (T35.setTop (mkF m 131 #[.val (.int x0), .val (.ref b1), .unset, .unset] [(.int (1 : Int32)), (.int (9 : Int32)), (.ref b26), (.ref b26)]))
  obtain ⟨cl36, Ar36, qa36, Sa36, Na36, Ha36, Ga36⟩ := V_b26
  have hin36 : ¬ ((9 : Int32) < 0 ∨ cl36.slots.size ≤ ((9 : Int32)).toNatClampNeg) := inb_of Sa36 ⟨by decide, by decide⟩
  obtain ⟨T36, h36, X36, e36, W36, st36⟩ := stZ X35 hx hZ e35 Ar36 (j := (9 : Int32)) hin36 (g := (mkF m 131 #[.val (.int x0), .val (.ref b1), .unset, .unset] [(.int (1 : Int32)), (.int (9 : Int32)), (.ref b26), (.ref b26)])) rfl rfl (hb hby at_131)
  have V_b26 : Arv Z h36 b26 k26 .boolean (12 : Int32) [(.int (nar .boolean (0 : Int32))), (.int (nar .boolean (1 : Int32))), (.int (nar .boolean (1 : Int32))), (.int (nar .boolean (1 : Int32))), (.int (nar .boolean (1 : Int32))), (.int (nar .boolean (1 : Int32))), (.int (nar .boolean (1 : Int32))), (.int (nar .boolean (1 : Int32))), (.int (nar .boolean (1 : Int32))), (.int (nar .boolean (1 : Int32))), (.int (0 : Int32)), (.int (0 : Int32))] (.int (0 : Int32)) := Arv.set Ar36 qa36 Sa36 Na36 Ha36 Ga36 (fits_nar_bool _) W36 9 rfl (Nat.le_of_ble_eq_true rfl)
  replace OL := OL.wr W36 g_b26
  replace V_b1 := V_b1.other W36 ne_b1_b26
  replace Z0 := Nat.le_trans Z0 (Keep.of_wr W36).1
  replace N0 := Fr.snoc X36 N0 g_b26
  refine own_st st36 ?_
  show own_Go p e below G (T36.setTop (mkF m 132 #[.val (.int x0), .val (.ref b1), .unset, .unset] [(.ref b26)]))
  refine own_st (fun t k => XS.dup X36.here hx rfl (hb hby at_132) rfl rfl k) ?_
  show own_Go p e below G (T36.setTop (mkF m 133 #[.val (.int x0), .val (.ref b1), .unset, .unset] [(.ref b26), (.ref b26)]))
  refine own_st (fun t k => XS.bipush X36.here hx rfl (hb hby at_133) k) ?_
  show own_Go p e below G (T36.setTop (mkF m 135 #[.val (.int x0), .val (.ref b1), .unset, .unset] [(.int (10 : Int32)), (.ref b26), (.ref b26)]))
  refine own_st (fun t k => XS.iconst X36.here hx rfl (hb hby at_135) k) ?_
  show own_Go p e below G (T36.setTop (mkF m 136 #[.val (.int x0), .val (.ref b1), .unset, .unset] [(.int (1 : Int32)), (.int (10 : Int32)), (.ref b26), (.ref b26)]))
  obtain ⟨cl37, Ar37, qa37, Sa37, Na37, Ha37, Ga37⟩ := V_b26
  have hin37 : ¬ ((10 : Int32) < 0 ∨ cl37.slots.size ≤ ((10 : Int32)).toNatClampNeg) := inb_of Sa37 ⟨by decide, by decide⟩
  obtain ⟨T37, h37, X37, e37, W37, st37⟩ := stZ X36 hx hZ e36 Ar37 (j := (10 : Int32)) hin37 (g := (mkF m 136 #[.val (.int x0), .val (.ref b1), .unset, .unset] [(.int (1 : Int32)), (.int (10 : Int32)), (.ref b26), (.ref b26)])) rfl rfl (hb hby at_136)
  have V_b26 : Arv Z h37 b26 k26 .boolean (12 : Int32) [(.int (nar .boolean (0 : Int32))), (.int (nar .boolean (1 : Int32))), (.int (nar .boolean (1 : Int32))), (.int (nar .boolean (1 : Int32))), (.int (nar .boolean (1 : Int32))), (.int (nar .boolean (1 : Int32))), (.int (nar .boolean (1 : Int32))), (.int (nar .boolean (1 : Int32))), (.int (nar .boolean (1 : Int32))), (.int (nar .boolean (1 : Int32))), (.int (nar .boolean (1 : Int32))), (.int (0 : Int32))] (.int (0 : Int32)) := Arv.set Ar37 qa37 Sa37 Na37 Ha37 Ga37 (fits_nar_bool _) W37 10 rfl (Nat.le_of_ble_eq_true rfl)
  replace OL := OL.wr W37 g_b26
  replace V_b1 := V_b1.other W37 ne_b1_b26
  replace Z0 := Nat.le_trans Z0 (Keep.of_wr W37).1
  replace N0 := Fr.snoc X37 N0 g_b26
  refine own_st st37 ?_
  show own_Go p e below G (T37.setTop (mkF m 137 #[.val (.int x0), .val (.ref b1), .unset, .unset] [(.ref b26)]))
  refine own_st (fun t k => XS.dup X37.here hx rfl (hb hby at_137) rfl rfl k) ?_
  show own_Go p e below G (T37.setTop (mkF m 138 #[.val (.int x0), .val (.ref b1), .unset, .unset] [(.ref b26), (.ref b26)]))
  refine own_st (fun t k => XS.bipush X37.here hx rfl (hb hby at_138) k) ?_
  show own_Go p e below G (T37.setTop (mkF m 140 #[.val (.int x0), .val (.ref b1), .unset, .unset] [(.int (11 : Int32)), (.ref b26), (.ref b26)]))
  refine own_st (fun t k => XS.iconst X37.here hx rfl (hb hby at_140) k) ?_
  show own_Go p e below G (T37.setTop (mkF m 141 #[.val (.int x0), .val (.ref b1), .unset, .unset] [(.int (0 : Int32)), (.int (11 : Int32)), (.ref b26), (.ref b26)]))
  obtain ⟨cl38, Ar38, qa38, Sa38, Na38, Ha38, Ga38⟩ := V_b26
  have hin38 : ¬ ((11 : Int32) < 0 ∨ cl38.slots.size ≤ ((11 : Int32)).toNatClampNeg) := inb_of Sa38 ⟨by decide, by decide⟩
  obtain ⟨T38, h38, X38, e38, W38, st38⟩ := stZ X37 hx hZ e37 Ar38 (j := (11 : Int32)) hin38 (g := (mkF m 141 #[.val (.int x0), .val (.ref b1), .unset, .unset] [(.int (0 : Int32)), (.int (11 : Int32)), (.ref b26), (.ref b26)])) rfl rfl (hb hby at_141)
  have V_b26 : Arv Z h38 b26 k26 .boolean (12 : Int32) [(.int (nar .boolean (0 : Int32))), (.int (nar .boolean (1 : Int32))), (.int (nar .boolean (1 : Int32))), (.int (nar .boolean (1 : Int32))), (.int (nar .boolean (1 : Int32))), (.int (nar .boolean (1 : Int32))), (.int (nar .boolean (1 : Int32))), (.int (nar .boolean (1 : Int32))), (.int (nar .boolean (1 : Int32))), (.int (nar .boolean (1 : Int32))), (.int (nar .boolean (1 : Int32))), (.int (nar .boolean (0 : Int32)))] (.int (0 : Int32)) := Arv.set Ar38 qa38 Sa38 Na38 Ha38 Ga38 (fits_nar_bool _) W38 11 rfl (Nat.le_of_ble_eq_true rfl)
  replace OL := OL.wr W38 g_b26
  replace V_b1 := V_b1.other W38 ne_b1_b26
  replace Z0 := Nat.le_trans Z0 (Keep.of_wr W38).1
  replace N0 := Fr.snoc X38 N0 g_b26
  refine own_st st38 ?_
  show own_Go p e below G (T38.setTop (mkF m 142 #[.val (.int x0), .val (.ref b1), .unset, .unset] [(.ref b26)]))
  refine own_st (fun t k => XS.astoreN X38.here hx rfl (hb hby at_142) rfl rfl (l' := #[.val (.int x0), .val (.ref b1), .val (.ref b26), .unset]) rfl k) ?_
  show own_Go p e below G (T38.setTop (mkF m 143 #[.val (.int x0), .val (.ref b1), .val (.ref b26), .unset] []))
  refine own_st (fun t k => XS.iloadN X38.here hx rfl (hb hby at_143) rfl  k) ?_
  show own_Go p e below G (T38.setTop (mkF m 144 #[.val (.int x0), .val (.ref b1), .val (.ref b26), .unset] [(.int x0)]))
  refine own_st (fun t k => X38.ldcInt hx hown (mvT hZ (hw _ (List.mem_of_getElem? (i := 29) rfl))) (g := (mkF m 144 #[.val (.int x0), .val (.ref b1), .val (.ref b26), .unset] [(.int x0)])) rfl (hb hby at_144) t k) ?_
  show own_Go p e below G (T38.setTop (mkF m 146 #[.val (.int x0), .val (.ref b1), .val (.ref b26), .unset] [(.int (2147483647 : Int32)), (.int x0)]))
  refine own_st (fun t k => XS.iand X38.here hx rfl (hb hby at_146) rfl k) ?_
  show own_Go p e below G (T38.setTop (mkF m 147 #[.val (.int x0), .val (.ref b1), .val (.ref b26), .unset] [(.int (x0 &&& (2147483647 : Int32)))]))
  refine own_st (fun t k => XS.bipush X38.here hx rfl (hb hby at_147) k) ?_
  show own_Go p e below G (T38.setTop (mkF m 149 #[.val (.int x0), .val (.ref b1), .val (.ref b26), .unset] [(.int (12 : Int32)), (.int (x0 &&& (2147483647 : Int32)))]))
  refine own_st (fun t k => iremM X38 hx rfl (hb hby at_149) rfl (by decide) k) ?_
  show own_Go p e below G (T38.setTop (mkF m 150 #[.val (.int x0), .val (.ref b1), .val (.ref b26), .unset] [(.int ((x0 &&& (2147483647 : Int32)) % (12 : Int32)))]))
  refine own_st (fun t k => XS.istoreN X38.here hx rfl (hb hby at_150) rfl (l' := #[.val (.int x0), .val (.ref b1), .val (.ref b26), .val (.int ((x0 &&& (2147483647 : Int32)) % (12 : Int32)))]) rfl k) ?_
  show own_Go p e below G (T38.setTop (mkF m 151 #[.val (.int x0), .val (.ref b1), .val (.ref b26), .val (.int ((x0 &&& (2147483647 : Int32)) % (12 : Int32)))] []))
  have hk := own_k12 x0
  generalize ((x0 &&& (2147483647 : Int32)) % (12 : Int32)) = k0 at hk ⊢
  rcases hk with rfl | rfl | rfl | rfl | rfl | rfl | rfl | rfl | rfl | rfl | rfl | rfl
  · skip
    show own_Go p e below G (T38.setTop (mkF m 151 #[.val (.int x0), .val (.ref b1), .val (.ref b26), .val (.int (0 : Int32))] []))
    refine own_st (fun t k => XS.aloadN X38.here hx rfl (hb hby at_151) rfl rfl  k) ?_
    show own_Go p e below G (T38.setTop (mkF m 152 #[.val (.int x0), .val (.ref b1), .val (.ref b26), .val (.int (0 : Int32))] [(.ref b1)]))
    refine own_st (fun t k => XS.iloadN X38.here hx rfl (hb hby at_152) rfl  k) ?_
    show own_Go p e below G (T38.setTop (mkF m 153 #[.val (.int x0), .val (.ref b1), .val (.ref b26), .val (.int (0 : Int32))] [(.int (0 : Int32)), (.ref b1)]))
    have Vc39 := V_b1
    obtain ⟨cl39, Ar39, -, Sa39, -, Ha39, -⟩ := Vc39
    have hin39 : ¬ ((0 : Int32) < 0 ∨ cl39.slots.size ≤ ((0 : Int32)).toNatClampNeg) := inb_of Sa39 ⟨by decide, by decide⟩
    refine own_st (fun t k => X38.aaload hx (j := (0 : Int32)) (v := (.ref aBOOLEAN)) (by rw [e38]; exact Ar39.1) (State.isArrayOf_alike hZ.alike Ar39.2.1) rfl Ar39.2.2 hin39 (Ha39.at hin39 rfl) (g := (mkF m 153 #[.val (.int x0), .val (.ref b1), .val (.ref b26), .val (.int (0 : Int32))] [(.int (0 : Int32)), (.ref b1)])) rfl rfl (hb hby at_153) t k) ?_
    show own_Go p e below G (T38.setTop (mkF m 154 #[.val (.int x0), .val (.ref b1), .val (.ref b26), .val (.int (0 : Int32))] [(.ref aBOOLEAN)]))
    obtain ⟨v40, T40, L40, X40, Q40, st40⟩ := own_callV X38 hx hZ (y := (⟨"com/example/knowing_records/knowingrecords/data/ScalarType", "isNumeric", "()Z"⟩ : MethodName)) (z := (⟨"com/example/knowing_records/knowingrecords/data/ScalarType", "isNumeric", "()Z"⟩ : MethodName)) hown (hw _ (List.mem_of_getElem? (i := 30) rfl)) (hw _ (List.mem_of_getElem? (i := 31) rfl)) (notFace_of_selects (args := #[]) (mvT hZ (hw _ (List.mem_of_getElem? (i := 33) rfl)))) (hw _ (List.mem_of_getElem? (i := 33) rfl)) (hw _ (List.mem_of_getElem? (i := 32) rfl)) (hw _ (List.mem_of_getElem? (i := 3) rfl)) (hw _ (List.mem_of_getElem? (i := 34) rfl)) (by decide) (W := 0) (rm1 l Z a0 hw aBOOLEAN aBOOLEAN aSTRING h38 (SBOOLEAN.ext OL.2) (SSTRING.ext OL.2)) (by decide) (by decide) e38 (EBOOLEAN.ext OL.2) (g := (mkF m 154 #[.val (.int x0), .val (.ref b1), .val (.ref b26), .val (.int (0 : Int32))] [(.ref aBOOLEAN)])) rfl (by rw [hml]; rfl) (argsL := []) (rest := []) own_pd0 rfl rfl (by show 2 * 0 + _ ≤ _; exact Nat.le_of_eq rfl) (hb hby at_154) rfl (by decide) (by decide)
    obtain ⟨rfl, rfl, e40⟩ := Q40
    simp only [List.append_nil, Nat.add_zero] at X40
    refine own_st st40 ?_
    show own_Go p e below G (T40.setTop (mkF m 157 #[.val (.int x0), .val (.ref b1), .val (.ref b26), .val (.int (0 : Int32))] [(.int (own_nu (.ref aBOOLEAN) (.ref aBOOLEAN) (.ref aSTRING)))]))
    refine own_st (fun t k => XS.aloadN X40.here hx rfl (hb hby at_157) rfl rfl  k) ?_
    show own_Go p e below G (T40.setTop (mkF m 158 #[.val (.int x0), .val (.ref b1), .val (.ref b26), .val (.int (0 : Int32))] [(.ref b26), (.int (own_nu (.ref aBOOLEAN) (.ref aBOOLEAN) (.ref aSTRING)))]))
    refine own_st (fun t k => XS.iloadN X40.here hx rfl (hb hby at_158) rfl  k) ?_
    show own_Go p e below G (T40.setTop (mkF m 159 #[.val (.int x0), .val (.ref b1), .val (.ref b26), .val (.int (0 : Int32))] [(.int (0 : Int32)), (.ref b26), (.int (own_nu (.ref aBOOLEAN) (.ref aBOOLEAN) (.ref aSTRING)))]))
    have Vc41 := V_b26
    obtain ⟨cl41, Ar41, -, Sa41, -, Ha41, -⟩ := Vc41
    have hin41 : ¬ ((0 : Int32) < 0 ∨ cl41.slots.size ≤ ((0 : Int32)).toNatClampNeg) := inb_of Sa41 ⟨by decide, by decide⟩
    refine own_st (fun t k => X40.baloadBooleans hx (j := (0 : Int32)) (v := (.int (nar .boolean (0 : Int32)))) (by rw [e40]; exact Ar41.1) (State.isArrayOf_alike hZ.alike Ar41.2.1) Ar41.2.2 hin41 (Ha41.at hin41 rfl) (g := (mkF m 159 #[.val (.int x0), .val (.ref b1), .val (.ref b26), .val (.int (0 : Int32))] [(.int (0 : Int32)), (.ref b26), (.int (own_nu (.ref aBOOLEAN) (.ref aBOOLEAN) (.ref aSTRING)))])) rfl rfl (hb hby at_159) t k) ?_
    show own_Go p e below G (T40.setTop (mkF m 160 #[.val (.int x0), .val (.ref b1), .val (.ref b26), .val (.int (0 : Int32))] [(.int (nar .boolean (0 : Int32))), (.int (own_nu (.ref aBOOLEAN) (.ref aBOOLEAN) (.ref aSTRING)))]))
    refine own_st (fun t k => XS.icmpNo X40.here hx rfl (hb hby at_160) rfl (teq (show (own_nu (.ref aBOOLEAN) (.ref aBOOLEAN) (.ref aSTRING)) = (nar .boolean (0 : Int32)) from hBOOLEAN)).2 k) ?_
    show own_Go p e below G (T40.setTop (mkF m 163 #[.val (.int x0), .val (.ref b1), .val (.ref b26), .val (.int (0 : Int32))] []))
    refine own_st (fun t k => XS.iconst X40.here hx rfl (hb hby at_163) k) ?_
    show own_Go p e below G (T40.setTop (mkF m 164 #[.val (.int x0), .val (.ref b1), .val (.ref b26), .val (.int (0 : Int32))] [(.int (1 : Int32))]))
    refine own_st (fun t k => XS.goto X40.here hx rfl (pc0 := 164) (pc' := 168) rfl (hb hby at_164) (by decide) (by decide) k) ?_
    show own_Go p e below G (T40.setTop (mkF m 168 #[.val (.int x0), .val (.ref b1), .val (.ref b26), .val (.int (0 : Int32))] [(.int (1 : Int32))]))
    rw [hG]
    exact own_retZ X40 hx hlk (t := .boolean) hret (by simp) (hb hby at_168) ⟨rfl, N0⟩ (by decide) (by decide)
  · skip
    show own_Go p e below G (T38.setTop (mkF m 151 #[.val (.int x0), .val (.ref b1), .val (.ref b26), .val (.int (1 : Int32))] []))
    refine own_st (fun t k => XS.aloadN X38.here hx rfl (hb hby at_151) rfl rfl  k) ?_
    show own_Go p e below G (T38.setTop (mkF m 152 #[.val (.int x0), .val (.ref b1), .val (.ref b26), .val (.int (1 : Int32))] [(.ref b1)]))
    refine own_st (fun t k => XS.iloadN X38.here hx rfl (hb hby at_152) rfl  k) ?_
    show own_Go p e below G (T38.setTop (mkF m 153 #[.val (.int x0), .val (.ref b1), .val (.ref b26), .val (.int (1 : Int32))] [(.int (1 : Int32)), (.ref b1)]))
    have Vc42 := V_b1
    obtain ⟨cl42, Ar42, -, Sa42, -, Ha42, -⟩ := Vc42
    have hin42 : ¬ ((1 : Int32) < 0 ∨ cl42.slots.size ≤ ((1 : Int32)).toNatClampNeg) := inb_of Sa42 ⟨by decide, by decide⟩
    refine own_st (fun t k => X38.aaload hx (j := (1 : Int32)) (v := (.ref aBYTE)) (by rw [e38]; exact Ar42.1) (State.isArrayOf_alike hZ.alike Ar42.2.1) rfl Ar42.2.2 hin42 (Ha42.at hin42 rfl) (g := (mkF m 153 #[.val (.int x0), .val (.ref b1), .val (.ref b26), .val (.int (1 : Int32))] [(.int (1 : Int32)), (.ref b1)])) rfl rfl (hb hby at_153) t k) ?_
    show own_Go p e below G (T38.setTop (mkF m 154 #[.val (.int x0), .val (.ref b1), .val (.ref b26), .val (.int (1 : Int32))] [(.ref aBYTE)]))
    obtain ⟨v43, T43, L43, X43, Q43, st43⟩ := own_callV X38 hx hZ (y := (⟨"com/example/knowing_records/knowingrecords/data/ScalarType", "isNumeric", "()Z"⟩ : MethodName)) (z := (⟨"com/example/knowing_records/knowingrecords/data/ScalarType", "isNumeric", "()Z"⟩ : MethodName)) hown (hw _ (List.mem_of_getElem? (i := 30) rfl)) (hw _ (List.mem_of_getElem? (i := 31) rfl)) (notFace_of_selects (args := #[]) (mvT hZ (hw _ (List.mem_of_getElem? (i := 33) rfl)))) (hw _ (List.mem_of_getElem? (i := 33) rfl)) (hw _ (List.mem_of_getElem? (i := 32) rfl)) (hw _ (List.mem_of_getElem? (i := 3) rfl)) (hw _ (List.mem_of_getElem? (i := 34) rfl)) (by decide) (W := 0) (rm1 l Z a0 hw aBYTE aBOOLEAN aSTRING h38 (SBOOLEAN.ext OL.2) (SSTRING.ext OL.2)) (by decide) (by decide) e38 (EBYTE.ext OL.2) (g := (mkF m 154 #[.val (.int x0), .val (.ref b1), .val (.ref b26), .val (.int (1 : Int32))] [(.ref aBYTE)])) rfl (by rw [hml]; rfl) (argsL := []) (rest := []) own_pd0 rfl rfl (by show 2 * 0 + _ ≤ _; exact Nat.le_of_eq rfl) (hb hby at_154) rfl (by decide) (by decide)
    obtain ⟨rfl, rfl, e43⟩ := Q43
    simp only [List.append_nil, Nat.add_zero] at X43
    refine own_st st43 ?_
    show own_Go p e below G (T43.setTop (mkF m 157 #[.val (.int x0), .val (.ref b1), .val (.ref b26), .val (.int (1 : Int32))] [(.int (own_nu (.ref aBYTE) (.ref aBOOLEAN) (.ref aSTRING)))]))
    refine own_st (fun t k => XS.aloadN X43.here hx rfl (hb hby at_157) rfl rfl  k) ?_
    show own_Go p e below G (T43.setTop (mkF m 158 #[.val (.int x0), .val (.ref b1), .val (.ref b26), .val (.int (1 : Int32))] [(.ref b26), (.int (own_nu (.ref aBYTE) (.ref aBOOLEAN) (.ref aSTRING)))]))
    refine own_st (fun t k => XS.iloadN X43.here hx rfl (hb hby at_158) rfl  k) ?_
    show own_Go p e below G (T43.setTop (mkF m 159 #[.val (.int x0), .val (.ref b1), .val (.ref b26), .val (.int (1 : Int32))] [(.int (1 : Int32)), (.ref b26), (.int (own_nu (.ref aBYTE) (.ref aBOOLEAN) (.ref aSTRING)))]))
    have Vc44 := V_b26
    obtain ⟨cl44, Ar44, -, Sa44, -, Ha44, -⟩ := Vc44
    have hin44 : ¬ ((1 : Int32) < 0 ∨ cl44.slots.size ≤ ((1 : Int32)).toNatClampNeg) := inb_of Sa44 ⟨by decide, by decide⟩
    refine own_st (fun t k => X43.baloadBooleans hx (j := (1 : Int32)) (v := (.int (nar .boolean (1 : Int32)))) (by rw [e43]; exact Ar44.1) (State.isArrayOf_alike hZ.alike Ar44.2.1) Ar44.2.2 hin44 (Ha44.at hin44 rfl) (g := (mkF m 159 #[.val (.int x0), .val (.ref b1), .val (.ref b26), .val (.int (1 : Int32))] [(.int (1 : Int32)), (.ref b26), (.int (own_nu (.ref aBYTE) (.ref aBOOLEAN) (.ref aSTRING)))])) rfl rfl (hb hby at_159) t k) ?_
    show own_Go p e below G (T43.setTop (mkF m 160 #[.val (.int x0), .val (.ref b1), .val (.ref b26), .val (.int (1 : Int32))] [(.int (nar .boolean (1 : Int32))), (.int (own_nu (.ref aBYTE) (.ref aBOOLEAN) (.ref aSTRING)))]))
    refine own_st (fun t k => XS.icmpNo X43.here hx rfl (hb hby at_160) rfl (teq (show (own_nu (.ref aBYTE) (.ref aBOOLEAN) (.ref aSTRING)) = (nar .boolean (1 : Int32)) from hBYTE)).2 k) ?_
    show own_Go p e below G (T43.setTop (mkF m 163 #[.val (.int x0), .val (.ref b1), .val (.ref b26), .val (.int (1 : Int32))] []))
    refine own_st (fun t k => XS.iconst X43.here hx rfl (hb hby at_163) k) ?_
    show own_Go p e below G (T43.setTop (mkF m 164 #[.val (.int x0), .val (.ref b1), .val (.ref b26), .val (.int (1 : Int32))] [(.int (1 : Int32))]))
    refine own_st (fun t k => XS.goto X43.here hx rfl (pc0 := 164) (pc' := 168) rfl (hb hby at_164) (by decide) (by decide) k) ?_
    show own_Go p e below G (T43.setTop (mkF m 168 #[.val (.int x0), .val (.ref b1), .val (.ref b26), .val (.int (1 : Int32))] [(.int (1 : Int32))]))
    rw [hG]
    exact own_retZ X43 hx hlk (t := .boolean) hret (by simp) (hb hby at_168) ⟨rfl, N0⟩ (by decide) (by decide)
  · skip
    show own_Go p e below G (T38.setTop (mkF m 151 #[.val (.int x0), .val (.ref b1), .val (.ref b26), .val (.int (2 : Int32))] []))
    refine own_st (fun t k => XS.aloadN X38.here hx rfl (hb hby at_151) rfl rfl  k) ?_
    show own_Go p e below G (T38.setTop (mkF m 152 #[.val (.int x0), .val (.ref b1), .val (.ref b26), .val (.int (2 : Int32))] [(.ref b1)]))
    refine own_st (fun t k => XS.iloadN X38.here hx rfl (hb hby at_152) rfl  k) ?_
    show own_Go p e below G (T38.setTop (mkF m 153 #[.val (.int x0), .val (.ref b1), .val (.ref b26), .val (.int (2 : Int32))] [(.int (2 : Int32)), (.ref b1)]))
    have Vc45 := V_b1
    obtain ⟨cl45, Ar45, -, Sa45, -, Ha45, -⟩ := Vc45
    have hin45 : ¬ ((2 : Int32) < 0 ∨ cl45.slots.size ≤ ((2 : Int32)).toNatClampNeg) := inb_of Sa45 ⟨by decide, by decide⟩
    refine own_st (fun t k => X38.aaload hx (j := (2 : Int32)) (v := (.ref aSHORT)) (by rw [e38]; exact Ar45.1) (State.isArrayOf_alike hZ.alike Ar45.2.1) rfl Ar45.2.2 hin45 (Ha45.at hin45 rfl) (g := (mkF m 153 #[.val (.int x0), .val (.ref b1), .val (.ref b26), .val (.int (2 : Int32))] [(.int (2 : Int32)), (.ref b1)])) rfl rfl (hb hby at_153) t k) ?_
    show own_Go p e below G (T38.setTop (mkF m 154 #[.val (.int x0), .val (.ref b1), .val (.ref b26), .val (.int (2 : Int32))] [(.ref aSHORT)]))
    obtain ⟨v46, T46, L46, X46, Q46, st46⟩ := own_callV X38 hx hZ (y := (⟨"com/example/knowing_records/knowingrecords/data/ScalarType", "isNumeric", "()Z"⟩ : MethodName)) (z := (⟨"com/example/knowing_records/knowingrecords/data/ScalarType", "isNumeric", "()Z"⟩ : MethodName)) hown (hw _ (List.mem_of_getElem? (i := 30) rfl)) (hw _ (List.mem_of_getElem? (i := 31) rfl)) (notFace_of_selects (args := #[]) (mvT hZ (hw _ (List.mem_of_getElem? (i := 33) rfl)))) (hw _ (List.mem_of_getElem? (i := 33) rfl)) (hw _ (List.mem_of_getElem? (i := 32) rfl)) (hw _ (List.mem_of_getElem? (i := 3) rfl)) (hw _ (List.mem_of_getElem? (i := 34) rfl)) (by decide) (W := 0) (rm1 l Z a0 hw aSHORT aBOOLEAN aSTRING h38 (SBOOLEAN.ext OL.2) (SSTRING.ext OL.2)) (by decide) (by decide) e38 (ESHORT.ext OL.2) (g := (mkF m 154 #[.val (.int x0), .val (.ref b1), .val (.ref b26), .val (.int (2 : Int32))] [(.ref aSHORT)])) rfl (by rw [hml]; rfl) (argsL := []) (rest := []) own_pd0 rfl rfl (by show 2 * 0 + _ ≤ _; exact Nat.le_of_eq rfl) (hb hby at_154) rfl (by decide) (by decide)
    obtain ⟨rfl, rfl, e46⟩ := Q46
    simp only [List.append_nil, Nat.add_zero] at X46
    refine own_st st46 ?_
    show own_Go p e below G (T46.setTop (mkF m 157 #[.val (.int x0), .val (.ref b1), .val (.ref b26), .val (.int (2 : Int32))] [(.int (own_nu (.ref aSHORT) (.ref aBOOLEAN) (.ref aSTRING)))]))
    refine own_st (fun t k => XS.aloadN X46.here hx rfl (hb hby at_157) rfl rfl  k) ?_
    show own_Go p e below G (T46.setTop (mkF m 158 #[.val (.int x0), .val (.ref b1), .val (.ref b26), .val (.int (2 : Int32))] [(.ref b26), (.int (own_nu (.ref aSHORT) (.ref aBOOLEAN) (.ref aSTRING)))]))
    refine own_st (fun t k => XS.iloadN X46.here hx rfl (hb hby at_158) rfl  k) ?_
    show own_Go p e below G (T46.setTop (mkF m 159 #[.val (.int x0), .val (.ref b1), .val (.ref b26), .val (.int (2 : Int32))] [(.int (2 : Int32)), (.ref b26), (.int (own_nu (.ref aSHORT) (.ref aBOOLEAN) (.ref aSTRING)))]))
    have Vc47 := V_b26
    obtain ⟨cl47, Ar47, -, Sa47, -, Ha47, -⟩ := Vc47
    have hin47 : ¬ ((2 : Int32) < 0 ∨ cl47.slots.size ≤ ((2 : Int32)).toNatClampNeg) := inb_of Sa47 ⟨by decide, by decide⟩
    refine own_st (fun t k => X46.baloadBooleans hx (j := (2 : Int32)) (v := (.int (nar .boolean (1 : Int32)))) (by rw [e46]; exact Ar47.1) (State.isArrayOf_alike hZ.alike Ar47.2.1) Ar47.2.2 hin47 (Ha47.at hin47 rfl) (g := (mkF m 159 #[.val (.int x0), .val (.ref b1), .val (.ref b26), .val (.int (2 : Int32))] [(.int (2 : Int32)), (.ref b26), (.int (own_nu (.ref aSHORT) (.ref aBOOLEAN) (.ref aSTRING)))])) rfl rfl (hb hby at_159) t k) ?_
    show own_Go p e below G (T46.setTop (mkF m 160 #[.val (.int x0), .val (.ref b1), .val (.ref b26), .val (.int (2 : Int32))] [(.int (nar .boolean (1 : Int32))), (.int (own_nu (.ref aSHORT) (.ref aBOOLEAN) (.ref aSTRING)))]))
    refine own_st (fun t k => XS.icmpNo X46.here hx rfl (hb hby at_160) rfl (teq (show (own_nu (.ref aSHORT) (.ref aBOOLEAN) (.ref aSTRING)) = (nar .boolean (1 : Int32)) from hSHORT)).2 k) ?_
    show own_Go p e below G (T46.setTop (mkF m 163 #[.val (.int x0), .val (.ref b1), .val (.ref b26), .val (.int (2 : Int32))] []))
    refine own_st (fun t k => XS.iconst X46.here hx rfl (hb hby at_163) k) ?_
    show own_Go p e below G (T46.setTop (mkF m 164 #[.val (.int x0), .val (.ref b1), .val (.ref b26), .val (.int (2 : Int32))] [(.int (1 : Int32))]))
    refine own_st (fun t k => XS.goto X46.here hx rfl (pc0 := 164) (pc' := 168) rfl (hb hby at_164) (by decide) (by decide) k) ?_
    show own_Go p e below G (T46.setTop (mkF m 168 #[.val (.int x0), .val (.ref b1), .val (.ref b26), .val (.int (2 : Int32))] [(.int (1 : Int32))]))
    rw [hG]
    exact own_retZ X46 hx hlk (t := .boolean) hret (by simp) (hb hby at_168) ⟨rfl, N0⟩ (by decide) (by decide)
  · skip
    show own_Go p e below G (T38.setTop (mkF m 151 #[.val (.int x0), .val (.ref b1), .val (.ref b26), .val (.int (3 : Int32))] []))
    refine own_st (fun t k => XS.aloadN X38.here hx rfl (hb hby at_151) rfl rfl  k) ?_
    show own_Go p e below G (T38.setTop (mkF m 152 #[.val (.int x0), .val (.ref b1), .val (.ref b26), .val (.int (3 : Int32))] [(.ref b1)]))
    refine own_st (fun t k => XS.iloadN X38.here hx rfl (hb hby at_152) rfl  k) ?_
    show own_Go p e below G (T38.setTop (mkF m 153 #[.val (.int x0), .val (.ref b1), .val (.ref b26), .val (.int (3 : Int32))] [(.int (3 : Int32)), (.ref b1)]))
    have Vc48 := V_b1
    obtain ⟨cl48, Ar48, -, Sa48, -, Ha48, -⟩ := Vc48
    have hin48 : ¬ ((3 : Int32) < 0 ∨ cl48.slots.size ≤ ((3 : Int32)).toNatClampNeg) := inb_of Sa48 ⟨by decide, by decide⟩
    refine own_st (fun t k => X38.aaload hx (j := (3 : Int32)) (v := (.ref aINT)) (by rw [e38]; exact Ar48.1) (State.isArrayOf_alike hZ.alike Ar48.2.1) rfl Ar48.2.2 hin48 (Ha48.at hin48 rfl) (g := (mkF m 153 #[.val (.int x0), .val (.ref b1), .val (.ref b26), .val (.int (3 : Int32))] [(.int (3 : Int32)), (.ref b1)])) rfl rfl (hb hby at_153) t k) ?_
    show own_Go p e below G (T38.setTop (mkF m 154 #[.val (.int x0), .val (.ref b1), .val (.ref b26), .val (.int (3 : Int32))] [(.ref aINT)]))
    obtain ⟨v49, T49, L49, X49, Q49, st49⟩ := own_callV X38 hx hZ (y := (⟨"com/example/knowing_records/knowingrecords/data/ScalarType", "isNumeric", "()Z"⟩ : MethodName)) (z := (⟨"com/example/knowing_records/knowingrecords/data/ScalarType", "isNumeric", "()Z"⟩ : MethodName)) hown (hw _ (List.mem_of_getElem? (i := 30) rfl)) (hw _ (List.mem_of_getElem? (i := 31) rfl)) (notFace_of_selects (args := #[]) (mvT hZ (hw _ (List.mem_of_getElem? (i := 33) rfl)))) (hw _ (List.mem_of_getElem? (i := 33) rfl)) (hw _ (List.mem_of_getElem? (i := 32) rfl)) (hw _ (List.mem_of_getElem? (i := 3) rfl)) (hw _ (List.mem_of_getElem? (i := 34) rfl)) (by decide) (W := 0) (rm1 l Z a0 hw aINT aBOOLEAN aSTRING h38 (SBOOLEAN.ext OL.2) (SSTRING.ext OL.2)) (by decide) (by decide) e38 (EINT.ext OL.2) (g := (mkF m 154 #[.val (.int x0), .val (.ref b1), .val (.ref b26), .val (.int (3 : Int32))] [(.ref aINT)])) rfl (by rw [hml]; rfl) (argsL := []) (rest := []) own_pd0 rfl rfl (by show 2 * 0 + _ ≤ _; exact Nat.le_of_eq rfl) (hb hby at_154) rfl (by decide) (by decide)
    obtain ⟨rfl, rfl, e49⟩ := Q49
    simp only [List.append_nil, Nat.add_zero] at X49
    refine own_st st49 ?_
    show own_Go p e below G (T49.setTop (mkF m 157 #[.val (.int x0), .val (.ref b1), .val (.ref b26), .val (.int (3 : Int32))] [(.int (own_nu (.ref aINT) (.ref aBOOLEAN) (.ref aSTRING)))]))
    refine own_st (fun t k => XS.aloadN X49.here hx rfl (hb hby at_157) rfl rfl  k) ?_
    show own_Go p e below G (T49.setTop (mkF m 158 #[.val (.int x0), .val (.ref b1), .val (.ref b26), .val (.int (3 : Int32))] [(.ref b26), (.int (own_nu (.ref aINT) (.ref aBOOLEAN) (.ref aSTRING)))]))
    refine own_st (fun t k => XS.iloadN X49.here hx rfl (hb hby at_158) rfl  k) ?_
    show own_Go p e below G (T49.setTop (mkF m 159 #[.val (.int x0), .val (.ref b1), .val (.ref b26), .val (.int (3 : Int32))] [(.int (3 : Int32)), (.ref b26), (.int (own_nu (.ref aINT) (.ref aBOOLEAN) (.ref aSTRING)))]))
    have Vc50 := V_b26
    obtain ⟨cl50, Ar50, -, Sa50, -, Ha50, -⟩ := Vc50
    have hin50 : ¬ ((3 : Int32) < 0 ∨ cl50.slots.size ≤ ((3 : Int32)).toNatClampNeg) := inb_of Sa50 ⟨by decide, by decide⟩
    refine own_st (fun t k => X49.baloadBooleans hx (j := (3 : Int32)) (v := (.int (nar .boolean (1 : Int32)))) (by rw [e49]; exact Ar50.1) (State.isArrayOf_alike hZ.alike Ar50.2.1) Ar50.2.2 hin50 (Ha50.at hin50 rfl) (g := (mkF m 159 #[.val (.int x0), .val (.ref b1), .val (.ref b26), .val (.int (3 : Int32))] [(.int (3 : Int32)), (.ref b26), (.int (own_nu (.ref aINT) (.ref aBOOLEAN) (.ref aSTRING)))])) rfl rfl (hb hby at_159) t k) ?_
    show own_Go p e below G (T49.setTop (mkF m 160 #[.val (.int x0), .val (.ref b1), .val (.ref b26), .val (.int (3 : Int32))] [(.int (nar .boolean (1 : Int32))), (.int (own_nu (.ref aINT) (.ref aBOOLEAN) (.ref aSTRING)))]))
    refine own_st (fun t k => XS.icmpNo X49.here hx rfl (hb hby at_160) rfl (teq (show (own_nu (.ref aINT) (.ref aBOOLEAN) (.ref aSTRING)) = (nar .boolean (1 : Int32)) from hINT)).2 k) ?_
    show own_Go p e below G (T49.setTop (mkF m 163 #[.val (.int x0), .val (.ref b1), .val (.ref b26), .val (.int (3 : Int32))] []))
    refine own_st (fun t k => XS.iconst X49.here hx rfl (hb hby at_163) k) ?_
    show own_Go p e below G (T49.setTop (mkF m 164 #[.val (.int x0), .val (.ref b1), .val (.ref b26), .val (.int (3 : Int32))] [(.int (1 : Int32))]))
    refine own_st (fun t k => XS.goto X49.here hx rfl (pc0 := 164) (pc' := 168) rfl (hb hby at_164) (by decide) (by decide) k) ?_
    show own_Go p e below G (T49.setTop (mkF m 168 #[.val (.int x0), .val (.ref b1), .val (.ref b26), .val (.int (3 : Int32))] [(.int (1 : Int32))]))
    rw [hG]
    exact own_retZ X49 hx hlk (t := .boolean) hret (by simp) (hb hby at_168) ⟨rfl, N0⟩ (by decide) (by decide)
  · skip
    show own_Go p e below G (T38.setTop (mkF m 151 #[.val (.int x0), .val (.ref b1), .val (.ref b26), .val (.int (4 : Int32))] []))
    refine own_st (fun t k => XS.aloadN X38.here hx rfl (hb hby at_151) rfl rfl  k) ?_
    show own_Go p e below G (T38.setTop (mkF m 152 #[.val (.int x0), .val (.ref b1), .val (.ref b26), .val (.int (4 : Int32))] [(.ref b1)]))
    refine own_st (fun t k => XS.iloadN X38.here hx rfl (hb hby at_152) rfl  k) ?_
    show own_Go p e below G (T38.setTop (mkF m 153 #[.val (.int x0), .val (.ref b1), .val (.ref b26), .val (.int (4 : Int32))] [(.int (4 : Int32)), (.ref b1)]))
    have Vc51 := V_b1
    obtain ⟨cl51, Ar51, -, Sa51, -, Ha51, -⟩ := Vc51
    have hin51 : ¬ ((4 : Int32) < 0 ∨ cl51.slots.size ≤ ((4 : Int32)).toNatClampNeg) := inb_of Sa51 ⟨by decide, by decide⟩
    refine own_st (fun t k => X38.aaload hx (j := (4 : Int32)) (v := (.ref aLONG)) (by rw [e38]; exact Ar51.1) (State.isArrayOf_alike hZ.alike Ar51.2.1) rfl Ar51.2.2 hin51 (Ha51.at hin51 rfl) (g := (mkF m 153 #[.val (.int x0), .val (.ref b1), .val (.ref b26), .val (.int (4 : Int32))] [(.int (4 : Int32)), (.ref b1)])) rfl rfl (hb hby at_153) t k) ?_
    show own_Go p e below G (T38.setTop (mkF m 154 #[.val (.int x0), .val (.ref b1), .val (.ref b26), .val (.int (4 : Int32))] [(.ref aLONG)]))
    obtain ⟨v52, T52, L52, X52, Q52, st52⟩ := own_callV X38 hx hZ (y := (⟨"com/example/knowing_records/knowingrecords/data/ScalarType", "isNumeric", "()Z"⟩ : MethodName)) (z := (⟨"com/example/knowing_records/knowingrecords/data/ScalarType", "isNumeric", "()Z"⟩ : MethodName)) hown (hw _ (List.mem_of_getElem? (i := 30) rfl)) (hw _ (List.mem_of_getElem? (i := 31) rfl)) (notFace_of_selects (args := #[]) (mvT hZ (hw _ (List.mem_of_getElem? (i := 33) rfl)))) (hw _ (List.mem_of_getElem? (i := 33) rfl)) (hw _ (List.mem_of_getElem? (i := 32) rfl)) (hw _ (List.mem_of_getElem? (i := 3) rfl)) (hw _ (List.mem_of_getElem? (i := 34) rfl)) (by decide) (W := 0) (rm1 l Z a0 hw aLONG aBOOLEAN aSTRING h38 (SBOOLEAN.ext OL.2) (SSTRING.ext OL.2)) (by decide) (by decide) e38 (ELONG.ext OL.2) (g := (mkF m 154 #[.val (.int x0), .val (.ref b1), .val (.ref b26), .val (.int (4 : Int32))] [(.ref aLONG)])) rfl (by rw [hml]; rfl) (argsL := []) (rest := []) own_pd0 rfl rfl (by show 2 * 0 + _ ≤ _; exact Nat.le_of_eq rfl) (hb hby at_154) rfl (by decide) (by decide)
    obtain ⟨rfl, rfl, e52⟩ := Q52
    simp only [List.append_nil, Nat.add_zero] at X52
    refine own_st st52 ?_
    show own_Go p e below G (T52.setTop (mkF m 157 #[.val (.int x0), .val (.ref b1), .val (.ref b26), .val (.int (4 : Int32))] [(.int (own_nu (.ref aLONG) (.ref aBOOLEAN) (.ref aSTRING)))]))
    refine own_st (fun t k => XS.aloadN X52.here hx rfl (hb hby at_157) rfl rfl  k) ?_
    show own_Go p e below G (T52.setTop (mkF m 158 #[.val (.int x0), .val (.ref b1), .val (.ref b26), .val (.int (4 : Int32))] [(.ref b26), (.int (own_nu (.ref aLONG) (.ref aBOOLEAN) (.ref aSTRING)))]))
    refine own_st (fun t k => XS.iloadN X52.here hx rfl (hb hby at_158) rfl  k) ?_
    show own_Go p e below G (T52.setTop (mkF m 159 #[.val (.int x0), .val (.ref b1), .val (.ref b26), .val (.int (4 : Int32))] [(.int (4 : Int32)), (.ref b26), (.int (own_nu (.ref aLONG) (.ref aBOOLEAN) (.ref aSTRING)))]))
    have Vc53 := V_b26
    obtain ⟨cl53, Ar53, -, Sa53, -, Ha53, -⟩ := Vc53
    have hin53 : ¬ ((4 : Int32) < 0 ∨ cl53.slots.size ≤ ((4 : Int32)).toNatClampNeg) := inb_of Sa53 ⟨by decide, by decide⟩
    refine own_st (fun t k => X52.baloadBooleans hx (j := (4 : Int32)) (v := (.int (nar .boolean (1 : Int32)))) (by rw [e52]; exact Ar53.1) (State.isArrayOf_alike hZ.alike Ar53.2.1) Ar53.2.2 hin53 (Ha53.at hin53 rfl) (g := (mkF m 159 #[.val (.int x0), .val (.ref b1), .val (.ref b26), .val (.int (4 : Int32))] [(.int (4 : Int32)), (.ref b26), (.int (own_nu (.ref aLONG) (.ref aBOOLEAN) (.ref aSTRING)))])) rfl rfl (hb hby at_159) t k) ?_
    show own_Go p e below G (T52.setTop (mkF m 160 #[.val (.int x0), .val (.ref b1), .val (.ref b26), .val (.int (4 : Int32))] [(.int (nar .boolean (1 : Int32))), (.int (own_nu (.ref aLONG) (.ref aBOOLEAN) (.ref aSTRING)))]))
    refine own_st (fun t k => XS.icmpNo X52.here hx rfl (hb hby at_160) rfl (teq (show (own_nu (.ref aLONG) (.ref aBOOLEAN) (.ref aSTRING)) = (nar .boolean (1 : Int32)) from hLONG)).2 k) ?_
    show own_Go p e below G (T52.setTop (mkF m 163 #[.val (.int x0), .val (.ref b1), .val (.ref b26), .val (.int (4 : Int32))] []))
    refine own_st (fun t k => XS.iconst X52.here hx rfl (hb hby at_163) k) ?_
    show own_Go p e below G (T52.setTop (mkF m 164 #[.val (.int x0), .val (.ref b1), .val (.ref b26), .val (.int (4 : Int32))] [(.int (1 : Int32))]))
    refine own_st (fun t k => XS.goto X52.here hx rfl (pc0 := 164) (pc' := 168) rfl (hb hby at_164) (by decide) (by decide) k) ?_
    show own_Go p e below G (T52.setTop (mkF m 168 #[.val (.int x0), .val (.ref b1), .val (.ref b26), .val (.int (4 : Int32))] [(.int (1 : Int32))]))
    rw [hG]
    exact own_retZ X52 hx hlk (t := .boolean) hret (by simp) (hb hby at_168) ⟨rfl, N0⟩ (by decide) (by decide)
  · skip
    show own_Go p e below G (T38.setTop (mkF m 151 #[.val (.int x0), .val (.ref b1), .val (.ref b26), .val (.int (5 : Int32))] []))
    refine own_st (fun t k => XS.aloadN X38.here hx rfl (hb hby at_151) rfl rfl  k) ?_
    show own_Go p e below G (T38.setTop (mkF m 152 #[.val (.int x0), .val (.ref b1), .val (.ref b26), .val (.int (5 : Int32))] [(.ref b1)]))
    refine own_st (fun t k => XS.iloadN X38.here hx rfl (hb hby at_152) rfl  k) ?_
    show own_Go p e below G (T38.setTop (mkF m 153 #[.val (.int x0), .val (.ref b1), .val (.ref b26), .val (.int (5 : Int32))] [(.int (5 : Int32)), (.ref b1)]))
    have Vc54 := V_b1
    obtain ⟨cl54, Ar54, -, Sa54, -, Ha54, -⟩ := Vc54
    have hin54 : ¬ ((5 : Int32) < 0 ∨ cl54.slots.size ≤ ((5 : Int32)).toNatClampNeg) := inb_of Sa54 ⟨by decide, by decide⟩
    refine own_st (fun t k => X38.aaload hx (j := (5 : Int32)) (v := (.ref aUBYTE)) (by rw [e38]; exact Ar54.1) (State.isArrayOf_alike hZ.alike Ar54.2.1) rfl Ar54.2.2 hin54 (Ha54.at hin54 rfl) (g := (mkF m 153 #[.val (.int x0), .val (.ref b1), .val (.ref b26), .val (.int (5 : Int32))] [(.int (5 : Int32)), (.ref b1)])) rfl rfl (hb hby at_153) t k) ?_
    show own_Go p e below G (T38.setTop (mkF m 154 #[.val (.int x0), .val (.ref b1), .val (.ref b26), .val (.int (5 : Int32))] [(.ref aUBYTE)]))
    obtain ⟨v55, T55, L55, X55, Q55, st55⟩ := own_callV X38 hx hZ (y := (⟨"com/example/knowing_records/knowingrecords/data/ScalarType", "isNumeric", "()Z"⟩ : MethodName)) (z := (⟨"com/example/knowing_records/knowingrecords/data/ScalarType", "isNumeric", "()Z"⟩ : MethodName)) hown (hw _ (List.mem_of_getElem? (i := 30) rfl)) (hw _ (List.mem_of_getElem? (i := 31) rfl)) (notFace_of_selects (args := #[]) (mvT hZ (hw _ (List.mem_of_getElem? (i := 33) rfl)))) (hw _ (List.mem_of_getElem? (i := 33) rfl)) (hw _ (List.mem_of_getElem? (i := 32) rfl)) (hw _ (List.mem_of_getElem? (i := 3) rfl)) (hw _ (List.mem_of_getElem? (i := 34) rfl)) (by decide) (W := 0) (rm1 l Z a0 hw aUBYTE aBOOLEAN aSTRING h38 (SBOOLEAN.ext OL.2) (SSTRING.ext OL.2)) (by decide) (by decide) e38 (EUBYTE.ext OL.2) (g := (mkF m 154 #[.val (.int x0), .val (.ref b1), .val (.ref b26), .val (.int (5 : Int32))] [(.ref aUBYTE)])) rfl (by rw [hml]; rfl) (argsL := []) (rest := []) own_pd0 rfl rfl (by show 2 * 0 + _ ≤ _; exact Nat.le_of_eq rfl) (hb hby at_154) rfl (by decide) (by decide)
    obtain ⟨rfl, rfl, e55⟩ := Q55
    simp only [List.append_nil, Nat.add_zero] at X55
    refine own_st st55 ?_
    show own_Go p e below G (T55.setTop (mkF m 157 #[.val (.int x0), .val (.ref b1), .val (.ref b26), .val (.int (5 : Int32))] [(.int (own_nu (.ref aUBYTE) (.ref aBOOLEAN) (.ref aSTRING)))]))
    refine own_st (fun t k => XS.aloadN X55.here hx rfl (hb hby at_157) rfl rfl  k) ?_
    show own_Go p e below G (T55.setTop (mkF m 158 #[.val (.int x0), .val (.ref b1), .val (.ref b26), .val (.int (5 : Int32))] [(.ref b26), (.int (own_nu (.ref aUBYTE) (.ref aBOOLEAN) (.ref aSTRING)))]))
    refine own_st (fun t k => XS.iloadN X55.here hx rfl (hb hby at_158) rfl  k) ?_
    show own_Go p e below G (T55.setTop (mkF m 159 #[.val (.int x0), .val (.ref b1), .val (.ref b26), .val (.int (5 : Int32))] [(.int (5 : Int32)), (.ref b26), (.int (own_nu (.ref aUBYTE) (.ref aBOOLEAN) (.ref aSTRING)))]))
    have Vc56 := V_b26
    obtain ⟨cl56, Ar56, -, Sa56, -, Ha56, -⟩ := Vc56
    have hin56 : ¬ ((5 : Int32) < 0 ∨ cl56.slots.size ≤ ((5 : Int32)).toNatClampNeg) := inb_of Sa56 ⟨by decide, by decide⟩
    refine own_st (fun t k => X55.baloadBooleans hx (j := (5 : Int32)) (v := (.int (nar .boolean (1 : Int32)))) (by rw [e55]; exact Ar56.1) (State.isArrayOf_alike hZ.alike Ar56.2.1) Ar56.2.2 hin56 (Ha56.at hin56 rfl) (g := (mkF m 159 #[.val (.int x0), .val (.ref b1), .val (.ref b26), .val (.int (5 : Int32))] [(.int (5 : Int32)), (.ref b26), (.int (own_nu (.ref aUBYTE) (.ref aBOOLEAN) (.ref aSTRING)))])) rfl rfl (hb hby at_159) t k) ?_
    show own_Go p e below G (T55.setTop (mkF m 160 #[.val (.int x0), .val (.ref b1), .val (.ref b26), .val (.int (5 : Int32))] [(.int (nar .boolean (1 : Int32))), (.int (own_nu (.ref aUBYTE) (.ref aBOOLEAN) (.ref aSTRING)))]))
    refine own_st (fun t k => XS.icmpNo X55.here hx rfl (hb hby at_160) rfl (teq (show (own_nu (.ref aUBYTE) (.ref aBOOLEAN) (.ref aSTRING)) = (nar .boolean (1 : Int32)) from hUBYTE)).2 k) ?_
    show own_Go p e below G (T55.setTop (mkF m 163 #[.val (.int x0), .val (.ref b1), .val (.ref b26), .val (.int (5 : Int32))] []))
    refine own_st (fun t k => XS.iconst X55.here hx rfl (hb hby at_163) k) ?_
    show own_Go p e below G (T55.setTop (mkF m 164 #[.val (.int x0), .val (.ref b1), .val (.ref b26), .val (.int (5 : Int32))] [(.int (1 : Int32))]))
    refine own_st (fun t k => XS.goto X55.here hx rfl (pc0 := 164) (pc' := 168) rfl (hb hby at_164) (by decide) (by decide) k) ?_
    show own_Go p e below G (T55.setTop (mkF m 168 #[.val (.int x0), .val (.ref b1), .val (.ref b26), .val (.int (5 : Int32))] [(.int (1 : Int32))]))
    rw [hG]
    exact own_retZ X55 hx hlk (t := .boolean) hret (by simp) (hb hby at_168) ⟨rfl, N0⟩ (by decide) (by decide)
  · skip
    show own_Go p e below G (T38.setTop (mkF m 151 #[.val (.int x0), .val (.ref b1), .val (.ref b26), .val (.int (6 : Int32))] []))
    refine own_st (fun t k => XS.aloadN X38.here hx rfl (hb hby at_151) rfl rfl  k) ?_
    show own_Go p e below G (T38.setTop (mkF m 152 #[.val (.int x0), .val (.ref b1), .val (.ref b26), .val (.int (6 : Int32))] [(.ref b1)]))
    refine own_st (fun t k => XS.iloadN X38.here hx rfl (hb hby at_152) rfl  k) ?_
    show own_Go p e below G (T38.setTop (mkF m 153 #[.val (.int x0), .val (.ref b1), .val (.ref b26), .val (.int (6 : Int32))] [(.int (6 : Int32)), (.ref b1)]))
    have Vc57 := V_b1
    obtain ⟨cl57, Ar57, -, Sa57, -, Ha57, -⟩ := Vc57
    have hin57 : ¬ ((6 : Int32) < 0 ∨ cl57.slots.size ≤ ((6 : Int32)).toNatClampNeg) := inb_of Sa57 ⟨by decide, by decide⟩
    refine own_st (fun t k => X38.aaload hx (j := (6 : Int32)) (v := (.ref aUSHORT)) (by rw [e38]; exact Ar57.1) (State.isArrayOf_alike hZ.alike Ar57.2.1) rfl Ar57.2.2 hin57 (Ha57.at hin57 rfl) (g := (mkF m 153 #[.val (.int x0), .val (.ref b1), .val (.ref b26), .val (.int (6 : Int32))] [(.int (6 : Int32)), (.ref b1)])) rfl rfl (hb hby at_153) t k) ?_
    show own_Go p e below G (T38.setTop (mkF m 154 #[.val (.int x0), .val (.ref b1), .val (.ref b26), .val (.int (6 : Int32))] [(.ref aUSHORT)]))
    obtain ⟨v58, T58, L58, X58, Q58, st58⟩ := own_callV X38 hx hZ (y := (⟨"com/example/knowing_records/knowingrecords/data/ScalarType", "isNumeric", "()Z"⟩ : MethodName)) (z := (⟨"com/example/knowing_records/knowingrecords/data/ScalarType", "isNumeric", "()Z"⟩ : MethodName)) hown (hw _ (List.mem_of_getElem? (i := 30) rfl)) (hw _ (List.mem_of_getElem? (i := 31) rfl)) (notFace_of_selects (args := #[]) (mvT hZ (hw _ (List.mem_of_getElem? (i := 33) rfl)))) (hw _ (List.mem_of_getElem? (i := 33) rfl)) (hw _ (List.mem_of_getElem? (i := 32) rfl)) (hw _ (List.mem_of_getElem? (i := 3) rfl)) (hw _ (List.mem_of_getElem? (i := 34) rfl)) (by decide) (W := 0) (rm1 l Z a0 hw aUSHORT aBOOLEAN aSTRING h38 (SBOOLEAN.ext OL.2) (SSTRING.ext OL.2)) (by decide) (by decide) e38 (EUSHORT.ext OL.2) (g := (mkF m 154 #[.val (.int x0), .val (.ref b1), .val (.ref b26), .val (.int (6 : Int32))] [(.ref aUSHORT)])) rfl (by rw [hml]; rfl) (argsL := []) (rest := []) own_pd0 rfl rfl (by show 2 * 0 + _ ≤ _; exact Nat.le_of_eq rfl) (hb hby at_154) rfl (by decide) (by decide)
    obtain ⟨rfl, rfl, e58⟩ := Q58
    simp only [List.append_nil, Nat.add_zero] at X58
    refine own_st st58 ?_
    show own_Go p e below G (T58.setTop (mkF m 157 #[.val (.int x0), .val (.ref b1), .val (.ref b26), .val (.int (6 : Int32))] [(.int (own_nu (.ref aUSHORT) (.ref aBOOLEAN) (.ref aSTRING)))]))
    refine own_st (fun t k => XS.aloadN X58.here hx rfl (hb hby at_157) rfl rfl  k) ?_
    show own_Go p e below G (T58.setTop (mkF m 158 #[.val (.int x0), .val (.ref b1), .val (.ref b26), .val (.int (6 : Int32))] [(.ref b26), (.int (own_nu (.ref aUSHORT) (.ref aBOOLEAN) (.ref aSTRING)))]))
    refine own_st (fun t k => XS.iloadN X58.here hx rfl (hb hby at_158) rfl  k) ?_
    show own_Go p e below G (T58.setTop (mkF m 159 #[.val (.int x0), .val (.ref b1), .val (.ref b26), .val (.int (6 : Int32))] [(.int (6 : Int32)), (.ref b26), (.int (own_nu (.ref aUSHORT) (.ref aBOOLEAN) (.ref aSTRING)))]))
    have Vc59 := V_b26
    obtain ⟨cl59, Ar59, -, Sa59, -, Ha59, -⟩ := Vc59
    have hin59 : ¬ ((6 : Int32) < 0 ∨ cl59.slots.size ≤ ((6 : Int32)).toNatClampNeg) := inb_of Sa59 ⟨by decide, by decide⟩
    refine own_st (fun t k => X58.baloadBooleans hx (j := (6 : Int32)) (v := (.int (nar .boolean (1 : Int32)))) (by rw [e58]; exact Ar59.1) (State.isArrayOf_alike hZ.alike Ar59.2.1) Ar59.2.2 hin59 (Ha59.at hin59 rfl) (g := (mkF m 159 #[.val (.int x0), .val (.ref b1), .val (.ref b26), .val (.int (6 : Int32))] [(.int (6 : Int32)), (.ref b26), (.int (own_nu (.ref aUSHORT) (.ref aBOOLEAN) (.ref aSTRING)))])) rfl rfl (hb hby at_159) t k) ?_
    show own_Go p e below G (T58.setTop (mkF m 160 #[.val (.int x0), .val (.ref b1), .val (.ref b26), .val (.int (6 : Int32))] [(.int (nar .boolean (1 : Int32))), (.int (own_nu (.ref aUSHORT) (.ref aBOOLEAN) (.ref aSTRING)))]))
    refine own_st (fun t k => XS.icmpNo X58.here hx rfl (hb hby at_160) rfl (teq (show (own_nu (.ref aUSHORT) (.ref aBOOLEAN) (.ref aSTRING)) = (nar .boolean (1 : Int32)) from hUSHORT)).2 k) ?_
    show own_Go p e below G (T58.setTop (mkF m 163 #[.val (.int x0), .val (.ref b1), .val (.ref b26), .val (.int (6 : Int32))] []))
    refine own_st (fun t k => XS.iconst X58.here hx rfl (hb hby at_163) k) ?_
    show own_Go p e below G (T58.setTop (mkF m 164 #[.val (.int x0), .val (.ref b1), .val (.ref b26), .val (.int (6 : Int32))] [(.int (1 : Int32))]))
    refine own_st (fun t k => XS.goto X58.here hx rfl (pc0 := 164) (pc' := 168) rfl (hb hby at_164) (by decide) (by decide) k) ?_
    show own_Go p e below G (T58.setTop (mkF m 168 #[.val (.int x0), .val (.ref b1), .val (.ref b26), .val (.int (6 : Int32))] [(.int (1 : Int32))]))
    rw [hG]
    exact own_retZ X58 hx hlk (t := .boolean) hret (by simp) (hb hby at_168) ⟨rfl, N0⟩ (by decide) (by decide)
  · skip
    show own_Go p e below G (T38.setTop (mkF m 151 #[.val (.int x0), .val (.ref b1), .val (.ref b26), .val (.int (7 : Int32))] []))
    refine own_st (fun t k => XS.aloadN X38.here hx rfl (hb hby at_151) rfl rfl  k) ?_
    show own_Go p e below G (T38.setTop (mkF m 152 #[.val (.int x0), .val (.ref b1), .val (.ref b26), .val (.int (7 : Int32))] [(.ref b1)]))
    refine own_st (fun t k => XS.iloadN X38.here hx rfl (hb hby at_152) rfl  k) ?_
    show own_Go p e below G (T38.setTop (mkF m 153 #[.val (.int x0), .val (.ref b1), .val (.ref b26), .val (.int (7 : Int32))] [(.int (7 : Int32)), (.ref b1)]))
    have Vc60 := V_b1
    obtain ⟨cl60, Ar60, -, Sa60, -, Ha60, -⟩ := Vc60
    have hin60 : ¬ ((7 : Int32) < 0 ∨ cl60.slots.size ≤ ((7 : Int32)).toNatClampNeg) := inb_of Sa60 ⟨by decide, by decide⟩
    refine own_st (fun t k => X38.aaload hx (j := (7 : Int32)) (v := (.ref aUINT)) (by rw [e38]; exact Ar60.1) (State.isArrayOf_alike hZ.alike Ar60.2.1) rfl Ar60.2.2 hin60 (Ha60.at hin60 rfl) (g := (mkF m 153 #[.val (.int x0), .val (.ref b1), .val (.ref b26), .val (.int (7 : Int32))] [(.int (7 : Int32)), (.ref b1)])) rfl rfl (hb hby at_153) t k) ?_
    show own_Go p e below G (T38.setTop (mkF m 154 #[.val (.int x0), .val (.ref b1), .val (.ref b26), .val (.int (7 : Int32))] [(.ref aUINT)]))
    obtain ⟨v61, T61, L61, X61, Q61, st61⟩ := own_callV X38 hx hZ (y := (⟨"com/example/knowing_records/knowingrecords/data/ScalarType", "isNumeric", "()Z"⟩ : MethodName)) (z := (⟨"com/example/knowing_records/knowingrecords/data/ScalarType", "isNumeric", "()Z"⟩ : MethodName)) hown (hw _ (List.mem_of_getElem? (i := 30) rfl)) (hw _ (List.mem_of_getElem? (i := 31) rfl)) (notFace_of_selects (args := #[]) (mvT hZ (hw _ (List.mem_of_getElem? (i := 33) rfl)))) (hw _ (List.mem_of_getElem? (i := 33) rfl)) (hw _ (List.mem_of_getElem? (i := 32) rfl)) (hw _ (List.mem_of_getElem? (i := 3) rfl)) (hw _ (List.mem_of_getElem? (i := 34) rfl)) (by decide) (W := 0) (rm1 l Z a0 hw aUINT aBOOLEAN aSTRING h38 (SBOOLEAN.ext OL.2) (SSTRING.ext OL.2)) (by decide) (by decide) e38 (EUINT.ext OL.2) (g := (mkF m 154 #[.val (.int x0), .val (.ref b1), .val (.ref b26), .val (.int (7 : Int32))] [(.ref aUINT)])) rfl (by rw [hml]; rfl) (argsL := []) (rest := []) own_pd0 rfl rfl (by show 2 * 0 + _ ≤ _; exact Nat.le_of_eq rfl) (hb hby at_154) rfl (by decide) (by decide)
    obtain ⟨rfl, rfl, e61⟩ := Q61
    simp only [List.append_nil, Nat.add_zero] at X61
    refine own_st st61 ?_
    show own_Go p e below G (T61.setTop (mkF m 157 #[.val (.int x0), .val (.ref b1), .val (.ref b26), .val (.int (7 : Int32))] [(.int (own_nu (.ref aUINT) (.ref aBOOLEAN) (.ref aSTRING)))]))
    refine own_st (fun t k => XS.aloadN X61.here hx rfl (hb hby at_157) rfl rfl  k) ?_
    show own_Go p e below G (T61.setTop (mkF m 158 #[.val (.int x0), .val (.ref b1), .val (.ref b26), .val (.int (7 : Int32))] [(.ref b26), (.int (own_nu (.ref aUINT) (.ref aBOOLEAN) (.ref aSTRING)))]))
    refine own_st (fun t k => XS.iloadN X61.here hx rfl (hb hby at_158) rfl  k) ?_
    show own_Go p e below G (T61.setTop (mkF m 159 #[.val (.int x0), .val (.ref b1), .val (.ref b26), .val (.int (7 : Int32))] [(.int (7 : Int32)), (.ref b26), (.int (own_nu (.ref aUINT) (.ref aBOOLEAN) (.ref aSTRING)))]))
    have Vc62 := V_b26
    obtain ⟨cl62, Ar62, -, Sa62, -, Ha62, -⟩ := Vc62
    have hin62 : ¬ ((7 : Int32) < 0 ∨ cl62.slots.size ≤ ((7 : Int32)).toNatClampNeg) := inb_of Sa62 ⟨by decide, by decide⟩
    refine own_st (fun t k => X61.baloadBooleans hx (j := (7 : Int32)) (v := (.int (nar .boolean (1 : Int32)))) (by rw [e61]; exact Ar62.1) (State.isArrayOf_alike hZ.alike Ar62.2.1) Ar62.2.2 hin62 (Ha62.at hin62 rfl) (g := (mkF m 159 #[.val (.int x0), .val (.ref b1), .val (.ref b26), .val (.int (7 : Int32))] [(.int (7 : Int32)), (.ref b26), (.int (own_nu (.ref aUINT) (.ref aBOOLEAN) (.ref aSTRING)))])) rfl rfl (hb hby at_159) t k) ?_
    show own_Go p e below G (T61.setTop (mkF m 160 #[.val (.int x0), .val (.ref b1), .val (.ref b26), .val (.int (7 : Int32))] [(.int (nar .boolean (1 : Int32))), (.int (own_nu (.ref aUINT) (.ref aBOOLEAN) (.ref aSTRING)))]))
    refine own_st (fun t k => XS.icmpNo X61.here hx rfl (hb hby at_160) rfl (teq (show (own_nu (.ref aUINT) (.ref aBOOLEAN) (.ref aSTRING)) = (nar .boolean (1 : Int32)) from hUINT)).2 k) ?_
    show own_Go p e below G (T61.setTop (mkF m 163 #[.val (.int x0), .val (.ref b1), .val (.ref b26), .val (.int (7 : Int32))] []))
    refine own_st (fun t k => XS.iconst X61.here hx rfl (hb hby at_163) k) ?_
    show own_Go p e below G (T61.setTop (mkF m 164 #[.val (.int x0), .val (.ref b1), .val (.ref b26), .val (.int (7 : Int32))] [(.int (1 : Int32))]))
    refine own_st (fun t k => XS.goto X61.here hx rfl (pc0 := 164) (pc' := 168) rfl (hb hby at_164) (by decide) (by decide) k) ?_
    show own_Go p e below G (T61.setTop (mkF m 168 #[.val (.int x0), .val (.ref b1), .val (.ref b26), .val (.int (7 : Int32))] [(.int (1 : Int32))]))
    rw [hG]
    exact own_retZ X61 hx hlk (t := .boolean) hret (by simp) (hb hby at_168) ⟨rfl, N0⟩ (by decide) (by decide)
  · skip
    show own_Go p e below G (T38.setTop (mkF m 151 #[.val (.int x0), .val (.ref b1), .val (.ref b26), .val (.int (8 : Int32))] []))
    refine own_st (fun t k => XS.aloadN X38.here hx rfl (hb hby at_151) rfl rfl  k) ?_
    show own_Go p e below G (T38.setTop (mkF m 152 #[.val (.int x0), .val (.ref b1), .val (.ref b26), .val (.int (8 : Int32))] [(.ref b1)]))
    refine own_st (fun t k => XS.iloadN X38.here hx rfl (hb hby at_152) rfl  k) ?_
    show own_Go p e below G (T38.setTop (mkF m 153 #[.val (.int x0), .val (.ref b1), .val (.ref b26), .val (.int (8 : Int32))] [(.int (8 : Int32)), (.ref b1)]))
    have Vc63 := V_b1
    obtain ⟨cl63, Ar63, -, Sa63, -, Ha63, -⟩ := Vc63
    have hin63 : ¬ ((8 : Int32) < 0 ∨ cl63.slots.size ≤ ((8 : Int32)).toNatClampNeg) := inb_of Sa63 ⟨by decide, by decide⟩
    refine own_st (fun t k => X38.aaload hx (j := (8 : Int32)) (v := (.ref aULONG)) (by rw [e38]; exact Ar63.1) (State.isArrayOf_alike hZ.alike Ar63.2.1) rfl Ar63.2.2 hin63 (Ha63.at hin63 rfl) (g := (mkF m 153 #[.val (.int x0), .val (.ref b1), .val (.ref b26), .val (.int (8 : Int32))] [(.int (8 : Int32)), (.ref b1)])) rfl rfl (hb hby at_153) t k) ?_
    show own_Go p e below G (T38.setTop (mkF m 154 #[.val (.int x0), .val (.ref b1), .val (.ref b26), .val (.int (8 : Int32))] [(.ref aULONG)]))
    obtain ⟨v64, T64, L64, X64, Q64, st64⟩ := own_callV X38 hx hZ (y := (⟨"com/example/knowing_records/knowingrecords/data/ScalarType", "isNumeric", "()Z"⟩ : MethodName)) (z := (⟨"com/example/knowing_records/knowingrecords/data/ScalarType", "isNumeric", "()Z"⟩ : MethodName)) hown (hw _ (List.mem_of_getElem? (i := 30) rfl)) (hw _ (List.mem_of_getElem? (i := 31) rfl)) (notFace_of_selects (args := #[]) (mvT hZ (hw _ (List.mem_of_getElem? (i := 33) rfl)))) (hw _ (List.mem_of_getElem? (i := 33) rfl)) (hw _ (List.mem_of_getElem? (i := 32) rfl)) (hw _ (List.mem_of_getElem? (i := 3) rfl)) (hw _ (List.mem_of_getElem? (i := 34) rfl)) (by decide) (W := 0) (rm1 l Z a0 hw aULONG aBOOLEAN aSTRING h38 (SBOOLEAN.ext OL.2) (SSTRING.ext OL.2)) (by decide) (by decide) e38 (EULONG.ext OL.2) (g := (mkF m 154 #[.val (.int x0), .val (.ref b1), .val (.ref b26), .val (.int (8 : Int32))] [(.ref aULONG)])) rfl (by rw [hml]; rfl) (argsL := []) (rest := []) own_pd0 rfl rfl (by show 2 * 0 + _ ≤ _; exact Nat.le_of_eq rfl) (hb hby at_154) rfl (by decide) (by decide)
    obtain ⟨rfl, rfl, e64⟩ := Q64
    simp only [List.append_nil, Nat.add_zero] at X64
    refine own_st st64 ?_
    show own_Go p e below G (T64.setTop (mkF m 157 #[.val (.int x0), .val (.ref b1), .val (.ref b26), .val (.int (8 : Int32))] [(.int (own_nu (.ref aULONG) (.ref aBOOLEAN) (.ref aSTRING)))]))
    refine own_st (fun t k => XS.aloadN X64.here hx rfl (hb hby at_157) rfl rfl  k) ?_
    show own_Go p e below G (T64.setTop (mkF m 158 #[.val (.int x0), .val (.ref b1), .val (.ref b26), .val (.int (8 : Int32))] [(.ref b26), (.int (own_nu (.ref aULONG) (.ref aBOOLEAN) (.ref aSTRING)))]))
    refine own_st (fun t k => XS.iloadN X64.here hx rfl (hb hby at_158) rfl  k) ?_
    show own_Go p e below G (T64.setTop (mkF m 159 #[.val (.int x0), .val (.ref b1), .val (.ref b26), .val (.int (8 : Int32))] [(.int (8 : Int32)), (.ref b26), (.int (own_nu (.ref aULONG) (.ref aBOOLEAN) (.ref aSTRING)))]))
    have Vc65 := V_b26
    obtain ⟨cl65, Ar65, -, Sa65, -, Ha65, -⟩ := Vc65
    have hin65 : ¬ ((8 : Int32) < 0 ∨ cl65.slots.size ≤ ((8 : Int32)).toNatClampNeg) := inb_of Sa65 ⟨by decide, by decide⟩
    refine own_st (fun t k => X64.baloadBooleans hx (j := (8 : Int32)) (v := (.int (nar .boolean (1 : Int32)))) (by rw [e64]; exact Ar65.1) (State.isArrayOf_alike hZ.alike Ar65.2.1) Ar65.2.2 hin65 (Ha65.at hin65 rfl) (g := (mkF m 159 #[.val (.int x0), .val (.ref b1), .val (.ref b26), .val (.int (8 : Int32))] [(.int (8 : Int32)), (.ref b26), (.int (own_nu (.ref aULONG) (.ref aBOOLEAN) (.ref aSTRING)))])) rfl rfl (hb hby at_159) t k) ?_
    show own_Go p e below G (T64.setTop (mkF m 160 #[.val (.int x0), .val (.ref b1), .val (.ref b26), .val (.int (8 : Int32))] [(.int (nar .boolean (1 : Int32))), (.int (own_nu (.ref aULONG) (.ref aBOOLEAN) (.ref aSTRING)))]))
    refine own_st (fun t k => XS.icmpNo X64.here hx rfl (hb hby at_160) rfl (teq (show (own_nu (.ref aULONG) (.ref aBOOLEAN) (.ref aSTRING)) = (nar .boolean (1 : Int32)) from hULONG)).2 k) ?_
    show own_Go p e below G (T64.setTop (mkF m 163 #[.val (.int x0), .val (.ref b1), .val (.ref b26), .val (.int (8 : Int32))] []))
    refine own_st (fun t k => XS.iconst X64.here hx rfl (hb hby at_163) k) ?_
    show own_Go p e below G (T64.setTop (mkF m 164 #[.val (.int x0), .val (.ref b1), .val (.ref b26), .val (.int (8 : Int32))] [(.int (1 : Int32))]))
    refine own_st (fun t k => XS.goto X64.here hx rfl (pc0 := 164) (pc' := 168) rfl (hb hby at_164) (by decide) (by decide) k) ?_
    show own_Go p e below G (T64.setTop (mkF m 168 #[.val (.int x0), .val (.ref b1), .val (.ref b26), .val (.int (8 : Int32))] [(.int (1 : Int32))]))
    rw [hG]
    exact own_retZ X64 hx hlk (t := .boolean) hret (by simp) (hb hby at_168) ⟨rfl, N0⟩ (by decide) (by decide)
  · skip
    show own_Go p e below G (T38.setTop (mkF m 151 #[.val (.int x0), .val (.ref b1), .val (.ref b26), .val (.int (9 : Int32))] []))
    refine own_st (fun t k => XS.aloadN X38.here hx rfl (hb hby at_151) rfl rfl  k) ?_
    show own_Go p e below G (T38.setTop (mkF m 152 #[.val (.int x0), .val (.ref b1), .val (.ref b26), .val (.int (9 : Int32))] [(.ref b1)]))
    refine own_st (fun t k => XS.iloadN X38.here hx rfl (hb hby at_152) rfl  k) ?_
    show own_Go p e below G (T38.setTop (mkF m 153 #[.val (.int x0), .val (.ref b1), .val (.ref b26), .val (.int (9 : Int32))] [(.int (9 : Int32)), (.ref b1)]))
    have Vc66 := V_b1
    obtain ⟨cl66, Ar66, -, Sa66, -, Ha66, -⟩ := Vc66
    have hin66 : ¬ ((9 : Int32) < 0 ∨ cl66.slots.size ≤ ((9 : Int32)).toNatClampNeg) := inb_of Sa66 ⟨by decide, by decide⟩
    refine own_st (fun t k => X38.aaload hx (j := (9 : Int32)) (v := (.ref aFLOAT)) (by rw [e38]; exact Ar66.1) (State.isArrayOf_alike hZ.alike Ar66.2.1) rfl Ar66.2.2 hin66 (Ha66.at hin66 rfl) (g := (mkF m 153 #[.val (.int x0), .val (.ref b1), .val (.ref b26), .val (.int (9 : Int32))] [(.int (9 : Int32)), (.ref b1)])) rfl rfl (hb hby at_153) t k) ?_
    show own_Go p e below G (T38.setTop (mkF m 154 #[.val (.int x0), .val (.ref b1), .val (.ref b26), .val (.int (9 : Int32))] [(.ref aFLOAT)]))
    obtain ⟨v67, T67, L67, X67, Q67, st67⟩ := own_callV X38 hx hZ (y := (⟨"com/example/knowing_records/knowingrecords/data/ScalarType", "isNumeric", "()Z"⟩ : MethodName)) (z := (⟨"com/example/knowing_records/knowingrecords/data/ScalarType", "isNumeric", "()Z"⟩ : MethodName)) hown (hw _ (List.mem_of_getElem? (i := 30) rfl)) (hw _ (List.mem_of_getElem? (i := 31) rfl)) (notFace_of_selects (args := #[]) (mvT hZ (hw _ (List.mem_of_getElem? (i := 33) rfl)))) (hw _ (List.mem_of_getElem? (i := 33) rfl)) (hw _ (List.mem_of_getElem? (i := 32) rfl)) (hw _ (List.mem_of_getElem? (i := 3) rfl)) (hw _ (List.mem_of_getElem? (i := 34) rfl)) (by decide) (W := 0) (rm1 l Z a0 hw aFLOAT aBOOLEAN aSTRING h38 (SBOOLEAN.ext OL.2) (SSTRING.ext OL.2)) (by decide) (by decide) e38 (EFLOAT.ext OL.2) (g := (mkF m 154 #[.val (.int x0), .val (.ref b1), .val (.ref b26), .val (.int (9 : Int32))] [(.ref aFLOAT)])) rfl (by rw [hml]; rfl) (argsL := []) (rest := []) own_pd0 rfl rfl (by show 2 * 0 + _ ≤ _; exact Nat.le_of_eq rfl) (hb hby at_154) rfl (by decide) (by decide)
    obtain ⟨rfl, rfl, e67⟩ := Q67
    simp only [List.append_nil, Nat.add_zero] at X67
    refine own_st st67 ?_
    show own_Go p e below G (T67.setTop (mkF m 157 #[.val (.int x0), .val (.ref b1), .val (.ref b26), .val (.int (9 : Int32))] [(.int (own_nu (.ref aFLOAT) (.ref aBOOLEAN) (.ref aSTRING)))]))
    refine own_st (fun t k => XS.aloadN X67.here hx rfl (hb hby at_157) rfl rfl  k) ?_
    show own_Go p e below G (T67.setTop (mkF m 158 #[.val (.int x0), .val (.ref b1), .val (.ref b26), .val (.int (9 : Int32))] [(.ref b26), (.int (own_nu (.ref aFLOAT) (.ref aBOOLEAN) (.ref aSTRING)))]))
    refine own_st (fun t k => XS.iloadN X67.here hx rfl (hb hby at_158) rfl  k) ?_
    show own_Go p e below G (T67.setTop (mkF m 159 #[.val (.int x0), .val (.ref b1), .val (.ref b26), .val (.int (9 : Int32))] [(.int (9 : Int32)), (.ref b26), (.int (own_nu (.ref aFLOAT) (.ref aBOOLEAN) (.ref aSTRING)))]))
    have Vc68 := V_b26
    obtain ⟨cl68, Ar68, -, Sa68, -, Ha68, -⟩ := Vc68
    have hin68 : ¬ ((9 : Int32) < 0 ∨ cl68.slots.size ≤ ((9 : Int32)).toNatClampNeg) := inb_of Sa68 ⟨by decide, by decide⟩
    refine own_st (fun t k => X67.baloadBooleans hx (j := (9 : Int32)) (v := (.int (nar .boolean (1 : Int32)))) (by rw [e67]; exact Ar68.1) (State.isArrayOf_alike hZ.alike Ar68.2.1) Ar68.2.2 hin68 (Ha68.at hin68 rfl) (g := (mkF m 159 #[.val (.int x0), .val (.ref b1), .val (.ref b26), .val (.int (9 : Int32))] [(.int (9 : Int32)), (.ref b26), (.int (own_nu (.ref aFLOAT) (.ref aBOOLEAN) (.ref aSTRING)))])) rfl rfl (hb hby at_159) t k) ?_
    show own_Go p e below G (T67.setTop (mkF m 160 #[.val (.int x0), .val (.ref b1), .val (.ref b26), .val (.int (9 : Int32))] [(.int (nar .boolean (1 : Int32))), (.int (own_nu (.ref aFLOAT) (.ref aBOOLEAN) (.ref aSTRING)))]))
    refine own_st (fun t k => XS.icmpNo X67.here hx rfl (hb hby at_160) rfl (teq (show (own_nu (.ref aFLOAT) (.ref aBOOLEAN) (.ref aSTRING)) = (nar .boolean (1 : Int32)) from hFLOAT)).2 k) ?_
    show own_Go p e below G (T67.setTop (mkF m 163 #[.val (.int x0), .val (.ref b1), .val (.ref b26), .val (.int (9 : Int32))] []))
    refine own_st (fun t k => XS.iconst X67.here hx rfl (hb hby at_163) k) ?_
    show own_Go p e below G (T67.setTop (mkF m 164 #[.val (.int x0), .val (.ref b1), .val (.ref b26), .val (.int (9 : Int32))] [(.int (1 : Int32))]))
    refine own_st (fun t k => XS.goto X67.here hx rfl (pc0 := 164) (pc' := 168) rfl (hb hby at_164) (by decide) (by decide) k) ?_
    show own_Go p e below G (T67.setTop (mkF m 168 #[.val (.int x0), .val (.ref b1), .val (.ref b26), .val (.int (9 : Int32))] [(.int (1 : Int32))]))
    rw [hG]
    exact own_retZ X67 hx hlk (t := .boolean) hret (by simp) (hb hby at_168) ⟨rfl, N0⟩ (by decide) (by decide)
  · skip
    show own_Go p e below G (T38.setTop (mkF m 151 #[.val (.int x0), .val (.ref b1), .val (.ref b26), .val (.int (10 : Int32))] []))
    refine own_st (fun t k => XS.aloadN X38.here hx rfl (hb hby at_151) rfl rfl  k) ?_
    show own_Go p e below G (T38.setTop (mkF m 152 #[.val (.int x0), .val (.ref b1), .val (.ref b26), .val (.int (10 : Int32))] [(.ref b1)]))
    refine own_st (fun t k => XS.iloadN X38.here hx rfl (hb hby at_152) rfl  k) ?_
    show own_Go p e below G (T38.setTop (mkF m 153 #[.val (.int x0), .val (.ref b1), .val (.ref b26), .val (.int (10 : Int32))] [(.int (10 : Int32)), (.ref b1)]))
    have Vc69 := V_b1
    obtain ⟨cl69, Ar69, -, Sa69, -, Ha69, -⟩ := Vc69
    have hin69 : ¬ ((10 : Int32) < 0 ∨ cl69.slots.size ≤ ((10 : Int32)).toNatClampNeg) := inb_of Sa69 ⟨by decide, by decide⟩
    refine own_st (fun t k => X38.aaload hx (j := (10 : Int32)) (v := (.ref aDOUBLE)) (by rw [e38]; exact Ar69.1) (State.isArrayOf_alike hZ.alike Ar69.2.1) rfl Ar69.2.2 hin69 (Ha69.at hin69 rfl) (g := (mkF m 153 #[.val (.int x0), .val (.ref b1), .val (.ref b26), .val (.int (10 : Int32))] [(.int (10 : Int32)), (.ref b1)])) rfl rfl (hb hby at_153) t k) ?_
    show own_Go p e below G (T38.setTop (mkF m 154 #[.val (.int x0), .val (.ref b1), .val (.ref b26), .val (.int (10 : Int32))] [(.ref aDOUBLE)]))
    obtain ⟨v70, T70, L70, X70, Q70, st70⟩ := own_callV X38 hx hZ (y := (⟨"com/example/knowing_records/knowingrecords/data/ScalarType", "isNumeric", "()Z"⟩ : MethodName)) (z := (⟨"com/example/knowing_records/knowingrecords/data/ScalarType", "isNumeric", "()Z"⟩ : MethodName)) hown (hw _ (List.mem_of_getElem? (i := 30) rfl)) (hw _ (List.mem_of_getElem? (i := 31) rfl)) (notFace_of_selects (args := #[]) (mvT hZ (hw _ (List.mem_of_getElem? (i := 33) rfl)))) (hw _ (List.mem_of_getElem? (i := 33) rfl)) (hw _ (List.mem_of_getElem? (i := 32) rfl)) (hw _ (List.mem_of_getElem? (i := 3) rfl)) (hw _ (List.mem_of_getElem? (i := 34) rfl)) (by decide) (W := 0) (rm1 l Z a0 hw aDOUBLE aBOOLEAN aSTRING h38 (SBOOLEAN.ext OL.2) (SSTRING.ext OL.2)) (by decide) (by decide) e38 (EDOUBLE.ext OL.2) (g := (mkF m 154 #[.val (.int x0), .val (.ref b1), .val (.ref b26), .val (.int (10 : Int32))] [(.ref aDOUBLE)])) rfl (by rw [hml]; rfl) (argsL := []) (rest := []) own_pd0 rfl rfl (by show 2 * 0 + _ ≤ _; exact Nat.le_of_eq rfl) (hb hby at_154) rfl (by decide) (by decide)
    obtain ⟨rfl, rfl, e70⟩ := Q70
    simp only [List.append_nil, Nat.add_zero] at X70
    refine own_st st70 ?_
    show own_Go p e below G (T70.setTop (mkF m 157 #[.val (.int x0), .val (.ref b1), .val (.ref b26), .val (.int (10 : Int32))] [(.int (own_nu (.ref aDOUBLE) (.ref aBOOLEAN) (.ref aSTRING)))]))
    refine own_st (fun t k => XS.aloadN X70.here hx rfl (hb hby at_157) rfl rfl  k) ?_
    show own_Go p e below G (T70.setTop (mkF m 158 #[.val (.int x0), .val (.ref b1), .val (.ref b26), .val (.int (10 : Int32))] [(.ref b26), (.int (own_nu (.ref aDOUBLE) (.ref aBOOLEAN) (.ref aSTRING)))]))
    refine own_st (fun t k => XS.iloadN X70.here hx rfl (hb hby at_158) rfl  k) ?_
    show own_Go p e below G (T70.setTop (mkF m 159 #[.val (.int x0), .val (.ref b1), .val (.ref b26), .val (.int (10 : Int32))] [(.int (10 : Int32)), (.ref b26), (.int (own_nu (.ref aDOUBLE) (.ref aBOOLEAN) (.ref aSTRING)))]))
    have Vc71 := V_b26
    obtain ⟨cl71, Ar71, -, Sa71, -, Ha71, -⟩ := Vc71
    have hin71 : ¬ ((10 : Int32) < 0 ∨ cl71.slots.size ≤ ((10 : Int32)).toNatClampNeg) := inb_of Sa71 ⟨by decide, by decide⟩
    refine own_st (fun t k => X70.baloadBooleans hx (j := (10 : Int32)) (v := (.int (nar .boolean (1 : Int32)))) (by rw [e70]; exact Ar71.1) (State.isArrayOf_alike hZ.alike Ar71.2.1) Ar71.2.2 hin71 (Ha71.at hin71 rfl) (g := (mkF m 159 #[.val (.int x0), .val (.ref b1), .val (.ref b26), .val (.int (10 : Int32))] [(.int (10 : Int32)), (.ref b26), (.int (own_nu (.ref aDOUBLE) (.ref aBOOLEAN) (.ref aSTRING)))])) rfl rfl (hb hby at_159) t k) ?_
    show own_Go p e below G (T70.setTop (mkF m 160 #[.val (.int x0), .val (.ref b1), .val (.ref b26), .val (.int (10 : Int32))] [(.int (nar .boolean (1 : Int32))), (.int (own_nu (.ref aDOUBLE) (.ref aBOOLEAN) (.ref aSTRING)))]))
    refine own_st (fun t k => XS.icmpNo X70.here hx rfl (hb hby at_160) rfl (teq (show (own_nu (.ref aDOUBLE) (.ref aBOOLEAN) (.ref aSTRING)) = (nar .boolean (1 : Int32)) from hDOUBLE)).2 k) ?_
    show own_Go p e below G (T70.setTop (mkF m 163 #[.val (.int x0), .val (.ref b1), .val (.ref b26), .val (.int (10 : Int32))] []))
    refine own_st (fun t k => XS.iconst X70.here hx rfl (hb hby at_163) k) ?_
    show own_Go p e below G (T70.setTop (mkF m 164 #[.val (.int x0), .val (.ref b1), .val (.ref b26), .val (.int (10 : Int32))] [(.int (1 : Int32))]))
    refine own_st (fun t k => XS.goto X70.here hx rfl (pc0 := 164) (pc' := 168) rfl (hb hby at_164) (by decide) (by decide) k) ?_
    show own_Go p e below G (T70.setTop (mkF m 168 #[.val (.int x0), .val (.ref b1), .val (.ref b26), .val (.int (10 : Int32))] [(.int (1 : Int32))]))
    rw [hG]
    exact own_retZ X70 hx hlk (t := .boolean) hret (by simp) (hb hby at_168) ⟨rfl, N0⟩ (by decide) (by decide)
  · skip
    show own_Go p e below G (T38.setTop (mkF m 151 #[.val (.int x0), .val (.ref b1), .val (.ref b26), .val (.int (11 : Int32))] []))
    refine own_st (fun t k => XS.aloadN X38.here hx rfl (hb hby at_151) rfl rfl  k) ?_
    show own_Go p e below G (T38.setTop (mkF m 152 #[.val (.int x0), .val (.ref b1), .val (.ref b26), .val (.int (11 : Int32))] [(.ref b1)]))
    refine own_st (fun t k => XS.iloadN X38.here hx rfl (hb hby at_152) rfl  k) ?_
    show own_Go p e below G (T38.setTop (mkF m 153 #[.val (.int x0), .val (.ref b1), .val (.ref b26), .val (.int (11 : Int32))] [(.int (11 : Int32)), (.ref b1)]))
    have Vc72 := V_b1
    obtain ⟨cl72, Ar72, -, Sa72, -, Ha72, -⟩ := Vc72
    have hin72 : ¬ ((11 : Int32) < 0 ∨ cl72.slots.size ≤ ((11 : Int32)).toNatClampNeg) := inb_of Sa72 ⟨by decide, by decide⟩
    refine own_st (fun t k => X38.aaload hx (j := (11 : Int32)) (v := (.ref aSTRING)) (by rw [e38]; exact Ar72.1) (State.isArrayOf_alike hZ.alike Ar72.2.1) rfl Ar72.2.2 hin72 (Ha72.at hin72 rfl) (g := (mkF m 153 #[.val (.int x0), .val (.ref b1), .val (.ref b26), .val (.int (11 : Int32))] [(.int (11 : Int32)), (.ref b1)])) rfl rfl (hb hby at_153) t k) ?_
    show own_Go p e below G (T38.setTop (mkF m 154 #[.val (.int x0), .val (.ref b1), .val (.ref b26), .val (.int (11 : Int32))] [(.ref aSTRING)]))
    obtain ⟨v73, T73, L73, X73, Q73, st73⟩ := own_callV X38 hx hZ (y := (⟨"com/example/knowing_records/knowingrecords/data/ScalarType", "isNumeric", "()Z"⟩ : MethodName)) (z := (⟨"com/example/knowing_records/knowingrecords/data/ScalarType", "isNumeric", "()Z"⟩ : MethodName)) hown (hw _ (List.mem_of_getElem? (i := 30) rfl)) (hw _ (List.mem_of_getElem? (i := 31) rfl)) (notFace_of_selects (args := #[]) (mvT hZ (hw _ (List.mem_of_getElem? (i := 33) rfl)))) (hw _ (List.mem_of_getElem? (i := 33) rfl)) (hw _ (List.mem_of_getElem? (i := 32) rfl)) (hw _ (List.mem_of_getElem? (i := 3) rfl)) (hw _ (List.mem_of_getElem? (i := 34) rfl)) (by decide) (W := 0) (rm1 l Z a0 hw aSTRING aBOOLEAN aSTRING h38 (SBOOLEAN.ext OL.2) (SSTRING.ext OL.2)) (by decide) (by decide) e38 (ESTRING.ext OL.2) (g := (mkF m 154 #[.val (.int x0), .val (.ref b1), .val (.ref b26), .val (.int (11 : Int32))] [(.ref aSTRING)])) rfl (by rw [hml]; rfl) (argsL := []) (rest := []) own_pd0 rfl rfl (by show 2 * 0 + _ ≤ _; exact Nat.le_of_eq rfl) (hb hby at_154) rfl (by decide) (by decide)
    obtain ⟨rfl, rfl, e73⟩ := Q73
    simp only [List.append_nil, Nat.add_zero] at X73
    refine own_st st73 ?_
    show own_Go p e below G (T73.setTop (mkF m 157 #[.val (.int x0), .val (.ref b1), .val (.ref b26), .val (.int (11 : Int32))] [(.int (own_nu (.ref aSTRING) (.ref aBOOLEAN) (.ref aSTRING)))]))
    refine own_st (fun t k => XS.aloadN X73.here hx rfl (hb hby at_157) rfl rfl  k) ?_
    show own_Go p e below G (T73.setTop (mkF m 158 #[.val (.int x0), .val (.ref b1), .val (.ref b26), .val (.int (11 : Int32))] [(.ref b26), (.int (own_nu (.ref aSTRING) (.ref aBOOLEAN) (.ref aSTRING)))]))
    refine own_st (fun t k => XS.iloadN X73.here hx rfl (hb hby at_158) rfl  k) ?_
    show own_Go p e below G (T73.setTop (mkF m 159 #[.val (.int x0), .val (.ref b1), .val (.ref b26), .val (.int (11 : Int32))] [(.int (11 : Int32)), (.ref b26), (.int (own_nu (.ref aSTRING) (.ref aBOOLEAN) (.ref aSTRING)))]))
    have Vc74 := V_b26
    obtain ⟨cl74, Ar74, -, Sa74, -, Ha74, -⟩ := Vc74
    have hin74 : ¬ ((11 : Int32) < 0 ∨ cl74.slots.size ≤ ((11 : Int32)).toNatClampNeg) := inb_of Sa74 ⟨by decide, by decide⟩
    refine own_st (fun t k => X73.baloadBooleans hx (j := (11 : Int32)) (v := (.int (nar .boolean (0 : Int32)))) (by rw [e73]; exact Ar74.1) (State.isArrayOf_alike hZ.alike Ar74.2.1) Ar74.2.2 hin74 (Ha74.at hin74 rfl) (g := (mkF m 159 #[.val (.int x0), .val (.ref b1), .val (.ref b26), .val (.int (11 : Int32))] [(.int (11 : Int32)), (.ref b26), (.int (own_nu (.ref aSTRING) (.ref aBOOLEAN) (.ref aSTRING)))])) rfl rfl (hb hby at_159) t k) ?_
    show own_Go p e below G (T73.setTop (mkF m 160 #[.val (.int x0), .val (.ref b1), .val (.ref b26), .val (.int (11 : Int32))] [(.int (nar .boolean (0 : Int32))), (.int (own_nu (.ref aSTRING) (.ref aBOOLEAN) (.ref aSTRING)))]))
    refine own_st (fun t k => XS.icmpNo X73.here hx rfl (hb hby at_160) rfl (teq (show (own_nu (.ref aSTRING) (.ref aBOOLEAN) (.ref aSTRING)) = (nar .boolean (0 : Int32)) from hSTRING)).2 k) ?_
    show own_Go p e below G (T73.setTop (mkF m 163 #[.val (.int x0), .val (.ref b1), .val (.ref b26), .val (.int (11 : Int32))] []))
    refine own_st (fun t k => XS.iconst X73.here hx rfl (hb hby at_163) k) ?_
    show own_Go p e below G (T73.setTop (mkF m 164 #[.val (.int x0), .val (.ref b1), .val (.ref b26), .val (.int (11 : Int32))] [(.int (1 : Int32))]))
    refine own_st (fun t k => XS.goto X73.here hx rfl (pc0 := 164) (pc' := 168) rfl (hb hby at_164) (by decide) (by decide) k) ?_
    show own_Go p e below G (T73.setTop (mkF m 168 #[.val (.int x0), .val (.ref b1), .val (.ref b26), .val (.int (11 : Int32))] [(.int (1 : Int32))]))
    rw [hG]
    exact own_retZ X73 hx hlk (t := .boolean) hret (by simp) (hb hby at_168) ⟨rfl, N0⟩ (by decide) (by decide)
set_option maxRecDepth 65536 in
set_option maxHeartbeats 40000000 in
theorem comes_1 {Post : Tables → Env → Array Value → State → Outcome → State → Prop} (hpost : ∀ tb e args s v u, (limb_1_1.after args s (.returned v) u = true ∧ limb_1_2.after args s (.returned v) u = true) → FrameEnd s (.returned v) u (Jvm.fieldLocs frame_1_writes args s ++ Jvm.arrayLocs frame_1_arrays args s ++ Jvm.staticLocs frame_1_statics s) 16 128 → Post tb e args s (.returned v) u) :
    ArmFor flags0 classFile x code maxLocals ret World_1 tables_1 room_1 Calls_1 rest_1 Pre_1 Post := by
  intro l hfl _ _ p e ha hc hk s m args below hf hA hF happ hP
  obtain ⟨hcalls, hrest, hpre⟩ := hP
  obtain ⟨-, -, -, hnamed, -, -, -, hat⟩ := (Spec.applies_iff hf).mp happ
  obtain ⟨hg, hn⟩ := and_e (Cond.before_iff.mp (show (Jvm.Cond.and given_1 narrow_1).before args s = true from hpre))
  obtain ⟨gc, gv0⟩ := and_e hg
  obtain ⟨w0, rfl⟩ : ∃ w0 : Value, args = #[w0] := by
    have hs : args.size = 1 := by simpa [Cond.value, given_1] using gc
    obtain ⟨L⟩ := args
    match L, hs with
    | [w0], _ => exact ⟨w0, rfl⟩
  have hw := fun d (hd : d ∈ tables_1) => atoms_spec (ws := Jvm.Cond.code x code maxLocals ret :: tables_1) hat d (List.mem_cons_of_mem _ hd)
  have hfit : Fit s := fun {y c} hc i hi => by
    obtain ⟨ha, rfl⟩ := Array.getElem?_eq_some_iff.mp hc
    have q := List.all_eq_true.mp ((Array.all_eq_true_iff_forall_mem.mp hF) _ (Array.getElem_mem ha)) i (List.mem_range.mpr hi)
    simpa [Array.getElem?_eq_getElem hi] using q
  obtain ⟨i0, ei0⟩ := is_v gv0
  obtain rfl : w0 = (.int i0) := Option.some.inj ei0
  obtain ⟨zxBOOLEAN, hn⟩ := and_e hn
  obtain ⟨zxBYTE, hn⟩ := and_e hn
  obtain ⟨zxSHORT, hn⟩ := and_e hn
  obtain ⟨zxINT, hn⟩ := and_e hn
  obtain ⟨zxLONG, hn⟩ := and_e hn
  obtain ⟨zxUBYTE, hn⟩ := and_e hn
  obtain ⟨zxUSHORT, hn⟩ := and_e hn
  obtain ⟨zxUINT, hn⟩ := and_e hn
  obtain ⟨zxULONG, hn⟩ := and_e hn
  obtain ⟨zxFLOAT, hn⟩ := and_e hn
  obtain ⟨zxDOUBLE, hn⟩ := and_e hn
  obtain ⟨zxSTRING, hn⟩ := and_e hn
  obtain ⟨zoINT, hn⟩ := and_e hn
  obtain ⟨zoBOOLEAN, hn⟩ := and_e hn
  obtain ⟨zoSTRING, hn⟩ := and_e hn
  obtain ⟨zoSHORT, hn⟩ := and_e hn
  obtain ⟨zoUINT, hn⟩ := and_e hn
  obtain ⟨zoLONG, hn⟩ := and_e hn
  obtain ⟨zoULONG, hn⟩ := and_e hn
  obtain ⟨zoBYTE, hn⟩ := and_e hn
  obtain ⟨zoDOUBLE, hn⟩ := and_e hn
  obtain ⟨zoFLOAT, hn⟩ := and_e hn
  obtain ⟨zoUSHORT, hn⟩ := and_e hn
  have zoUBYTE := hn
  obtain ⟨aBOOLEAN, evBOOLEAN, EBOOLEAN⟩ := own_exa zxBOOLEAN
  have SBOOLEAN := Sta.start evBOOLEAN (Or.inr ⟨(hw _ (List.mem_of_getElem? (i := 3) rfl)), (hw _ (List.mem_of_getElem? (i := 4) rfl))⟩)
  have OBOOLEAN := own_fldI zoBOOLEAN evBOOLEAN
  obtain ⟨aBYTE, evBYTE, EBYTE⟩ := own_exa zxBYTE
  have SBYTE := Sta.start evBYTE (Or.inr ⟨(hw _ (List.mem_of_getElem? (i := 3) rfl)), (hw _ (List.mem_of_getElem? (i := 7) rfl))⟩)
  have OBYTE := own_fldI zoBYTE evBYTE
  obtain ⟨aSHORT, evSHORT, ESHORT⟩ := own_exa zxSHORT
  have SSHORT := Sta.start evSHORT (Or.inr ⟨(hw _ (List.mem_of_getElem? (i := 3) rfl)), (hw _ (List.mem_of_getElem? (i := 9) rfl))⟩)
  have OSHORT := own_fldI zoSHORT evSHORT
  obtain ⟨aINT, evINT, EINT⟩ := own_exa zxINT
  have SINT := Sta.start evINT (Or.inr ⟨(hw _ (List.mem_of_getElem? (i := 3) rfl)), (hw _ (List.mem_of_getElem? (i := 11) rfl))⟩)
  have OINT := own_fldI zoINT evINT
  obtain ⟨aLONG, evLONG, ELONG⟩ := own_exa zxLONG
  have SLONG := Sta.start evLONG (Or.inr ⟨(hw _ (List.mem_of_getElem? (i := 3) rfl)), (hw _ (List.mem_of_getElem? (i := 13) rfl))⟩)
  have OLONG := own_fldI zoLONG evLONG
  obtain ⟨aUBYTE, evUBYTE, EUBYTE⟩ := own_exa zxUBYTE
  have SUBYTE := Sta.start evUBYTE (Or.inr ⟨(hw _ (List.mem_of_getElem? (i := 3) rfl)), (hw _ (List.mem_of_getElem? (i := 15) rfl))⟩)
  have OUBYTE := own_fldI zoUBYTE evUBYTE
  obtain ⟨aUSHORT, evUSHORT, EUSHORT⟩ := own_exa zxUSHORT
  have SUSHORT := Sta.start evUSHORT (Or.inr ⟨(hw _ (List.mem_of_getElem? (i := 3) rfl)), (hw _ (List.mem_of_getElem? (i := 17) rfl))⟩)
  have OUSHORT := own_fldI zoUSHORT evUSHORT
  obtain ⟨aUINT, evUINT, EUINT⟩ := own_exa zxUINT
  have SUINT := Sta.start evUINT (Or.inr ⟨(hw _ (List.mem_of_getElem? (i := 3) rfl)), (hw _ (List.mem_of_getElem? (i := 19) rfl))⟩)
  have OUINT := own_fldI zoUINT evUINT
  obtain ⟨aULONG, evULONG, EULONG⟩ := own_exa zxULONG
  have SULONG := Sta.start evULONG (Or.inr ⟨(hw _ (List.mem_of_getElem? (i := 3) rfl)), (hw _ (List.mem_of_getElem? (i := 21) rfl))⟩)
  have OULONG := own_fldI zoULONG evULONG
  obtain ⟨aFLOAT, evFLOAT, EFLOAT⟩ := own_exa zxFLOAT
  have SFLOAT := Sta.start evFLOAT (Or.inr ⟨(hw _ (List.mem_of_getElem? (i := 3) rfl)), (hw _ (List.mem_of_getElem? (i := 23) rfl))⟩)
  have OFLOAT := own_fldI zoFLOAT evFLOAT
  obtain ⟨aDOUBLE, evDOUBLE, EDOUBLE⟩ := own_exa zxDOUBLE
  have SDOUBLE := Sta.start evDOUBLE (Or.inr ⟨(hw _ (List.mem_of_getElem? (i := 3) rfl)), (hw _ (List.mem_of_getElem? (i := 25) rfl))⟩)
  have ODOUBLE := own_fldI zoDOUBLE evDOUBLE
  obtain ⟨aSTRING, evSTRING, ESTRING⟩ := own_exa zxSTRING
  have SSTRING := Sta.start evSTRING (Or.inr ⟨(hw _ (List.mem_of_getElem? (i := 3) rfl)), (hw _ (List.mem_of_getElem? (i := 27) rfl))⟩)
  have OSTRING := own_fldI zoSTRING evSTRING
  have hBOOLEAN : own_nu (.ref aBOOLEAN) (.ref aBOOLEAN) (.ref aSTRING) = 0 := if_pos (Or.inl rfl)
  have hBYTE : own_nu (.ref aBYTE) (.ref aBOOLEAN) (.ref aSTRING) = 1 := own_nu1 (OBYTE.ne OBOOLEAN (by decide)) (OBYTE.ne OSTRING (by decide))
  have hSHORT : own_nu (.ref aSHORT) (.ref aBOOLEAN) (.ref aSTRING) = 1 := own_nu1 (OSHORT.ne OBOOLEAN (by decide)) (OSHORT.ne OSTRING (by decide))
  have hINT : own_nu (.ref aINT) (.ref aBOOLEAN) (.ref aSTRING) = 1 := own_nu1 (OINT.ne OBOOLEAN (by decide)) (OINT.ne OSTRING (by decide))
  have hLONG : own_nu (.ref aLONG) (.ref aBOOLEAN) (.ref aSTRING) = 1 := own_nu1 (OLONG.ne OBOOLEAN (by decide)) (OLONG.ne OSTRING (by decide))
  have hUBYTE : own_nu (.ref aUBYTE) (.ref aBOOLEAN) (.ref aSTRING) = 1 := own_nu1 (OUBYTE.ne OBOOLEAN (by decide)) (OUBYTE.ne OSTRING (by decide))
  have hUSHORT : own_nu (.ref aUSHORT) (.ref aBOOLEAN) (.ref aSTRING) = 1 := own_nu1 (OUSHORT.ne OBOOLEAN (by decide)) (OUSHORT.ne OSTRING (by decide))
  have hUINT : own_nu (.ref aUINT) (.ref aBOOLEAN) (.ref aSTRING) = 1 := own_nu1 (OUINT.ne OBOOLEAN (by decide)) (OUINT.ne OSTRING (by decide))
  have hULONG : own_nu (.ref aULONG) (.ref aBOOLEAN) (.ref aSTRING) = 1 := own_nu1 (OULONG.ne OBOOLEAN (by decide)) (OULONG.ne OSTRING (by decide))
  have hFLOAT : own_nu (.ref aFLOAT) (.ref aBOOLEAN) (.ref aSTRING) = 1 := own_nu1 (OFLOAT.ne OBOOLEAN (by decide)) (OFLOAT.ne OSTRING (by decide))
  have hDOUBLE : own_nu (.ref aDOUBLE) (.ref aBOOLEAN) (.ref aSTRING) = 1 := own_nu1 (ODOUBLE.ne OBOOLEAN (by decide)) (ODOUBLE.ne OSTRING (by decide))
  have hSTRING : own_nu (.ref aSTRING) (.ref aBOOLEAN) (.ref aSTRING) = 0 := if_pos (Or.inr rfl)
  obtain ⟨n, o, h1, h2, h3, _, L, rfl, ⟨rfl, N⟩, hq⟩ := rm0 l s _ hw tables_1 i0 aBOOLEAN aBYTE aSHORT aINT aLONG aUBYTE aUSHORT aUINT aULONG aFLOAT aDOUBLE aSTRING s.heap s.heap.size (Nat.le_refl _) (Old.start s) SBOOLEAN EBOOLEAN hBOOLEAN SBYTE EBYTE hBYTE SSHORT ESHORT hSHORT SINT EINT hINT SLONG ELONG hLONG SUBYTE EUBYTE hUBYTE SUSHORT EUSHORT hUSHORT SUINT EUINT hUINT SULONG EULONG hULONG SFLOAT EFLOAT hFLOAT SDOUBLE EDOUBLE hDOUBLE SSTRING ESTRING hSTRING p e ha hc hk s m _ below hf ((Spec.applies_iff_loose hf).mp happ).1 ⟨rfl, State.Warmed39.refl s, rfl⟩ trivial
  refine ⟨n, _, h1, h2, h3, hpost _ _ _ _ _ _ ⟨Cond.after_iff.mpr rfl, Cond.after_iff.mpr (eq_i res_at (Term.int_eval (1)) rfl)⟩ ⟨hq.1, hq.2.1, (hq.2.2.sift fun y hy => Or.inr (N y hy)).mono (by decide) (by decide)⟩⟩
theorem main_1_1 : Claimed_1_1 := comes_1 fun _ _ _ _ _ _ h hF => ⟨h.1, hF⟩
theorem main_1_2 : Claimed_1_2 := comes_1 fun _ _ _ _ _ _ h hF => ⟨h.2, hF⟩
end Jvm.Pilot.@@N@@
namespace Jvm.Pilot.@@N@@
open Jvm Jvm.ClassFile Sem Op Lib Jvm.Free Jvm.Stand Jvm.Pilot.@@N@@.Jvm.D
/-! MADE BY PROGRAM (witnessworld.py) out of the Statement's table words and the real class files: 17 classes; the members and pool entries that the words name. The judged class is class 1, her method 1. -/
namespace start1
open Jvm.ClassFile
def u (s : String) : CpInfo := .utf8 (stringToUtf16 s)
/-- a pool by its gaps: so many unusable entries, then the entry; so many at the end -/
def gap : Nat → List CpInfo → List CpInfo
  | 0, r => r
  | n + 1, r => .unusable :: gap n r
def poolList (es : List (Nat × CpInfo)) (last : Nat) : List CpInfo := es.foldr (fun e r => gap e.1 (e.2 :: r)) (gap last [])
def pool (es : List (Nat × CpInfo)) (last : Nat) : Array CpInfo := ⟨poolList es last⟩
def fileOf (pool : Array CpInfo) (this : Nat) (attrs : Array Attribute := #[]) (ms : Array MethodInfo := #[]) (fl : Nat := 33) (sup : Nat := 0) (ifs : Array Nat := #[]) (fds : Array FieldInfo := #[]) : ClassFile where
  minorVersion := 0
  majorVersion := 65
  constantPool := pool
  accessFlags := fl
  thisClass := this
  superClass := sup
  interfaces := ifs
  fields := fds
  methods := ms
  attributes := attrs
def plain (name : String) (sup : Option ClassId) : Class where
  name := name
  kind := .ordinary
  loader := none
  accessFlags := 33
  super := sup
  interfaces := #[]
  cf := none
  fields := #[]
  methods := #[]
  instanceTypes := #[]
  staticTypes := #[]
  resolved := #[]
  callSites := []
  init := .initialized
  statics := none
  mirror := none

def pool0 : Array CpInfo := pool [(5, u "<init>"), (0, u "()V"), (1, .class_ 10), (1, u "java/lang/Object")] 113

def k0m0 : Method := { name := "<init>", desc := "()V", sig := { parameters := [], returnType := none }, accessFlags := 1, code := none }
/-- java/lang/Object -/
def k0 : Class := { plain "java/lang/Object" none with
  accessFlags := 33
  interfaces := #[]
  cf := some (fileOf pool0 8 #[] #[{ accessFlags := 1, nameIndex := 5, descriptorIndex := 6, attributes := #[] }] 33 0 #[] #[])
  fields := #[]
  methods := #[k0m0]
  instanceTypes := #[]
  staticTypes := #[]
  resolved := Array.replicate 124 none
  statics := none }

def pool1 : Array CpInfo := pool [(2, .class_ 4), (1, u "java/lang/Object"), (0, u "<init>"), (0, u "()V"), (0, .class_ 8), (0, u "com/example/knowing_records/knowingrecords/data/ScalarType"), (0, .fieldref 7 10), (0, .nameAndType 11 12), (0, u "BOOLEAN"), (0, u "Lcom/example/knowing_records/knowingrecords/data/ScalarType;"), (0, .fieldref 7 14), (0, .nameAndType 15 12), (0, u "BYTE"), (0, .fieldref 7 17), (0, .nameAndType 18 12), (0, u "SHORT"), (0, .fieldref 7 20), (0, .nameAndType 21 12), (0, u "INT"), (0, .fieldref 7 23), (0, .nameAndType 24 12), (0, u "LONG"), (0, .fieldref 7 26), (0, .nameAndType 27 12), (0, u "UBYTE"), (0, .fieldref 7 29), (0, .nameAndType 30 12), (0, u "USHORT"), (0, .fieldref 7 32), (0, .nameAndType 33 12), (0, u "UINT"), (0, .fieldref 7 35), (0, .nameAndType 36 12), (0, u "ULONG"), (0, .fieldref 7 38), (0, .nameAndType 39 12), (0, u "FLOAT"), (0, .fieldref 7 41), (0, .nameAndType 42 12), (0, u "DOUBLE"), (0, .fieldref 7 44), (0, .nameAndType 45 12), (0, u "STRING"), (0, .integer 2147483647), (0, .methodref 7 48), (0, .nameAndType 49 50), (0, u "isNumeric"), (0, u "()Z"), (0, .class_ 52), (0, u "com/example/knowing_records/knowingrecords/data/ScalarTypeIsNumericPinLaw"), (2, u "law"), (0, u "(I)Z")] 7

def k1m0 : Method := { name := "<init>", desc := "()V", sig := { parameters := [], returnType := none }, accessFlags := 1, code := none }
def k1c1 : Code := { maxStack := 4, maxLocals := 4, code := code, exceptionTable := #[], attributes := #[] }
def k1m1 : Method := { name := "law", desc := "(I)Z", sig := { parameters := [.int], returnType := some .boolean }, accessFlags := 9, code := some k1c1 }
/-- com/example/knowing_records/knowingrecords/data/ScalarTypeIsNumericPinLaw -/
def k1 : Class := { plain "com/example/knowing_records/knowingrecords/data/ScalarTypeIsNumericPinLaw" (some 0) with
  accessFlags := 49
  interfaces := #[]
  cf := some (fileOf pool1 51 #[] #[{ accessFlags := 1, nameIndex := 5, descriptorIndex := 6, attributes := #[] }, { accessFlags := 9, nameIndex := 55, descriptorIndex := 56, attributes := #[] }] 49 2 #[] #[])
  fields := #[]
  methods := #[k1m0, k1m1]
  instanceTypes := #[]
  staticTypes := #[]
  resolved := Array.replicate 64 none
  statics := none }

def pool2 : Array CpInfo := pool [(1, .class_ 2), (0, u "java/lang/constant/Constable"), (0, .class_ 4), (0, u "java/lang/Object")] 6

/-- java/lang/constant/Constable -/
def k2 : Class := { plain "java/lang/constant/Constable" (some 0) with
  accessFlags := 1537
  interfaces := #[]
  cf := some (fileOf pool2 1 #[] #[] 1537 3 #[] #[])
  fields := #[]
  methods := #[]
  instanceTypes := #[]
  staticTypes := #[]
  resolved := Array.replicate 11 none
  statics := none }

def pool3 : Array CpInfo := pool [(1, .class_ 2), (0, u "java/lang/Comparable"), (0, .class_ 4), (0, u "java/lang/Object")] 7

/-- java/lang/Comparable -/
def k3 : Class := { plain "java/lang/Comparable" (some 0) with
  accessFlags := 1537
  interfaces := #[]
  cf := some (fileOf pool3 1 #[] #[] 1537 3 #[] #[])
  fields := #[]
  methods := #[]
  instanceTypes := #[]
  staticTypes := #[]
  resolved := Array.replicate 12 none
  statics := none }

def pool4 : Array CpInfo := pool [(1, .class_ 2), (0, u "java/io/Serializable"), (0, .class_ 4), (0, u "java/lang/Object")] 2

/-- java/io/Serializable -/
def k4 : Class := { plain "java/io/Serializable" (some 0) with
  accessFlags := 1537
  interfaces := #[]
  cf := some (fileOf pool4 1 #[] #[] 1537 3 #[] #[])
  fields := #[]
  methods := #[]
  instanceTypes := #[]
  staticTypes := #[]
  resolved := Array.replicate 7 none
  statics := none }

def pool5 : Array CpInfo := pool [(2, .class_ 4), (1, u "java/lang/Enum"), (0, u "name"), (0, u "Ljava/lang/String;"), (2, u "ordinal"), (0, u "I"), (1, .class_ 14), (1, u "java/lang/Object"), (4, u "hash"), (86, .class_ 108), (1, u "java/lang/Enum$EnumDesc"), (2, .class_ 112), (0, u "java/lang/constant/Constable"), (0, .class_ 114), (0, u "java/lang/Comparable"), (0, .class_ 116), (0, u "java/io/Serializable")] 87

/-- java/lang/Enum -/
def k5 : Class := { plain "java/lang/Enum" (some 0) with
  accessFlags := 1057
  interfaces := #[2, 3, 4]
  cf := some (fileOf pool5 2 #[.nestMembers #[106]] #[] 1057 12 #[111, 113, 115] #[{ accessFlags := 18, nameIndex := 5, descriptorIndex := 6, attributes := #[] }, { accessFlags := 18, nameIndex := 9, descriptorIndex := 10, attributes := #[] }, { accessFlags := 2, nameIndex := 19, descriptorIndex := 10, attributes := #[] }])
  fields := #[{ name := "name", type := (.object "java/lang/String"), accessFlags := 18, slot := 0, constantValue := 0 }, { name := "ordinal", type := .int, accessFlags := 18, slot := 1, constantValue := 0 }, { name := "hash", type := .int, accessFlags := 2, slot := 2, constantValue := 0 }]
  methods := #[]
  instanceTypes := #[(.object "java/lang/String"), .int, .int]
  staticTypes := #[]
  resolved := Array.replicate 204 none
  statics := none }

def pool6 : Array CpInfo := pool [(1, .class_ 2), (0, u "com/example/knowing_records/knowingrecords/data/FieldType"), (0, .class_ 4), (0, u "java/lang/Object")] 11

/-- com/example/knowing_records/knowingrecords/data/FieldType -/
def k6 : Class := { plain "com/example/knowing_records/knowingrecords/data/FieldType" (some 0) with
  accessFlags := 1537
  interfaces := #[]
  cf := some (fileOf pool6 1 #[] #[] 1537 3 #[] #[])
  fields := #[]
  methods := #[]
  instanceTypes := #[]
  staticTypes := #[]
  resolved := Array.replicate 16 none
  statics := none }

def pool7 : Array CpInfo := pool [(1, .class_ 2), (0, u "com/example/knowing_records/knowingrecords/data/LeafType"), (0, .class_ 4), (0, u "java/lang/Object"), (0, .class_ 6), (0, u "com/example/knowing_records/knowingrecords/data/FieldType")] 11

/-- com/example/knowing_records/knowingrecords/data/LeafType -/
def k7 : Class := { plain "com/example/knowing_records/knowingrecords/data/LeafType" (some 0) with
  accessFlags := 1537
  interfaces := #[6]
  cf := some (fileOf pool7 1 #[] #[] 1537 3 #[5] #[])
  fields := #[]
  methods := #[]
  instanceTypes := #[]
  staticTypes := #[]
  resolved := Array.replicate 18 none
  statics := none }

def pool8 : Array CpInfo := pool [(1, .class_ 2), (0, u "com/example/knowing_records/knowingrecords/data/ScalarType"), (0, .fieldref 1 4), (0, .nameAndType 5 6), (0, u "BOOLEAN"), (0, u "Lcom/example/knowing_records/knowingrecords/data/ScalarType;"), (2, u "BYTE"), (2, u "SHORT"), (2, u "INT"), (2, u "LONG"), (2, u "UBYTE"), (2, u "USHORT"), (2, u "UINT"), (2, u "ULONG"), (2, u "FLOAT"), (2, u "DOUBLE"), (0, .fieldref 1 38), (0, .nameAndType 39 6), (0, u "STRING"), (2, u "$VALUES"), (0, u "[Lcom/example/knowing_records/knowingrecords/data/ScalarType;"), (6, .class_ 52), (1, u "java/lang/Enum"), (8, u "typeName"), (0, u "Ljava/lang/String;"), (2, u "zero"), (0, u "Ljava/lang/Object;"), (44, u "()Z"), (75, u "isNumeric"), (149, u "FLOATING"), (0, u "Ljava/util/regex/Pattern;"), (32, u "HEXADECIMAL"), (5, u "DECIMAL"), (2, u "SIGN_AND_LEADING_ZEROS"), (131, .class_ 513), (0, u "com/example/knowing_records/knowingrecords/data/LeafType"), (0, u "TWO_TO_THE_63"), (0, u "D"), (1, u "MAX_INTEGER_DIGITS"), (0, u "I")] 59

def k8c0 : Code := { maxStack := 2, maxLocals := 1, code := prog_15_method_9_code, exceptionTable := #[], attributes := #[] }
def k8m0 : Method := { name := "isNumeric", desc := "()Z", sig := { parameters := [], returnType := some .boolean }, accessFlags := 1, code := some k8c0 }
/-- com/example/knowing_records/knowingrecords/data/ScalarType -/
def k8 : Class := { plain "com/example/knowing_records/knowingrecords/data/ScalarType" (some 5) with
  accessFlags := 16433
  interfaces := #[7]
  cf := some (fileOf pool8 1 #[] #[{ accessFlags := 1, nameIndex := 187, descriptorIndex := 111, attributes := #[] }] 16433 50 #[512] #[{ accessFlags := 16409, nameIndex := 5, descriptorIndex := 6, attributes := #[] }, { accessFlags := 16409, nameIndex := 9, descriptorIndex := 6, attributes := #[] }, { accessFlags := 16409, nameIndex := 12, descriptorIndex := 6, attributes := #[] }, { accessFlags := 16409, nameIndex := 15, descriptorIndex := 6, attributes := #[] }, { accessFlags := 16409, nameIndex := 18, descriptorIndex := 6, attributes := #[] }, { accessFlags := 16409, nameIndex := 21, descriptorIndex := 6, attributes := #[] }, { accessFlags := 16409, nameIndex := 24, descriptorIndex := 6, attributes := #[] }, { accessFlags := 16409, nameIndex := 27, descriptorIndex := 6, attributes := #[] }, { accessFlags := 16409, nameIndex := 30, descriptorIndex := 6, attributes := #[] }, { accessFlags := 16409, nameIndex := 33, descriptorIndex := 6, attributes := #[] }, { accessFlags := 16409, nameIndex := 36, descriptorIndex := 6, attributes := #[] }, { accessFlags := 16409, nameIndex := 39, descriptorIndex := 6, attributes := #[] }, { accessFlags := 26, nameIndex := 377, descriptorIndex := 338, attributes := #[] }, { accessFlags := 26, nameIndex := 371, descriptorIndex := 338, attributes := #[] }, { accessFlags := 26, nameIndex := 380, descriptorIndex := 338, attributes := #[] }, { accessFlags := 26, nameIndex := 337, descriptorIndex := 338, attributes := #[] }, { accessFlags := 26, nameIndex := 514, descriptorIndex := 515, attributes := #[] }, { accessFlags := 26, nameIndex := 517, descriptorIndex := 518, attributes := #[] }, { accessFlags := 18, nameIndex := 61, descriptorIndex := 62, attributes := #[] }, { accessFlags := 18, nameIndex := 65, descriptorIndex := 66, attributes := #[] }, { accessFlags := 4122, nameIndex := 42, descriptorIndex := 43, attributes := #[] }])
  fields := #[{ name := "BOOLEAN", type := (.object "com/example/knowing_records/knowingrecords/data/ScalarType"), accessFlags := 16409, slot := 0, constantValue := 0 }, { name := "BYTE", type := (.object "com/example/knowing_records/knowingrecords/data/ScalarType"), accessFlags := 16409, slot := 1, constantValue := 0 }, { name := "SHORT", type := (.object "com/example/knowing_records/knowingrecords/data/ScalarType"), accessFlags := 16409, slot := 2, constantValue := 0 }, { name := "INT", type := (.object "com/example/knowing_records/knowingrecords/data/ScalarType"), accessFlags := 16409, slot := 3, constantValue := 0 }, { name := "LONG", type := (.object "com/example/knowing_records/knowingrecords/data/ScalarType"), accessFlags := 16409, slot := 4, constantValue := 0 }, { name := "UBYTE", type := (.object "com/example/knowing_records/knowingrecords/data/ScalarType"), accessFlags := 16409, slot := 5, constantValue := 0 }, { name := "USHORT", type := (.object "com/example/knowing_records/knowingrecords/data/ScalarType"), accessFlags := 16409, slot := 6, constantValue := 0 }, { name := "UINT", type := (.object "com/example/knowing_records/knowingrecords/data/ScalarType"), accessFlags := 16409, slot := 7, constantValue := 0 }, { name := "ULONG", type := (.object "com/example/knowing_records/knowingrecords/data/ScalarType"), accessFlags := 16409, slot := 8, constantValue := 0 }, { name := "FLOAT", type := (.object "com/example/knowing_records/knowingrecords/data/ScalarType"), accessFlags := 16409, slot := 9, constantValue := 0 }, { name := "DOUBLE", type := (.object "com/example/knowing_records/knowingrecords/data/ScalarType"), accessFlags := 16409, slot := 10, constantValue := 0 }, { name := "STRING", type := (.object "com/example/knowing_records/knowingrecords/data/ScalarType"), accessFlags := 16409, slot := 11, constantValue := 0 }, { name := "DECIMAL", type := (.object "java/util/regex/Pattern"), accessFlags := 26, slot := 12, constantValue := 0 }, { name := "HEXADECIMAL", type := (.object "java/util/regex/Pattern"), accessFlags := 26, slot := 13, constantValue := 0 }, { name := "SIGN_AND_LEADING_ZEROS", type := (.object "java/util/regex/Pattern"), accessFlags := 26, slot := 14, constantValue := 0 }, { name := "FLOATING", type := (.object "java/util/regex/Pattern"), accessFlags := 26, slot := 15, constantValue := 0 }, { name := "TWO_TO_THE_63", type := .double, accessFlags := 26, slot := 16, constantValue := 0 }, { name := "MAX_INTEGER_DIGITS", type := .int, accessFlags := 26, slot := 17, constantValue := 0 }, { name := "typeName", type := (.object "java/lang/String"), accessFlags := 18, slot := 3, constantValue := 0 }, { name := "zero", type := (.object "java/lang/Object"), accessFlags := 18, slot := 4, constantValue := 0 }, { name := "$VALUES", type := (.array (.object "com/example/knowing_records/knowingrecords/data/ScalarType")), accessFlags := 4122, slot := 18, constantValue := 0 }]
  methods := #[k8m0]
  instanceTypes := #[(.object "java/lang/String"), .int, .int, (.object "java/lang/String"), (.object "java/lang/Object")]
  staticTypes := #[(.object "com/example/knowing_records/knowingrecords/data/ScalarType"), (.object "com/example/knowing_records/knowingrecords/data/ScalarType"), (.object "com/example/knowing_records/knowingrecords/data/ScalarType"), (.object "com/example/knowing_records/knowingrecords/data/ScalarType"), (.object "com/example/knowing_records/knowingrecords/data/ScalarType"), (.object "com/example/knowing_records/knowingrecords/data/ScalarType"), (.object "com/example/knowing_records/knowingrecords/data/ScalarType"), (.object "com/example/knowing_records/knowingrecords/data/ScalarType"), (.object "com/example/knowing_records/knowingrecords/data/ScalarType"), (.object "com/example/knowing_records/knowingrecords/data/ScalarType"), (.object "com/example/knowing_records/knowingrecords/data/ScalarType"), (.object "com/example/knowing_records/knowingrecords/data/ScalarType"), (.object "java/util/regex/Pattern"), (.object "java/util/regex/Pattern"), (.object "java/util/regex/Pattern"), (.object "java/util/regex/Pattern"), .double, .int, (.array (.object "com/example/knowing_records/knowingrecords/data/ScalarType"))]
  resolved := Array.replicate 578 none
  statics := some 0 }

def pool9 : Array CpInfo := pool [(1, u "java/lang/Cloneable"), (0, .class_ 1), (0, u "java/lang/Object"), (0, .class_ 3)] 3

/-- java/lang/Cloneable -/
def k9 : Class := { plain "java/lang/Cloneable" (some 0) with
  accessFlags := 1537
  interfaces := #[]
  cf := some (fileOf pool9 2 #[] #[] 1537 4 #[] #[])
  fields := #[]
  methods := #[]
  instanceTypes := #[]
  staticTypes := #[]
  resolved := Array.replicate 8 none
  statics := none }

/-- the primitive boolean -/
def k10 : Class := { plain "boolean" none with kind := .primitive 'Z', accessFlags := 0x411 }
/-- [Z -/
def k11 : Class := { plain "[Z" (some 0) with kind := .array 10 .boolean, interfaces := #[9, 4], accessFlags := 1041 }

/-- the primitive byte -/
def k12 : Class := { plain "byte" none with kind := .primitive 'B', accessFlags := 0x411 }
/-- [B -/
def k13 : Class := { plain "[B" (some 0) with kind := .array 12 .byte, interfaces := #[9, 4], accessFlags := 1041 }

/-- the primitive int -/
def k14 : Class := { plain "int" none with kind := .primitive 'I', accessFlags := 0x411 }
/-- [I -/
def k15 : Class := { plain "[I" (some 0) with kind := .array 14 .int, interfaces := #[9, 4], accessFlags := 1041 }

/-- [Lcom/example/knowing_records/knowingrecords/data/ScalarType; -/
def k16 : Class := { plain "[Lcom/example/knowing_records/knowingrecords/data/ScalarType;" (some 0) with kind := .array 8 (.object "com/example/knowing_records/knowingrecords/data/ScalarType"), interfaces := #[9, 4], accessFlags := 1041 }

def heap : Heap := #[{ cls := 8, slots := #[.ref 1, .ref 2, .ref 3, .ref 4, .ref 5, .ref 6, .ref 7, .ref 8, .ref 9, .ref 10, .ref 11, .ref 12, .null, .null, .null, .null, .double 0, .int 0, .null], vm := .statics 8 },
  { cls := 8, slots := #[.null, .int 0, .int 0, .null, .null], vm := .none },
  { cls := 8, slots := #[.null, .int 1, .int 0, .null, .null], vm := .none },
  { cls := 8, slots := #[.null, .int 2, .int 0, .null, .null], vm := .none },
  { cls := 8, slots := #[.null, .int 3, .int 0, .null, .null], vm := .none },
  { cls := 8, slots := #[.null, .int 4, .int 0, .null, .null], vm := .none },
  { cls := 8, slots := #[.null, .int 5, .int 0, .null, .null], vm := .none },
  { cls := 8, slots := #[.null, .int 6, .int 0, .null, .null], vm := .none },
  { cls := 8, slots := #[.null, .int 7, .int 0, .null, .null], vm := .none },
  { cls := 8, slots := #[.null, .int 8, .int 0, .null, .null], vm := .none },
  { cls := 8, slots := #[.null, .int 9, .int 0, .null, .null], vm := .none },
  { cls := 8, slots := #[.null, .int 10, .int 0, .null, .null], vm := .none },
  { cls := 8, slots := #[.null, .int 11, .int 0, .null, .null], vm := .none }]
def classes : Array Class := #[k0, k1, k2, k3, k4, k5, k6, k7, k8, k9, k10, k11, k12, k13, k14, k15, k16]
def interned : List (Array UInt16 × Addr) := []
def slotsUsed : Nat := 79
def theMethod : MethodId := ⟨1, 1⟩
def args0 : Array Value := #[.int 5]
def aboutOver (below : List Frame) : State where
  vm := { classes := classes, interned := interned.toArray }
  heap := heap
  slotsUsed := slotsUsed
  threads := #[{ frames := .invoking theMethod args0 :: below }]
def below0 : List Frame := [.native { method := ⟨0, 0⟩, args := #[] }]
def about1 : State := aboutOver below0
def p0 : Program := .bare "" "" ""
def e0 : Env := launch0.env 0 0 0
theorem w_frames : about1.frames = Frame.invoking theMethod args0 :: below0 := rfl
set_option maxRecDepth 65536 in
theorem w_args : argsFit about1.vm theMethod args0 = true := by decide +kernel
set_option maxRecDepth 65536 in
theorem w_heap : heapFits about1 = true := by decide +kernel
set_option maxRecDepth 65536 in
theorem w_runnable : about1.curStatus? = some .runnable := by decide +kernel
set_option maxRecDepth 65536 in
theorem w_alone : about1.alone = true := by decide +kernel
set_option maxRecDepth 65536 in
theorem w_named : about1.methodNamed? x = some theMethod := by decide +kernel
set_option maxRecDepth 65536 in
theorem w_hears : about1.hears theMethod below0 = true := by decide +kernel
set_option maxRecDepth 65536 in
theorem w_ripe : about1.ripe theMethod args0 below0 = true := by decide +kernel
theorem w_running : about1.status = .running := rfl
set_option maxRecDepth 65536 in
theorem w_room : about1.hasRoom e0.platform room_1 = true :=
  launch0.hasRoom_least _ room_1 (by decide +kernel) (by decide +kernel) (by decide +kernel) (by decide +kernel) (by decide +kernel) (by decide +kernel)
theorem allAtoms_all (ts : List Jvm.Cond) (a : Array Jvm.Value) (st : Jvm.State) : (allAtoms ts).before a st = ts.all (fun c => c.before a st) := by
  induction ts with
  | nil => rfl
  | cons c t ih =>
    show (Jvm.Cond.and c (allAtoms t)).before a st = _
    rw [Jvm.Cond.before_and, ih, List.all_cons]
def words1 : List Jvm.Cond := Jvm.Cond.code x code maxLocals ret :: tables_1
/-- a 'code' word, met by the world's own term for the bytes: nothing is compared byte by byte -/
theorem code_word {y : MethodName} {bytes : ByteArray} {mx : Nat} {rt : Option FieldType} {a : Array Value} {s : State} {m : MethodId} {meth : Method} {c : Code} (h1 : s.methodNamed? y = some m) (h2 : s.vm.method? m = some meth) (h3 : meth.code = some c) (h4 : c.code = bytes)
    (h5 : (c.maxLocals == mx && c.exceptionTable.isEmpty && decide (c.maxStack ≤ mostOperands) && decide (meth.sig.returnType = rt) && !meth.locks && decide (parseMethodDescriptor y.desc = some meth.sig)) = true) : (Jvm.Cond.code y bytes mx rt).before a s = true := by
  simp only [Bool.and_eq_true, beq_iff_eq, Bool.not_eq_true', decide_eq_true_eq] at h5
  obtain ⟨⟨⟨⟨⟨g1, g2⟩, g3⟩, g4⟩, g5⟩, g6⟩ := h5
  simp [Cond.before, Cond.holds, Cond.value, h1, h2, h3, h4, g1, g2, g3, g4, g5, g6]
def isCode : Jvm.Cond → Bool
  | .code _ _ _ _ => true
  | _ => false
theorem all_split {L : List Jvm.Cond} {P : Jvm.Cond → Bool} (h1 : L.all (fun c => isCode c || P c) = true) (h2 : ∀ c ∈ L.filter isCode, P c = true) : L.all P = true := by
  refine List.all_eq_true.mpr fun c hc => ?_
  have h := List.all_eq_true.mp h1 c hc
  rcases Bool.eq_false_or_eq_true (isCode c) with hi | hi
  · exact h2 c (List.mem_filter.mpr ⟨hc, hi⟩)
  · simpa [hi] using h
set_option maxRecDepth 65536 in
theorem w_c0 : (Jvm.Cond.code x code maxLocals ret).before args0 about1 = true := code_word (m := ⟨1, 1⟩) (meth := k1m1) (c := k1c1) (by decide +kernel) rfl rfl rfl (by decide +kernel)
set_option maxRecDepth 65536 in
theorem w_c1 : (Jvm.Cond.code ({ cls := "com/example/knowing_records/knowingrecords/data/ScalarType", name := "isNumeric", desc := "()Z" } : Jvm.MethodName) prog_15_method_9_code (1 : Nat) (Option.some Jvm.ClassFile.FieldType.boolean)).before args0 about1 = true := code_word (m := ⟨8, 0⟩) (meth := k8m0) (c := k8c0) (by decide +kernel) rfl rfl rfl (by decide +kernel)
def codes1 : List Jvm.Cond := [Jvm.Cond.code x code maxLocals ret, Jvm.Cond.code ({ cls := "com/example/knowing_records/knowingrecords/data/ScalarType", name := "isNumeric", desc := "()Z" } : Jvm.MethodName) prog_15_method_9_code (1 : Nat) (Option.some Jvm.ClassFile.FieldType.boolean)]
set_option maxRecDepth 65536 in
theorem codes_eq : words1.filter isCode = codes1 := rfl
theorem w_codes : ∀ c ∈ words1.filter isCode, c.before args0 about1 = true := by
  rw [codes_eq]
  intro c hc
  simp only [codes1, List.mem_cons, List.not_mem_nil, or_false] at hc
  rcases hc with rfl | rfl
  · exact w_c0
  · exact w_c1
set_option maxRecDepth 65536 in
theorem w_t1 : (words1.take 24).all (fun c => isCode c || c.before args0 about1) = true := by decide +kernel
set_option maxRecDepth 65536 in
theorem w_t2 : (words1.drop 24).all (fun c => isCode c || c.before args0 about1) = true := by decide +kernel
theorem w_tables : (allAtoms (Jvm.Cond.code x code maxLocals ret :: tables_1)).before args0 about1 = true := by
  rw [allAtoms_all]
  show words1.all (fun c => c.before args0 about1) = true
  refine all_split ?_ w_codes
  rw [← List.take_append_drop 24 words1, List.all_append, w_t1, w_t2]
  rfl
set_option maxRecDepth 65536 in
theorem w_case : (Jvm.Cond.and given_1 narrow_1).before args0 about1 = true := by decide +kernel
theorem w_applies : (headSpec (Jvm.Cond.code x code maxLocals ret :: tables_1) room_1).applies x e0.platform about1 = true :=
  (Spec.applies_iff w_frames).mpr ⟨w_running, w_runnable, w_alone, w_named, w_hears, w_ripe, w_room, w_tables⟩
theorem atStart : AtStart classFile x code maxLocals ret World_1 tables_1 room_1 Calls_1 rest_1 Pre_1 launch0 p0 e0 about1 theMethod args0 below0 :=
  ⟨lists_1, trivial, launch0.admits_env _ _ _, launch0.least_env, fairChoices_fair.cas, fairChoices_fair.clock, w_frames, w_args, w_heap, w_applies, trivial, trivial, w_case⟩
end start1
theorem witness_1 : WitnessClaimed_1 := ⟨start1.p0, start1.e0, start1.about1, start1.theMethod, start1.args0, start1.below0, start1.atStart⟩
end Jvm.Pilot.@@N@@
