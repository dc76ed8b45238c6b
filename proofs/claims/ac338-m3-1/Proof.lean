import JvmDerived
import JvmDerived.Pilot.@@N@@Statement
import JvmDerived.Pilot.@@N@@Code
set_option linter.unusedVariables false
set_option linter.unusedSimpArgs false
namespace Jvm.RoadKit
open Sem ClassFile Op Lib Jvm.Stand Jvm.Free Jvm.LawKit
section New
variable {p : Program} {l : Launch} {e : Env} {R : Room} {s : State} {m : MethodId} {args : Array Value} {below : List Frame} {meth : Method} {c : Code} {T : State} {locs : List Loc} {cells slots : Nat}
theorem retI (X : Stand p l e R s m args below meth c T locs cells slots) (hx : p.tables.exec = Jvm.exec) {pc : Nat} {Ls : Array Slot} {z : Int32} {rest : List Value} (hret : meth.sig.returnType = some .int) (hd : decode c.code pc = .ok (.ireturn, 1)) {fs : List Frame}
    (hl : ∀ (f : JFrame) (acts : List Action), f.method = m → f.locked = none → f.entered = [] → (doReturn e (T.setTop f) acts (some (.int z))).1 = T.setFrames fs) : Steps p.tables e below (T.setTop (mkF m pc Ls (.int z :: rest))) (T.setFrames fs) := by
  have hm' : T.vm.method? m = some meth := X.method'
  have hn : narrow .int (.int z) = .int z := rfl
  show Steps p.tables e below (T.setTop { method := m, pc := pc, locals := Ls, stack := _ :: rest, locked := none }) _
  jvm_step X.here [X.here.top, hx, hd, hm', hret, hn]
  first | (intro acts; rw [hl _ acts rfl rfl rfl]) | rw [hl _ _ rfl rfl rfl]
  exact Steps.refl _
/-- where a run is to come: it has ended, returning, with Q of what it returned, its heap and what it wrote -/
def own_End (s : State) (below : List Frame) (Q : Option Value → Heap → List Loc → Prop) (cc nn : Nat) (t : State) (o : Outcome) : Prop :=
  t.status = .running ∧ Ended t below o ∧ ∃ v L, o = .returned v ∧ Q v t.heap L ∧ FrameEnd s o t L cc nn
/-- from A the run comes to such an end -/
def own_Go (p : Program) (e : Env) (below : List Frame) (G : State → Outcome → Prop) (A : State) : Prop := ∃ t o, Steps p.tables e below A t ∧ G t o
theorem own_st {G : State → Outcome → Prop} {A B : State} (h : ∀ t, Steps p.tables e below B t → Steps p.tables e below A t) (k : own_Go p e below G B) : own_Go p e below G A := by
  obtain ⟨t, o, h1, h2⟩ := k
  exact ⟨t, o, h t h1, h2⟩
theorem own_retZ (X : Stand p l e R s m args below meth c T locs cells slots) (hx : p.tables.exec = Jvm.exec) (hlk : meth.locks = false) {t : FieldType} (hret : meth.sig.returnType = some t) (ht : t = .boolean ∨ t = .byte ∨ t = .char ∨ t = .short)
    {pc : Nat} {Ls : Array Slot} {z : Int32} {rest : List Value} (hd : decode c.code pc = .ok (.ireturn, 1)) {Q : Option Value → Heap → List Loc → Prop} {cc nn : Nat} (hq : Q (some (.int (nar t z))) T.heap locs) (hc : cells ≤ cc) (hn : slots ≤ nn) :
    own_Go p e below (own_End s below Q cc nn) (T.setTop (mkF m pc Ls (.int z :: rest))) := by
  obtain ⟨fs, hr, hrun, hended, hW, hsame⟩ := X.leave (v := some (.int (nar t z))) (fun h => by rw [hret] at h; cases h) hlk
  exact ⟨_, _, retN X hx hret ht hd hr, hrun, hended, _, _, rfl, hq, ⟨_, rfl⟩, hW, hsame.mono hc hn⟩
theorem own_retI (X : Stand p l e R s m args below meth c T locs cells slots) (hx : p.tables.exec = Jvm.exec) (hlk : meth.locks = false) (hret : meth.sig.returnType = some .int)
    {pc : Nat} {Ls : Array Slot} {z : Int32} {rest : List Value} (hd : decode c.code pc = .ok (.ireturn, 1)) {Q : Option Value → Heap → List Loc → Prop} {cc nn : Nat} (hq : Q (some (.int z)) T.heap locs) (hc : cells ≤ cc) (hn : slots ≤ nn) :
    own_Go p e below (own_End s below Q cc nn) (T.setTop (mkF m pc Ls (.int z :: rest))) := by
  obtain ⟨fs, hr, hrun, hended, hW, hsame⟩ := X.leave (v := some (.int z)) (fun h => by rw [hret] at h; cases h) hlk
  exact ⟨_, _, retI X hx hret hd hr, hrun, hended, _, _, rfl, hq, ⟨_, rfl⟩, hW, hsame.mono hc hn⟩
theorem own_retA (X : Stand p l e R s m args below meth c T locs cells slots) (hx : p.tables.exec = Jvm.exec) (hlk : meth.locks = false) {ty : FieldType} (hret : meth.sig.returnType = some ty) (hty : ty.isReference = true)
    {pc : Nat} {Ls : Array Slot} {v : Value} (hv : v.isRef = true) {rest : List Value} (hd : decode c.code pc = .ok (.areturn, 1)) {Q : Option Value → Heap → List Loc → Prop} {cc nn : Nat} (hq : Q (some v) T.heap locs) (hc : cells ≤ cc) (hn : slots ≤ nn) :
    own_Go p e below (own_End s below Q cc nn) (T.setTop (mkF m pc Ls (v :: rest))) := by
  obtain ⟨fs, hr, hrun, hended, hW, hsame⟩ := X.leave (v := some v) (fun h => by rw [hret] at h; cases h) hlk
  refine ⟨_, _, ?_, hrun, hended, _, _, rfl, hq, ⟨_, rfl⟩, hW, hsame.mono hc hn⟩
  have hm' : T.vm.method? m = some meth := X.method'
  show Steps p.tables e below (T.setTop { method := m, pc := pc, locals := Ls, stack := _ :: rest, locked := none }) _
  jvm_step X.here [X.here.top, hx, hd, hm', hret, hv, hty]
  first | (intro acts; rw [hr _ acts rfl rfl rfl]) | rw [hr _ _ rfl rfl rfl]
  exact Steps.refl _
theorem own_retV (X : Stand p l e R s m args below meth c T locs cells slots) (hx : p.tables.exec = Jvm.exec) (hlk : meth.locks = false) (hret : meth.sig.returnType = none)
    {pc : Nat} {Ls : Array Slot} (hd : decode c.code pc = .ok (.return_, 1)) {Q : Option Value → Heap → List Loc → Prop} {cc nn : Nat} (hq : Q none T.heap locs) (hc : cells ≤ cc) (hn : slots ≤ nn) :
    own_Go p e below (own_End s below Q cc nn) (T.setTop (mkF m pc Ls [])) := by
  obtain ⟨fs, hr, hrun, hended, hW, hsame⟩ := X.leave (v := none) (fun _ => rfl) hlk
  exact ⟨_, _, X.returnOut hx hret hd hr, hrun, hended, _, _, rfl, hq, ⟨_, rfl⟩, hW, hsame.mono hc hn⟩
/-- a body's contract: called with these values over this heap it returns, with Q -/
def own_Met (l : Launch) (Z : State) (y : MethodName) (bytes : ByteArray) (maxL : Nat) (ret : Option FieldType) (ws : List Cond) (rm : Room) (as' : Array Value) (h0 : Heap) (Q : Option Value → Heap → List Loc → Prop) : Prop :=
  MetFree l y (head1 (Cond.code y bytes maxL ret :: ws) rm) (fun a U => a = as' ∧ Z.Warmed39 U.vm ∧ U.heap = h0) (fun _ _ _ _ _ => True) (fun _ U o U' => ∃ v L, o = .returned v ∧ Q v U'.heap L ∧ FrameEnd U o U' L rm.cells rm.slots)
theorem own_body {Z : State} {y : MethodName} {bytes : ByteArray} {maxL : Nat} {ret : Option FieldType} {ws : List Cond} {rm : Room} {as' : Array Value} {h0 : Heap} {Q : Option Value → Heap → List Loc → Prop} (hpl : plainFor y = true)
    (k : ∀ (p : Program) (e : Env) (s : State) (m : MethodId) (below : List Frame) (meth : Method) (c : Code) (s₁ : State), p.tables.exec = Jvm.exec → c.code = bytes → c.maxLocals = maxL → s.vm.findClass y.cls = some m.cls → meth.name = y.name → meth.sig.returnType = ret → meth.locks = false → Z.Warmed39 s.vm →
      Stand p l e rm s m as' below meth c s₁ [] 0 0 → s₁.heap = h0 → ∀ G, G = own_End s below Q rm.cells rm.slots → own_Go p e below G (s₁.setTop (entryFrame m as' maxL))) :
    own_Met l Z y bytes maxL ret ws rm as' h0 Q := by
  refine MetFree.of_bodySF hpl hisR ?_
  intro p e s m args below meth c s₁ Bd hml0 hP hK
  obtain ⟨rfl, hZ, hh⟩ := hP
  have e0 : s₁.heap = h0 := by rw [← hh, Bd.state]; rfl
  exact k p e s m below meth c s₁ Bd.exec Bd.bytes hml0 (findClass_of_methodNamed Bd.named) (name_of_methodNamed Bd.named Bd.method).1 Bd.returns Bd.notSynchronized hZ (Stand.of_body Bd) e0 _ rfl
section Calls
variable {Z : State} {a0 : Array Value} {h : Heap}
theorem own_callS (X : Stand p l e R s m args below meth c T locs cells slots) (hx : p.tables.exec = Jvm.exec) (hZ : Z.Warmed39 s.vm) {own : String} {index : Nat} {y : MethodName} {bytes : ByteArray} {maxL : Nat} {ret : Option FieldType} (hown : s.vm.findClass own = some m.cls)
    (w1 : (Cond.methodLink own index y).before a0 Z = true) (w2 : (Cond.static y).before a0 Z = true) (w3 : (Cond.initialized y.cls).before a0 Z = true) (w4 : (Cond.code y bytes maxL ret).before a0 Z = true)
    (hy : y.cls ≠ "java/lang/invoke/MethodHandle" ∧ y.cls ≠ "java/lang/invoke/VarHandle") {rm : Room} {as' : Array Value} {Q : Option Value → Heap → List Loc → Prop} {W : Nat} (hM : own_Met l Z y bytes maxL ret [] rm as' h Q)
    (hf : rm.frames + 1 ≤ R.frames) (hl : W + (maxL + 11) + rm.locals ≤ R.locals) (eT : T.heap = h) {g : JFrame} (hg : g.method = m) (hsize : g.locals.size = c.maxLocals) {argsL rest : List Value}
    {ps : List FieldType} {r : Option FieldType} (hd : parseMethodDescriptor y.desc = some ⟨ps, r⟩) (hlen : argsL.length = ps.length) (hstack : g.stack = argsL.reverse ++ rest) (hW : 2 * g.monitorRoom + (rest.map fun v => v.category).sum ≤ W)
    (hdg : decode c.code g.pc = .ok (.invokestatic index, 3)) (ha : argsL.toArray = as') (hc : cells + rm.cells ≤ R.cells) (hn : slots + rm.slots ≤ R.slots) :
    ∃ (v : Option Value) (T' : State) (L : List Loc), Stand p l e R s m args below meth c T' (locs ++ L) (cells + rm.cells) (slots + rm.slots) ∧ Q v T'.heap L ∧
      ∀ target, Steps p.tables e below (T'.setTop { g with pc := g.pc + 3, stack := v.toList ++ rest }) target → Steps p.tables e below (T.setTop g) target := by
  obtain ⟨v, vm1, ⟨T', L', k', n'⟩, -, X', ⟨Lc, hQ, l1, l2, l3⟩, st⟩ := Jvm.LawKit.callS X hx (y := y) hown (mvT hZ w1) (mvT hZ w2) (mvT hZ w3) (mvT hZ w4) hy (backOf (W := W) hM hZ w4 w3 hf hl) hg hsize (argsL := argsL) (rest := rest) (lenOf hd hlen) hstack hW hdg (fun _ _ => ⟨ha, eT, hc, hn⟩)
  dsimp only [Pt.U, Pt.locs, Pt.cells, Pt.slots] at X' l1 l2 l3 st hQ
  subst l1 l2 l3
  exact ⟨v, T', Lc, X', hQ, st⟩
theorem own_callC (X : Stand p l e R s m args below meth c T locs cells slots) (hx : p.tables.exec = Jvm.exec) (hZ : Z.Warmed39 s.vm) {own : String} {index : Nat} {y : MethodName} {bytes : ByteArray} {maxL : Nat} (hn1 : y.name = "<init>") (hown : s.vm.findClass own = some m.cls)
    (w1 : (Cond.methodLink own index y).before a0 Z = true) (w2 : (Cond.instanceMethod y).before a0 Z = true) (w3 : (Cond.initialized y.cls).before a0 Z = true) (w4 : (Cond.code y bytes maxL none).before a0 Z = true)
    (hy : y.cls ≠ "java/lang/invoke/MethodHandle" ∧ y.cls ≠ "java/lang/invoke/VarHandle") {rm : Room} {as' : Array Value} {Q : Option Value → Heap → List Loc → Prop} {W : Nat} (hM : own_Met l Z y bytes maxL none [] rm as' h Q)
    (hf : rm.frames + 1 ≤ R.frames) (hl : W + (maxL + 11) + rm.locals ≤ R.locals) (eT : T.heap = h) {g : JFrame} (hg : g.method = m) (hsize : g.locals.size = c.maxLocals) {a : Addr} {argsL rest : List Value}
    {ps : List FieldType} {r : Option FieldType} (hd : parseMethodDescriptor y.desc = some ⟨ps, r⟩) (hlen : argsL.length = ps.length) (hstack : g.stack = argsL.reverse ++ .ref a :: rest) (hW : 2 * g.monitorRoom + (rest.map fun v => v.category).sum ≤ W)
    (hdg : decode c.code g.pc = .ok (.invokespecial index, 3)) (ha : (.ref a :: argsL).toArray = as') (hc : cells + rm.cells ≤ R.cells) (hn : slots + rm.slots ≤ R.slots) :
    ∃ (v : Option Value) (T' : State) (L : List Loc), Stand p l e R s m args below meth c T' (locs ++ L) (cells + rm.cells) (slots + rm.slots) ∧ Q v T'.heap L ∧
      ∀ target, Steps p.tables e below (T'.setTop { g with pc := g.pc + 3, stack := v.toList ++ rest }) target → Steps p.tables e below (T.setTop g) target := by
  obtain ⟨v, vm1, ⟨T', L', k', n'⟩, -, X', ⟨Lc, hQ, l1, l2, l3⟩, st⟩ := X.specialBack hx (y := y) hn1 hown (mvT hZ w1) (mvT hZ w2) (mvT hZ w4) hy (backOf (W := W) hM hZ w4 w3 hf hl) hg hsize (Steps.refl _) (a := a) (argsL := argsL) (rest := rest) (lenOf hd hlen) hstack hW hdg (fun _ _ => ⟨ha, eT, hc, hn⟩)
  dsimp only [Pt.U, Pt.locs, Pt.cells, Pt.slots] at X' l1 l2 l3 st hQ
  subst l1 l2 l3
  exact ⟨v, T', Lc, X', hQ, fun t k => st.trans k⟩
theorem own_callV (X : Stand p l e R s m args below meth c T locs cells slots) (hx : p.tables.exec = Jvm.exec) (hZ : Z.Warmed39 s.vm) {own C : String} {index : Nat} {y z : MethodName} {bytes : ByteArray} {maxL : Nat} {ret : Option FieldType} (hown : s.vm.findClass own = some m.cls)
    (w1 : (Cond.methodLink own index y).before a0 Z = true) (w2 : (Cond.declares y).before a0 Z = true) (hnf : NotFace s y) (w5 : (Cond.selects C y z).before a0 Z = true) (w6 : (Cond.instanceMethod z).before a0 Z = true) (w3 : (Cond.initialized z.cls).before a0 Z = true) (w4 : (Cond.code z bytes maxL ret).before a0 Z = true)
    (hy : y.cls ≠ "java/lang/invoke/MethodHandle" ∧ y.cls ≠ "java/lang/invoke/VarHandle") {rm : Room} {as' : Array Value} {Q : Option Value → Heap → List Loc → Prop} {W : Nat} (hM : own_Met l Z z bytes maxL ret [] rm as' h Q)
    (hf : rm.frames + 1 ≤ R.frames) (hl : W + (maxL + 11) + rm.locals ≤ R.locals) (eT : T.heap = h) {a : Addr} (E : Exa Z h a C) {g : JFrame} (hg : g.method = m) (hsize : g.locals.size = c.maxLocals) {argsL rest : List Value}
    {ps : List FieldType} {r : Option FieldType} (hd : parseMethodDescriptor y.desc = some ⟨ps, r⟩) (hlen : argsL.length = ps.length) (hstack : g.stack = argsL.reverse ++ .ref a :: rest) (hW : 2 * g.monitorRoom + (rest.map fun v => v.category).sum ≤ W)
    (hdg : decode c.code g.pc = .ok (.invokevirtual index, 3)) (ha : (.ref a :: argsL).toArray = as') (hc : cells + rm.cells ≤ R.cells) (hn : slots + rm.slots ≤ R.slots) :
    ∃ (v : Option Value) (T' : State) (L : List Loc), Stand p l e R s m args below meth c T' (locs ++ L) (cells + rm.cells) (slots + rm.slots) ∧ Q v T'.heap L ∧
      ∀ target, Steps p.tables e below (T'.setTop { g with pc := g.pc + 3, stack := v.toList ++ rest }) target → Steps p.tables e below (T.setTop g) target := by
  obtain ⟨cq, kq, q1, q2, q3⟩ := isOf hZ eT E
  obtain ⟨v, vm1, ⟨T', L', k', n'⟩, -, X', ⟨Lc, hQ, l1, l2, l3⟩, st⟩ := X.virtualBack hx (y := y) (z := z) hown (mvT hZ w1) (mvT hZ w2) hnf (mvT hZ w5) (mvT hZ w6) hy (backOf (W := W) hM hZ w4 w3 hf hl) q1 q3 hg hsize (Steps.refl _) (argsL := argsL) (rest := rest) (lenOf hd hlen) hstack hW hdg (fun _ _ => ⟨ha, eT, hc, hn⟩)
  dsimp only [Pt.U, Pt.locs, Pt.cells, Pt.slots] at X' l1 l2 l3 st hQ
  subst l1 l2 l3
  exact ⟨v, T', Lc, X', hQ, fun t k => st.trans k⟩
end Calls
section Words
variable {Z : State} {a0 : Array Value}
theorem own_exa {t : Term} {C : String} (h : (Cond.exactly t C).value a0 Z none Z [] = some true) : ∃ a, t.eval a0 Z none [] Z = some (.ref a) ∧ Exa Z Z.heap a C := by
  obtain ⟨a, e⟩ := exa_v h
  exact ⟨a, e, Exa.start e h⟩
theorem own_fldI {t : Term} {O n d : String} {k : Int32} {a : Addr} (h : (Cond.eq (.field t O n d) (.int k)).value a0 Z none Z [] = some true) (e : t.eval a0 Z none [] Z = some (.ref a)) : Fld Z Z.heap a O n d (.int k) := by
  obtain ⟨x, y, h1, h2, h3, h4⟩ := cmp_v (Or.inl h)
  cases (Term.int_eval k).symm.trans h2
  obtain ⟨q, rfl⟩ := h4
  obtain rfl := gotT (Cond.eq_ints h1 (Term.int_eval k)) h
  exact Fld.start ((fld_at e).symm.trans h1)
theorem own_fldJ {t : Term} {O n d : String} {k : Int64} {a : Addr} (h : (Cond.eq (.field t O n d) (.long k)).value a0 Z none Z [] = some true) (e : t.eval a0 Z none [] Z = some (.ref a)) : Fld Z Z.heap a O n d (.long k) := by
  obtain ⟨x, y, h1, h2, h3, h4⟩ := cmp_v (Or.inl h)
  cases (long_at k).symm.trans h2
  obtain ⟨q, rfl⟩ := h4
  obtain rfl := gotT (eq_L h1 (long_at k)) h
  exact Fld.start ((fld_at e).symm.trans h1)
theorem own_el {t u : Term} {i : Int32} {ca a : Addr} {cl : Cell} (h : (Cond.eq (.elem t (.int i)) u).value a0 Z none Z [] = some true) (ht : t.eval a0 Z none [] Z = some (.ref ca)) (hu : u.eval a0 Z none [] Z = some (.ref a)) (hc : Z.heap[ca]? = some cl) : cl.slots[i.toNatClampNeg]? = some (.ref a) := by
  obtain ⟨x, y, h1, h2, h3, h4⟩ := cmp_v (Or.inl h)
  cases hu.symm.trans h2
  have hx : x.isRef = true := by cases x <;> simp [Kin, Value.isRef] at h3 h4 ⊢
  have e := gotT (eq_R h1 h2 hx rfl) h
  subst e
  exact (elem_in h1 ht (Term.int_eval i) hc).2
theorem own_len {t : Term} {n : Int32} {ca : Addr} {cl : Cell} (h : (Cond.eq (.length t) (.int n)).value a0 Z none Z [] = some true) (ht : t.eval a0 Z none [] Z = some (.ref ca)) (hc : Z.heap[ca]? = some cl) : cl.slots.size < 2 ^ 31 ∧ cl.slots.size.toInt32 = n := by
  obtain ⟨x, y, h1, h2, h3, h4⟩ := cmp_v (Or.inl h)
  obtain ⟨b, cell, e1, e2, e3, rfl⟩ := Jvm.Lib.length_spec h1
  cases ht.symm.trans e1
  cases hc.symm.trans (Jvm.Lib.arrayAt_spec e2).1
  exact ⟨e3, gotT (Cond.eq_ints h1 (Term.int_eval n)) h⟩
end Words
end New
end Jvm.RoadKit
namespace Jvm.Pilot.@@N@@
open Jvm Jvm.ClassFile Sem Op Lib Jvm.Free Jvm.Stand Jvm.LawKit Jvm.RoadKit Bundle Jvm.Pilot.@@N@@.Jvm.D
theorem own_pd0 : parseMethodDescriptor "(I)Lcom/example/tidewater_cube/tidewatercube/model/FieldType;" = some ⟨[.int], some (.object "com/example/tidewater_cube/tidewatercube/model/FieldType")⟩ := by decide +kernel
theorem own_pd1 : parseMethodDescriptor "()Z" = some ⟨[], some .boolean⟩ := by decide +kernel
def own_pick (x : Int32) (a b c d e : Addr) : Addr := if x = 0 then a else if x = 1 then b else if x = 2 then c else if x = 3 then d else e
def own_num (r a b c : Value) : Int32 := if r = a ∨ r = b ∨ r = c then 1 else 0
theorem own_k5 (x : Int32) : ((x &&& 2147483647) % 5) = 0 ∨ ((x &&& 2147483647) % 5) = 1 ∨ ((x &&& 2147483647) % 5) = 2 ∨ ((x &&& 2147483647) % 5) = 3 ∨ ((x &&& 2147483647) % 5) = 4 := by
  have h1 := (c_andS x 2147483647).2.2 (by decide)
  have h2 := (c_irem (x &&& 2147483647) 5 5 rfl).1 h1
  simp only [← Int32.toInt_inj, show (0 : Int32).toInt = 0 from rfl, show (1 : Int32).toInt = 1 from rfl, show (2 : Int32).toInt = 2 from rfl, show (3 : Int32).toInt = 3 from rfl, show (4 : Int32).toInt = 4 from rfl]
  omega
theorem own_pickE {Z : State} {h : Heap} {C : String} {a b c d e : Addr} (ha : Exa Z h a C) (hb : Exa Z h b C) (hc : Exa Z h c C) (hd : Exa Z h d C) (he : Exa Z h e C) (x : Int32) : Exa Z h (own_pick x a b c d e) C := by
  unfold own_pick
  split
  · exact ha
  split
  · exact hb
  split
  · exact hc
  split
  · exact hd
  · exact he
theorem own_fin {k : Int32} {a b c d e : Addr} (h5 : k = 0 ∨ k = 1 ∨ k = 2 ∨ k = 3 ∨ k = 4) (d1 : d ≠ a) (d2 : d ≠ b) (d3 : d ≠ c) (e1 : e ≠ a) (e2 : e ≠ b) (e3 : e ≠ c) :
    own_num (.ref (own_pick k a b c d e)) (.ref a) (.ref b) (.ref c) = if k < 3 then 1 else 0 := by
  rcases h5 with rfl | rfl | rfl | rfl | rfl
  · rw [if_pos (by decide)]; exact if_pos (Or.inl rfl)
  · rw [if_pos (by decide)]; exact if_pos (Or.inr (Or.inl rfl))
  · rw [if_pos (by decide)]; exact if_pos (Or.inr (Or.inr rfl))
  · rw [if_neg (by decide)]
    exact if_neg (fun q => q.elim (fun q => d1 (Value.ref.inj q)) (fun q => q.elim (fun q => d2 (Value.ref.inj q)) (fun q => d3 (Value.ref.inj q))))
  · rw [if_neg (by decide)]
    exact if_neg (fun q => q.elim (fun q => e1 (Value.ref.inj q)) (fun q => q.elim (fun q => e2 (Value.ref.inj q)) (fun q => e3 (Value.ref.inj q))))
theorem d1_0 : decode method_2_code 0 = .ok (.iload_n 0, 1) := by decide +kernel
theorem d1_1 : decode method_2_code 1 = .ok (.ifCond .ne 7, 3) := by decide +kernel
theorem d1_4 : decode method_2_code 4 = .ok (.getstatic 7, 3) := by decide +kernel
theorem d1_7 : decode method_2_code 7 = .ok (.areturn, 1) := by decide +kernel
theorem d1_8 : decode method_2_code 8 = .ok (.iload_n 0, 1) := by decide +kernel
theorem d1_9 : decode method_2_code 9 = .ok (.iconst 1, 1) := by decide +kernel
theorem d1_10 : decode method_2_code 10 = .ok (.if_icmp .ne 7, 3) := by decide +kernel
theorem d1_13 : decode method_2_code 13 = .ok (.getstatic 13, 3) := by decide +kernel
theorem d1_16 : decode method_2_code 16 = .ok (.areturn, 1) := by decide +kernel
theorem d1_17 : decode method_2_code 17 = .ok (.iload_n 0, 1) := by decide +kernel
theorem d1_18 : decode method_2_code 18 = .ok (.iconst 2, 1) := by decide +kernel
theorem d1_19 : decode method_2_code 19 = .ok (.if_icmp .ne 7, 3) := by decide +kernel
theorem d1_22 : decode method_2_code 22 = .ok (.getstatic 16, 3) := by decide +kernel
theorem d1_25 : decode method_2_code 25 = .ok (.areturn, 1) := by decide +kernel
theorem d1_26 : decode method_2_code 26 = .ok (.iload_n 0, 1) := by decide +kernel
theorem d1_27 : decode method_2_code 27 = .ok (.iconst 3, 1) := by decide +kernel
theorem d1_28 : decode method_2_code 28 = .ok (.if_icmp .ne 7, 3) := by decide +kernel
theorem d1_31 : decode method_2_code 31 = .ok (.getstatic 19, 3) := by decide +kernel
theorem d1_34 : decode method_2_code 34 = .ok (.areturn, 1) := by decide +kernel
theorem d1_35 : decode method_2_code 35 = .ok (.getstatic 22, 3) := by decide +kernel
theorem d1_38 : decode method_2_code 38 = .ok (.areturn, 1) := by decide +kernel
theorem pn_rm1 : plainFor (⟨"com/example/tidewater_cube/tidewatercube/model/FieldTypeIsNumericPinLaw", "pick", "(I)Lcom/example/tidewater_cube/tidewatercube/model/FieldType;"⟩ : MethodName) = true := by decide +kernel
theorem ef_rm1 (m : MethodId) (x0 : Int32) : entryFrame m #[(.int x0)] 1 = mkF m 0 #[.val (.int x0)] [] := by first | (simp [entryFrame, mkF, argsToLocals, Value.category]; done) | rfl
set_option maxRecDepth 65536 in
set_option maxHeartbeats 40000000 in
theorem rm1 (l : Launch) (Z : State) (a0 : Array Value) (hw : ∀ d ∈ tables_1, d.before a0 Z = true) (x0 : Int32) (aI aD aB aT aY : Addr) (h0 : Heap) (SI : Sta Z h0 "com/example/tidewater_cube/tidewatercube/model/FieldType" "INTEGER" "Lcom/example/tidewater_cube/tidewatercube/model/FieldType;" (.ref aI)) (SD : Sta Z h0 "com/example/tidewater_cube/tidewatercube/model/FieldType" "DECIMAL" "Lcom/example/tidewater_cube/tidewatercube/model/FieldType;" (.ref aD)) (SB : Sta Z h0 "com/example/tidewater_cube/tidewatercube/model/FieldType" "DOUBLE" "Lcom/example/tidewater_cube/tidewatercube/model/FieldType;" (.ref aB)) (ST : Sta Z h0 "com/example/tidewater_cube/tidewatercube/model/FieldType" "TEXT" "Lcom/example/tidewater_cube/tidewatercube/model/FieldType;" (.ref aT)) (SY : Sta Z h0 "com/example/tidewater_cube/tidewatercube/model/FieldType" "DATE" "Lcom/example/tidewater_cube/tidewatercube/model/FieldType;" (.ref aY)) :
    own_Met l Z (⟨"com/example/tidewater_cube/tidewatercube/model/FieldTypeIsNumericPinLaw", "pick", "(I)Lcom/example/tidewater_cube/tidewatercube/model/FieldType;"⟩ : MethodName) method_2_code 1 (some (.object "com/example/tidewater_cube/tidewatercube/model/FieldType")) [] ({ frames := 0, cells := 0, slots := 0, locals := 0 } : Room) #[(.int x0)] h0 (fun v h L => v = some (.ref (own_pick x0 aI aD aB aT aY)) ∧ L = [] ∧ h = h0) := by
  refine own_body pn_rm1 ?_
  intro p e s m below meth c s₁ hx hby hml hown hnm hret hlk hZ X0 e0 G hG
  replace hml : c.maxLocals = 1 := hml
  replace hown : s.vm.findClass "com/example/tidewater_cube/tidewatercube/model/FieldTypeIsNumericPinLaw" = some m.cls := hown
  rw [ef_rm1]
  show own_Go p e below G (s₁.setTop (mkF m 0 #[.val (.int x0)] []))
  refine own_st (fun t k => XS.iloadN X0.here hx rfl (hb hby d1_0) rfl  k) ?_
  show own_Go p e below G (s₁.setTop (mkF m 1 #[.val (.int x0)] [(.int x0)]))
  by_cases c1_1 : x0 = (0 : Int32)
  · skip
    refine own_st (fun t k => XS.ifNo X0.here hx rfl (hb hby d1_1) rfl ((if0 _ _).trans (teq c1_1).2) k) ?_
    show own_Go p e below G (s₁.setTop (mkF m 4 #[.val (.int x0)] []))
    obtain ⟨T2, X2, e2, st2⟩ := getS X0 hx hZ hown (host := "") (hw _ (List.mem_of_getElem? (i := 5) rfl)) Via.refl e0 SI (g := (mkF m 4 #[.val (.int x0)] [])) rfl (hb hby d1_4)
    refine own_st st2 ?_
    show own_Go p e below G (T2.setTop (mkF m 7 #[.val (.int x0)] [(.ref aI)]))
    rw [hG]
    exact own_retA X2 hx hlk hret rfl rfl (hb hby d1_7) ⟨congrArg (fun z => some (Value.ref z)) (show aI = own_pick x0 aI aD aB aT aY by simp [own_pick, c1_1]), rfl, e2⟩ (by decide) (by decide)
  · skip
    refine own_st (fun t k => XS.ifYes X0.here hx rfl (pc0 := 1) (pc' := 8) rfl (hb hby d1_1) rfl ((if0 _ _).trans (feq c1_1).2) (by decide) (by decide) k) ?_
    show own_Go p e below G (s₁.setTop (mkF m 8 #[.val (.int x0)] []))
    refine own_st (fun t k => XS.iloadN X0.here hx rfl (hb hby d1_8) rfl  k) ?_
    show own_Go p e below G (s₁.setTop (mkF m 9 #[.val (.int x0)] [(.int x0)]))
    refine own_st (fun t k => XS.iconst X0.here hx rfl (hb hby d1_9) k) ?_
    show own_Go p e below G (s₁.setTop (mkF m 10 #[.val (.int x0)] [(.int (1 : Int32)), (.int x0)]))
    by_cases c10_3 : x0 = (1 : Int32)
    · skip
      refine own_st (fun t k => XS.icmpNo X0.here hx rfl (hb hby d1_10) rfl (teq c10_3).2 k) ?_
      show own_Go p e below G (s₁.setTop (mkF m 13 #[.val (.int x0)] []))
      obtain ⟨T4, X4, e4, st4⟩ := getS X0 hx hZ hown (host := "") (hw _ (List.mem_of_getElem? (i := 20) rfl)) Via.refl e0 SD (g := (mkF m 13 #[.val (.int x0)] [])) rfl (hb hby d1_13)
      refine own_st st4 ?_
      show own_Go p e below G (T4.setTop (mkF m 16 #[.val (.int x0)] [(.ref aD)]))
      rw [hG]
      exact own_retA X4 hx hlk hret rfl rfl (hb hby d1_16) ⟨congrArg (fun z => some (Value.ref z)) (show aD = own_pick x0 aI aD aB aT aY by simp [own_pick, c1_1, c10_3]), rfl, e4⟩ (by decide) (by decide)
    · skip
      refine own_st (fun t k => XS.icmpYes X0.here hx rfl (pc0 := 10) (pc' := 17) rfl (hb hby d1_10) rfl (feq c10_3).2 (by decide) (by decide) k) ?_
      show own_Go p e below G (s₁.setTop (mkF m 17 #[.val (.int x0)] []))
      refine own_st (fun t k => XS.iloadN X0.here hx rfl (hb hby d1_17) rfl  k) ?_
      show own_Go p e below G (s₁.setTop (mkF m 18 #[.val (.int x0)] [(.int x0)]))
      refine own_st (fun t k => XS.iconst X0.here hx rfl (hb hby d1_18) k) ?_
      show own_Go p e below G (s₁.setTop (mkF m 19 #[.val (.int x0)] [(.int (2 : Int32)), (.int x0)]))
      by_cases c19_5 : x0 = (2 : Int32)
      · skip
        refine own_st (fun t k => XS.icmpNo X0.here hx rfl (hb hby d1_19) rfl (teq c19_5).2 k) ?_
        show own_Go p e below G (s₁.setTop (mkF m 22 #[.val (.int x0)] []))
        obtain ⟨T6, X6, e6, st6⟩ := getS X0 hx hZ hown (host := "") (hw _ (List.mem_of_getElem? (i := 23) rfl)) Via.refl e0 SB (g := (mkF m 22 #[.val (.int x0)] [])) rfl (hb hby d1_22)
        refine own_st st6 ?_
        show own_Go p e below G (T6.setTop (mkF m 25 #[.val (.int x0)] [(.ref aB)]))
        rw [hG]
        exact own_retA X6 hx hlk hret rfl rfl (hb hby d1_25) ⟨congrArg (fun z => some (Value.ref z)) (show aB = own_pick x0 aI aD aB aT aY by simp [own_pick, c1_1, c10_3, c19_5]), rfl, e6⟩ (by decide) (by decide)
      · skip
        refine own_st (fun t k => XS.icmpYes X0.here hx rfl (pc0 := 19) (pc' := 26) rfl (hb hby d1_19) rfl (feq c19_5).2 (by decide) (by decide) k) ?_
        show own_Go p e below G (s₁.setTop (mkF m 26 #[.val (.int x0)] []))
        refine own_st (fun t k => XS.iloadN X0.here hx rfl (hb hby d1_26) rfl  k) ?_
        show own_Go p e below G (s₁.setTop (mkF m 27 #[.val (.int x0)] [(.int x0)]))
        refine own_st (fun t k => XS.iconst X0.here hx rfl (hb hby d1_27) k) ?_
        show own_Go p e below G (s₁.setTop (mkF m 28 #[.val (.int x0)] [(.int (3 : Int32)), (.int x0)]))
        by_cases c28_7 : x0 = (3 : Int32)
        · skip
          refine own_st (fun t k => XS.icmpNo X0.here hx rfl (hb hby d1_28) rfl (teq c28_7).2 k) ?_
          show own_Go p e below G (s₁.setTop (mkF m 31 #[.val (.int x0)] []))
          obtain ⟨T8, X8, e8, st8⟩ := getS X0 hx hZ hown (host := "") (hw _ (List.mem_of_getElem? (i := 14) rfl)) Via.refl e0 ST (g := (mkF m 31 #[.val (.int x0)] [])) rfl (hb hby d1_31)
          refine own_st st8 ?_
          show own_Go p e below G (T8.setTop (mkF m 34 #[.val (.int x0)] [(.ref aT)]))
          rw [hG]
          exact own_retA X8 hx hlk hret rfl rfl (hb hby d1_34) ⟨congrArg (fun z => some (Value.ref z)) (show aT = own_pick x0 aI aD aB aT aY by simp [own_pick, c1_1, c10_3, c19_5, c28_7]), rfl, e8⟩ (by decide) (by decide)
        · skip
          refine own_st (fun t k => XS.icmpYes X0.here hx rfl (pc0 := 28) (pc' := 35) rfl (hb hby d1_28) rfl (feq c28_7).2 (by decide) (by decide) k) ?_
          show own_Go p e below G (s₁.setTop (mkF m 35 #[.val (.int x0)] []))
          obtain ⟨T9, X9, e9, st9⟩ := getS X0 hx hZ hown (host := "") (hw _ (List.mem_of_getElem? (i := 21) rfl)) Via.refl e0 SY (g := (mkF m 35 #[.val (.int x0)] [])) rfl (hb hby d1_35)
          refine own_st st9 ?_
          show own_Go p e below G (T9.setTop (mkF m 38 #[.val (.int x0)] [(.ref aY)]))
          rw [hG]
          exact own_retA X9 hx hlk hret rfl rfl (hb hby d1_38) ⟨congrArg (fun z => some (Value.ref z)) (show aY = own_pick x0 aI aD aB aT aY by simp [own_pick, c1_1, c10_3, c19_5, c28_7]), rfl, e9⟩ (by decide) (by decide)
theorem d2_0 : decode prog_18_method_6_code 0 = .ok (.aload_n 0, 1) := by decide +kernel
theorem d2_1 : decode prog_18_method_6_code 1 = .ok (.getstatic 3, 3) := by decide +kernel
theorem d2_4 : decode prog_18_method_6_code 4 = .ok (.if_acmp .eq 17, 3) := by decide +kernel
theorem d2_7 : decode prog_18_method_6_code 7 = .ok (.aload_n 0, 1) := by decide +kernel
theorem d2_8 : decode prog_18_method_6_code 8 = .ok (.getstatic 7, 3) := by decide +kernel
theorem d2_11 : decode prog_18_method_6_code 11 = .ok (.if_acmp .eq 10, 3) := by decide +kernel
theorem d2_14 : decode prog_18_method_6_code 14 = .ok (.aload_n 0, 1) := by decide +kernel
theorem d2_15 : decode prog_18_method_6_code 15 = .ok (.getstatic 10, 3) := by decide +kernel
theorem d2_18 : decode prog_18_method_6_code 18 = .ok (.if_acmp .ne 7, 3) := by decide +kernel
theorem d2_21 : decode prog_18_method_6_code 21 = .ok (.iconst 1, 1) := by decide +kernel
theorem d2_22 : decode prog_18_method_6_code 22 = .ok (.goto 4, 3) := by decide +kernel
theorem d2_25 : decode prog_18_method_6_code 25 = .ok (.iconst 0, 1) := by decide +kernel
theorem d2_26 : decode prog_18_method_6_code 26 = .ok (.ireturn, 1) := by decide +kernel
theorem pn_rm2 : plainFor (⟨"com/example/tidewater_cube/tidewatercube/model/FieldType", "isNumeric", "()Z"⟩ : MethodName) = true := by decide +kernel
theorem ef_rm2 (m : MethodId) (x0 : Addr) : entryFrame m #[(.ref x0)] 1 = mkF m 0 #[.val (.ref x0)] [] := by first | (simp [entryFrame, mkF, argsToLocals, Value.category]; done) | rfl
set_option maxRecDepth 65536 in
set_option maxHeartbeats 40000000 in
theorem rm2 (l : Launch) (Z : State) (a0 : Array Value) (hw : ∀ d ∈ tables_1, d.before a0 Z = true) (r0 : Addr) (aI aD aB : Addr) (h0 : Heap) (SI : Sta Z h0 "com/example/tidewater_cube/tidewatercube/model/FieldType" "INTEGER" "Lcom/example/tidewater_cube/tidewatercube/model/FieldType;" (.ref aI)) (SD : Sta Z h0 "com/example/tidewater_cube/tidewatercube/model/FieldType" "DECIMAL" "Lcom/example/tidewater_cube/tidewatercube/model/FieldType;" (.ref aD)) (SB : Sta Z h0 "com/example/tidewater_cube/tidewatercube/model/FieldType" "DOUBLE" "Lcom/example/tidewater_cube/tidewatercube/model/FieldType;" (.ref aB)) :
    own_Met l Z (⟨"com/example/tidewater_cube/tidewatercube/model/FieldType", "isNumeric", "()Z"⟩ : MethodName) prog_18_method_6_code 1 (some .boolean) [] ({ frames := 0, cells := 0, slots := 0, locals := 0 } : Room) #[(.ref r0)] h0 (fun v h L => v = some (.int (own_num (.ref r0) (.ref aI) (.ref aD) (.ref aB))) ∧ L = [] ∧ h = h0) := by
  refine own_body pn_rm2 ?_
  intro p e s m below meth c s₁ hx hby hml hown hnm hret hlk hZ X0 e0 G hG
  replace hml : c.maxLocals = 1 := hml
  replace hown : s.vm.findClass "com/example/tidewater_cube/tidewatercube/model/FieldType" = some m.cls := hown
  rw [ef_rm2]
  show own_Go p e below G (s₁.setTop (mkF m 0 #[.val (.ref r0)] []))
  refine own_st (fun t k => XS.aloadN X0.here hx rfl (hb hby d2_0) rfl rfl  k) ?_
  show own_Go p e below G (s₁.setTop (mkF m 1 #[.val (.ref r0)] [(.ref r0)]))
  obtain ⟨T1, X1, e1, st1⟩ := getS X0 hx hZ hown (host := "") (hw _ (List.mem_of_getElem? (i := 13) rfl)) Via.refl e0 SI (g := (mkF m 1 #[.val (.ref r0)] [(.ref r0)])) rfl (hb hby d2_1)
  refine own_st st1 ?_
  show own_Go p e below G (T1.setTop (mkF m 4 #[.val (.ref r0)] [(.ref aI), (.ref r0)]))
  by_cases c4_2 : ((.ref r0) : Value) = (.ref aI)
  · skip
    refine own_st (fun t k => Jvm.RoadKit.acmp (g := (mkF m 4 #[.val (.ref r0)] [(.ref aI), (.ref r0)])) X1 hx rfl rfl rfl (pc0 := 4) (pc' := 21) (same := true) rfl (hb hby d2_4) rfl (decide_eq_true c4_2) (by decide) (by decide) k) ?_
    show own_Go p e below G (T1.setTop (mkF m 21 #[.val (.ref r0)] []))
    refine own_st (fun t k => XS.iconst X1.here hx rfl (hb hby d2_21) k) ?_
    show own_Go p e below G (T1.setTop (mkF m 22 #[.val (.ref r0)] [(.int (1 : Int32))]))
    refine own_st (fun t k => XS.goto X1.here hx rfl (pc0 := 22) (pc' := 26) rfl (hb hby d2_22) (by decide) (by decide) k) ?_
    show own_Go p e below G (T1.setTop (mkF m 26 #[.val (.ref r0)] [(.int (1 : Int32))]))
    rw [hG]
    exact own_retZ X1 hx hlk (t := .boolean) hret (by simp) (hb hby d2_26) ⟨congrArg (fun z => some (Value.int z)) (show (1 : Int32) = own_num (.ref r0) (.ref aI) (.ref aD) (.ref aB) from (if_pos (Or.inl c4_2)).symm), rfl, e1⟩ (by decide) (by decide)
  · skip
    refine own_st (fun t k => Jvm.RoadKit.acmp (g := (mkF m 4 #[.val (.ref r0)] [(.ref aI), (.ref r0)])) X1 hx rfl rfl rfl (pc0 := 4) (pc' := 7) (same := false) rfl (hb hby d2_4) rfl (decide_eq_false c4_2) (by decide) (by decide) k) ?_
    show own_Go p e below G (T1.setTop (mkF m 7 #[.val (.ref r0)] []))
    refine own_st (fun t k => XS.aloadN X1.here hx rfl (hb hby d2_7) rfl rfl  k) ?_
    show own_Go p e below G (T1.setTop (mkF m 8 #[.val (.ref r0)] [(.ref r0)]))
    obtain ⟨T3, X3, e3, st3⟩ := getS X1 hx hZ hown (host := "") (hw _ (List.mem_of_getElem? (i := 16) rfl)) Via.refl e1 SD (g := (mkF m 8 #[.val (.ref r0)] [(.ref r0)])) rfl (hb hby d2_8)
    refine own_st st3 ?_
    show own_Go p e below G (T3.setTop (mkF m 11 #[.val (.ref r0)] [(.ref aD), (.ref r0)]))
    by_cases c11_4 : ((.ref r0) : Value) = (.ref aD)
    · skip
      refine own_st (fun t k => Jvm.RoadKit.acmp (g := (mkF m 11 #[.val (.ref r0)] [(.ref aD), (.ref r0)])) X3 hx rfl rfl rfl (pc0 := 11) (pc' := 21) (same := true) rfl (hb hby d2_11) rfl (decide_eq_true c11_4) (by decide) (by decide) k) ?_
      show own_Go p e below G (T3.setTop (mkF m 21 #[.val (.ref r0)] []))
      refine own_st (fun t k => XS.iconst X3.here hx rfl (hb hby d2_21) k) ?_
      show own_Go p e below G (T3.setTop (mkF m 22 #[.val (.ref r0)] [(.int (1 : Int32))]))
      refine own_st (fun t k => XS.goto X3.here hx rfl (pc0 := 22) (pc' := 26) rfl (hb hby d2_22) (by decide) (by decide) k) ?_
      show own_Go p e below G (T3.setTop (mkF m 26 #[.val (.ref r0)] [(.int (1 : Int32))]))
      rw [hG]
      exact own_retZ X3 hx hlk (t := .boolean) hret (by simp) (hb hby d2_26) ⟨congrArg (fun z => some (Value.int z)) (show (1 : Int32) = own_num (.ref r0) (.ref aI) (.ref aD) (.ref aB) from (if_pos (Or.inr (Or.inl c11_4))).symm), rfl, e3⟩ (by decide) (by decide)
    · skip
      refine own_st (fun t k => Jvm.RoadKit.acmp (g := (mkF m 11 #[.val (.ref r0)] [(.ref aD), (.ref r0)])) X3 hx rfl rfl rfl (pc0 := 11) (pc' := 14) (same := false) rfl (hb hby d2_11) rfl (decide_eq_false c11_4) (by decide) (by decide) k) ?_
      show own_Go p e below G (T3.setTop (mkF m 14 #[.val (.ref r0)] []))
      refine own_st (fun t k => XS.aloadN X3.here hx rfl (hb hby d2_14) rfl rfl  k) ?_
      show own_Go p e below G (T3.setTop (mkF m 15 #[.val (.ref r0)] [(.ref r0)]))
      obtain ⟨T5, X5, e5, st5⟩ := getS X3 hx hZ hown (host := "") (hw _ (List.mem_of_getElem? (i := 18) rfl)) Via.refl e3 SB (g := (mkF m 15 #[.val (.ref r0)] [(.ref r0)])) rfl (hb hby d2_15)
      refine own_st st5 ?_
      show own_Go p e below G (T5.setTop (mkF m 18 #[.val (.ref r0)] [(.ref aB), (.ref r0)]))
      by_cases c18_6 : ((.ref r0) : Value) = (.ref aB)
      · skip
        refine own_st (fun t k => Jvm.RoadKit.acmp (g := (mkF m 18 #[.val (.ref r0)] [(.ref aB), (.ref r0)])) X5 hx rfl rfl rfl (pc0 := 18) (pc' := 21) (same := true) rfl (hb hby d2_18) rfl (decide_eq_true c18_6) (by decide) (by decide) k) ?_
        show own_Go p e below G (T5.setTop (mkF m 21 #[.val (.ref r0)] []))
        refine own_st (fun t k => XS.iconst X5.here hx rfl (hb hby d2_21) k) ?_
        show own_Go p e below G (T5.setTop (mkF m 22 #[.val (.ref r0)] [(.int (1 : Int32))]))
        refine own_st (fun t k => XS.goto X5.here hx rfl (pc0 := 22) (pc' := 26) rfl (hb hby d2_22) (by decide) (by decide) k) ?_
        show own_Go p e below G (T5.setTop (mkF m 26 #[.val (.ref r0)] [(.int (1 : Int32))]))
        rw [hG]
        exact own_retZ X5 hx hlk (t := .boolean) hret (by simp) (hb hby d2_26) ⟨congrArg (fun z => some (Value.int z)) (show (1 : Int32) = own_num (.ref r0) (.ref aI) (.ref aD) (.ref aB) from (if_pos (Or.inr (Or.inr c18_6))).symm), rfl, e5⟩ (by decide) (by decide)
      · skip
        refine own_st (fun t k => Jvm.RoadKit.acmp (g := (mkF m 18 #[.val (.ref r0)] [(.ref aB), (.ref r0)])) X5 hx rfl rfl rfl (pc0 := 18) (pc' := 25) (same := false) rfl (hb hby d2_18) rfl (decide_eq_false c18_6) (by decide) (by decide) k) ?_
        show own_Go p e below G (T5.setTop (mkF m 25 #[.val (.ref r0)] []))
        refine own_st (fun t k => XS.iconst X5.here hx rfl (hb hby d2_25) k) ?_
        show own_Go p e below G (T5.setTop (mkF m 26 #[.val (.ref r0)] [(.int (0 : Int32))]))
        rw [hG]
        exact own_retZ X5 hx hlk (t := .boolean) hret (by simp) (hb hby d2_26) ⟨congrArg (fun z => some (Value.int z)) (show (0 : Int32) = own_num (.ref r0) (.ref aI) (.ref aD) (.ref aB) from (if_neg (fun q => q.elim c4_2 (fun q => q.elim c11_4 c18_6))).symm), rfl, e5⟩ (by decide) (by decide)
theorem pn_rm0 : plainFor (⟨"com/example/tidewater_cube/tidewatercube/model/FieldTypeIsNumericPinLaw", "law", "(I)Z"⟩ : MethodName) = true := by decide +kernel
theorem ef_rm0 (m : MethodId) (x0 : Int32) : entryFrame m #[(.int x0)] maxLocals = mkF m 0 #[.val (.int x0), .unset, .unset, .unset] [] := by first | (simp [entryFrame, mkF, argsToLocals, Value.category, maxLocals]; done) | rfl
set_option maxRecDepth 65536 in
set_option maxHeartbeats 40000000 in
theorem rm0 (l : Launch) (Z : State) (a0 : Array Value) (hw : ∀ d ∈ tables_1, d.before a0 Z = true) (ws : List Jvm.Cond) (x0 : Int32) (aI aD aB aT aY : Addr) (h0 : Heap) (n0 : Nat) (SI : Sta Z h0 "com/example/tidewater_cube/tidewatercube/model/FieldType" "INTEGER" "Lcom/example/tidewater_cube/tidewatercube/model/FieldType;" (.ref aI)) (SD : Sta Z h0 "com/example/tidewater_cube/tidewatercube/model/FieldType" "DECIMAL" "Lcom/example/tidewater_cube/tidewatercube/model/FieldType;" (.ref aD)) (SB : Sta Z h0 "com/example/tidewater_cube/tidewatercube/model/FieldType" "DOUBLE" "Lcom/example/tidewater_cube/tidewatercube/model/FieldType;" (.ref aB)) (ST : Sta Z h0 "com/example/tidewater_cube/tidewatercube/model/FieldType" "TEXT" "Lcom/example/tidewater_cube/tidewatercube/model/FieldType;" (.ref aT)) (SY : Sta Z h0 "com/example/tidewater_cube/tidewatercube/model/FieldType" "DATE" "Lcom/example/tidewater_cube/tidewatercube/model/FieldType;" (.ref aY)) (EI : Exa Z h0 aI "com/example/tidewater_cube/tidewatercube/model/FieldType") (ED : Exa Z h0 aD "com/example/tidewater_cube/tidewatercube/model/FieldType") (EB : Exa Z h0 aB "com/example/tidewater_cube/tidewatercube/model/FieldType") (ET : Exa Z h0 aT "com/example/tidewater_cube/tidewatercube/model/FieldType") (EY : Exa Z h0 aY "com/example/tidewater_cube/tidewatercube/model/FieldType") (nTI : aT ≠ aI) (nTD : aT ≠ aD) (nTB : aT ≠ aB) (nYI : aY ≠ aI) (nYD : aY ≠ aD) (nYB : aY ≠ aB) :
    own_Met l Z x code maxLocals ret ws room_1 #[(.int x0)] h0 (fun v h L => v = some (.int 1) ∧ Fr n0 L) := by
  refine own_body pn_rm0 ?_
  intro p e s m below meth c s₁ hx hby hml hown hnm hret hlk hZ X0 e0 G hG
  replace hml : c.maxLocals = 4 := hml
  replace hown : s.vm.findClass "com/example/tidewater_cube/tidewatercube/model/FieldTypeIsNumericPinLaw" = some m.cls := hown
  rw [ef_rm0]
  show own_Go p e below G (s₁.setTop (mkF m 0 #[.val (.int x0), .unset, .unset, .unset] []))
  refine own_st (fun t k => XS.iloadN X0.here hx rfl (hb hby at_0) rfl  k) ?_
  show own_Go p e below G (s₁.setTop (mkF m 1 #[.val (.int x0), .unset, .unset, .unset] [(.int x0)]))
  refine own_st (fun t k => X0.ldcInt hx hown (mvT hZ (hw _ (List.mem_of_getElem? (i := 0) rfl))) (g := (mkF m 1 #[.val (.int x0), .unset, .unset, .unset] [(.int x0)])) rfl (hb hby at_1) t k) ?_
  show own_Go p e below G (s₁.setTop (mkF m 3 #[.val (.int x0), .unset, .unset, .unset] [(.int (2147483647 : Int32)), (.int x0)]))
  refine own_st (fun t k => XS.iand X0.here hx rfl (hb hby at_3) rfl k) ?_
  show own_Go p e below G (s₁.setTop (mkF m 4 #[.val (.int x0), .unset, .unset, .unset] [(.int (x0 &&& (2147483647 : Int32)))]))
  refine own_st (fun t k => XS.iconst X0.here hx rfl (hb hby at_4) k) ?_
  show own_Go p e below G (s₁.setTop (mkF m 5 #[.val (.int x0), .unset, .unset, .unset] [(.int (5 : Int32)), (.int (x0 &&& (2147483647 : Int32)))]))
  refine own_st (fun t k => iremM X0 hx rfl (hb hby at_5) rfl (by decide) k) ?_
  show own_Go p e below G (s₁.setTop (mkF m 6 #[.val (.int x0), .unset, .unset, .unset] [(.int ((x0 &&& (2147483647 : Int32)) % (5 : Int32)))]))
  refine own_st (fun t k => XS.istoreN X0.here hx rfl (hb hby at_6) rfl (l' := #[.val (.int x0), .val (.int ((x0 &&& (2147483647 : Int32)) % (5 : Int32))), .unset, .unset]) rfl k) ?_
  show own_Go p e below G (s₁.setTop (mkF m 7 #[.val (.int x0), .val (.int ((x0 &&& (2147483647 : Int32)) % (5 : Int32))), .unset, .unset] []))
  have hk5 := own_k5 x0
  generalize ((x0 &&& (2147483647 : Int32)) % (5 : Int32)) = k0 at hk5 ⊢
  refine own_st (fun t k => XS.iloadN X0.here hx rfl (hb hby at_7) rfl  k) ?_
  show own_Go p e below G (s₁.setTop (mkF m 8 #[.val (.int x0), .val (.int k0), .unset, .unset] [(.int k0)]))
  obtain ⟨v1, T1, L1, X1, Q1, st1⟩ := own_callS X0 hx hZ (y := (⟨"com/example/tidewater_cube/tidewatercube/model/FieldTypeIsNumericPinLaw", "pick", "(I)Lcom/example/tidewater_cube/tidewatercube/model/FieldType;"⟩ : MethodName)) hown (hw _ (List.mem_of_getElem? (i := 1) rfl)) (hw _ (List.mem_of_getElem? (i := 2) rfl)) (hw _ (List.mem_of_getElem? (i := 3) rfl)) (hw _ (List.mem_of_getElem? (i := 4) rfl)) (by decide) (W := 0) (rm1 l Z a0 hw k0 aI aD aB aT aY h0 SI SD SB ST SY) (by decide) (by decide) e0 (g := (mkF m 8 #[.val (.int x0), .val (.int k0), .unset, .unset] [(.int k0)])) rfl (by rw [hml]; rfl) (argsL := [(.int k0)]) (rest := []) own_pd0 rfl rfl (by show 2 * 0 + _ ≤ _; exact Nat.le_of_eq rfl) (hb hby at_8) rfl (by decide) (by decide)
  obtain ⟨rfl, rfl, e1⟩ := Q1
  simp only [List.append_nil, Nat.add_zero] at X1
  refine own_st st1 ?_
  show own_Go p e below G (T1.setTop (mkF m 11 #[.val (.int x0), .val (.int k0), .unset, .unset] [(.ref (own_pick k0 aI aD aB aT aY))]))
  refine own_st (fun t k => XS.astoreN X1.here hx rfl (hb hby at_11) rfl rfl (l' := #[.val (.int x0), .val (.int k0), .val (.ref (own_pick k0 aI aD aB aT aY)), .unset]) rfl k) ?_
  show own_Go p e below G (T1.setTop (mkF m 12 #[.val (.int x0), .val (.int k0), .val (.ref (own_pick k0 aI aD aB aT aY)), .unset] []))
  have Er := own_pickE EI ED EB ET EY k0
  have hf := own_fin hk5 nTI nTD nTB nYI nYD nYB
  generalize own_pick k0 aI aD aB aT aY = r0 at Er hf ⊢
  refine own_st (fun t k => XS.iloadN X1.here hx rfl (hb hby at_12) rfl  k) ?_
  show own_Go p e below G (T1.setTop (mkF m 13 #[.val (.int x0), .val (.int k0), .val (.ref r0), .unset] [(.int k0)]))
  refine own_st (fun t k => XS.iconst X1.here hx rfl (hb hby at_13) k) ?_
  show own_Go p e below G (T1.setTop (mkF m 14 #[.val (.int x0), .val (.int k0), .val (.ref r0), .unset] [(.int (3 : Int32)), (.int k0)]))
  by_cases c14_2 : k0 < (3 : Int32)
  · skip
    refine own_st (fun t k => XS.icmpNo X1.here hx rfl (hb hby at_14) rfl (tlt c14_2).2.1 k) ?_
    show own_Go p e below G (T1.setTop (mkF m 17 #[.val (.int x0), .val (.int k0), .val (.ref r0), .unset] []))
    refine own_st (fun t k => XS.iconst X1.here hx rfl (hb hby at_17) k) ?_
    show own_Go p e below G (T1.setTop (mkF m 18 #[.val (.int x0), .val (.int k0), .val (.ref r0), .unset] [(.int (1 : Int32))]))
    refine own_st (fun t k => XS.goto X1.here hx rfl (pc0 := 18) (pc' := 22) rfl (hb hby at_18) (by decide) (by decide) k) ?_
    show own_Go p e below G (T1.setTop (mkF m 22 #[.val (.int x0), .val (.int k0), .val (.ref r0), .unset] [(.int (1 : Int32))]))
    refine own_st (fun t k => XS.istoreN X1.here hx rfl (hb hby at_22) rfl (l' := #[.val (.int x0), .val (.int k0), .val (.ref r0), .val (.int (1 : Int32))]) rfl k) ?_
    show own_Go p e below G (T1.setTop (mkF m 23 #[.val (.int x0), .val (.int k0), .val (.ref r0), .val (.int (1 : Int32))] []))
    refine own_st (fun t k => XS.aloadN X1.here hx rfl (hb hby at_23) rfl rfl  k) ?_
    show own_Go p e below G (T1.setTop (mkF m 24 #[.val (.int x0), .val (.int k0), .val (.ref r0), .val (.int (1 : Int32))] [(.ref r0)]))
    obtain ⟨v3, T3, L3, X3, Q3, st3⟩ := own_callV X1 hx hZ (y := (⟨"com/example/tidewater_cube/tidewatercube/model/FieldType", "isNumeric", "()Z"⟩ : MethodName)) (z := (⟨"com/example/tidewater_cube/tidewatercube/model/FieldType", "isNumeric", "()Z"⟩ : MethodName)) hown (hw _ (List.mem_of_getElem? (i := 8) rfl)) (hw _ (List.mem_of_getElem? (i := 9) rfl)) (notFace_of_selects (args := #[]) (mvT hZ (hw _ (List.mem_of_getElem? (i := 11) rfl)))) (hw _ (List.mem_of_getElem? (i := 11) rfl)) (hw _ (List.mem_of_getElem? (i := 10) rfl)) (hw _ (List.mem_of_getElem? (i := 6) rfl)) (hw _ (List.mem_of_getElem? (i := 12) rfl)) (by decide) (W := 0) (rm2 l Z a0 hw r0 aI aD aB h0 SI SD SB) (by decide) (by decide) e1 Er (g := (mkF m 24 #[.val (.int x0), .val (.int k0), .val (.ref r0), .val (.int (1 : Int32))] [(.ref r0)])) rfl (by rw [hml]; rfl) (argsL := []) (rest := []) own_pd1 rfl rfl (by show 2 * 0 + _ ≤ _; exact Nat.le_of_eq rfl) (hb hby at_24) rfl (by decide) (by decide)
    obtain ⟨rfl, rfl, e3⟩ := Q3
    simp only [List.append_nil, Nat.add_zero] at X3
    refine own_st st3 ?_
    show own_Go p e below G (T3.setTop (mkF m 27 #[.val (.int x0), .val (.int k0), .val (.ref r0), .val (.int (1 : Int32))] [(.int (own_num (.ref r0) (.ref aI) (.ref aD) (.ref aB)))]))
    refine own_st (fun t k => XS.iloadN X3.here hx rfl (hb hby at_27) rfl  k) ?_
    show own_Go p e below G (T3.setTop (mkF m 28 #[.val (.int x0), .val (.int k0), .val (.ref r0), .val (.int (1 : Int32))] [(.int (1 : Int32)), (.int (own_num (.ref r0) (.ref aI) (.ref aD) (.ref aB)))]))
    refine own_st (fun t k => XS.icmpNo X3.here hx rfl (hb hby at_28) rfl (teq (hf.trans (if_pos c14_2))).2 k) ?_
    show own_Go p e below G (T3.setTop (mkF m 31 #[.val (.int x0), .val (.int k0), .val (.ref r0), .val (.int (1 : Int32))] []))
    refine own_st (fun t k => XS.iconst X3.here hx rfl (hb hby at_31) k) ?_
    show own_Go p e below G (T3.setTop (mkF m 32 #[.val (.int x0), .val (.int k0), .val (.ref r0), .val (.int (1 : Int32))] [(.int (1 : Int32))]))
    refine own_st (fun t k => XS.goto X3.here hx rfl (pc0 := 32) (pc' := 36) rfl (hb hby at_32) (by decide) (by decide) k) ?_
    show own_Go p e below G (T3.setTop (mkF m 36 #[.val (.int x0), .val (.int k0), .val (.ref r0), .val (.int (1 : Int32))] [(.int (1 : Int32))]))
    rw [hG]
    exact own_retZ X3 hx hlk (t := .boolean) hret (by simp) (hb hby at_36) ⟨rfl, Fr.nil _⟩ (by decide) (by decide)
  · skip
    refine own_st (fun t k => XS.icmpYes X1.here hx rfl (pc0 := 14) (pc' := 21) rfl (hb hby at_14) rfl (flt c14_2).2.1 (by decide) (by decide) k) ?_
    show own_Go p e below G (T1.setTop (mkF m 21 #[.val (.int x0), .val (.int k0), .val (.ref r0), .unset] []))
    refine own_st (fun t k => XS.iconst X1.here hx rfl (hb hby at_21) k) ?_
    show own_Go p e below G (T1.setTop (mkF m 22 #[.val (.int x0), .val (.int k0), .val (.ref r0), .unset] [(.int (0 : Int32))]))
    refine own_st (fun t k => XS.istoreN X1.here hx rfl (hb hby at_22) rfl (l' := #[.val (.int x0), .val (.int k0), .val (.ref r0), .val (.int (0 : Int32))]) rfl k) ?_
    show own_Go p e below G (T1.setTop (mkF m 23 #[.val (.int x0), .val (.int k0), .val (.ref r0), .val (.int (0 : Int32))] []))
    refine own_st (fun t k => XS.aloadN X1.here hx rfl (hb hby at_23) rfl rfl  k) ?_
    show own_Go p e below G (T1.setTop (mkF m 24 #[.val (.int x0), .val (.int k0), .val (.ref r0), .val (.int (0 : Int32))] [(.ref r0)]))
    obtain ⟨v4, T4, L4, X4, Q4, st4⟩ := own_callV X1 hx hZ (y := (⟨"com/example/tidewater_cube/tidewatercube/model/FieldType", "isNumeric", "()Z"⟩ : MethodName)) (z := (⟨"com/example/tidewater_cube/tidewatercube/model/FieldType", "isNumeric", "()Z"⟩ : MethodName)) hown (hw _ (List.mem_of_getElem? (i := 8) rfl)) (hw _ (List.mem_of_getElem? (i := 9) rfl)) (notFace_of_selects (args := #[]) (mvT hZ (hw _ (List.mem_of_getElem? (i := 11) rfl)))) (hw _ (List.mem_of_getElem? (i := 11) rfl)) (hw _ (List.mem_of_getElem? (i := 10) rfl)) (hw _ (List.mem_of_getElem? (i := 6) rfl)) (hw _ (List.mem_of_getElem? (i := 12) rfl)) (by decide) (W := 0) (rm2 l Z a0 hw r0 aI aD aB h0 SI SD SB) (by decide) (by decide) e1 Er (g := (mkF m 24 #[.val (.int x0), .val (.int k0), .val (.ref r0), .val (.int (0 : Int32))] [(.ref r0)])) rfl (by rw [hml]; rfl) (argsL := []) (rest := []) own_pd1 rfl rfl (by show 2 * 0 + _ ≤ _; exact Nat.le_of_eq rfl) (hb hby at_24) rfl (by decide) (by decide)
    obtain ⟨rfl, rfl, e4⟩ := Q4
    simp only [List.append_nil, Nat.add_zero] at X4
    refine own_st st4 ?_
    show own_Go p e below G (T4.setTop (mkF m 27 #[.val (.int x0), .val (.int k0), .val (.ref r0), .val (.int (0 : Int32))] [(.int (own_num (.ref r0) (.ref aI) (.ref aD) (.ref aB)))]))
    refine own_st (fun t k => XS.iloadN X4.here hx rfl (hb hby at_27) rfl  k) ?_
    show own_Go p e below G (T4.setTop (mkF m 28 #[.val (.int x0), .val (.int k0), .val (.ref r0), .val (.int (0 : Int32))] [(.int (0 : Int32)), (.int (own_num (.ref r0) (.ref aI) (.ref aD) (.ref aB)))]))
    refine own_st (fun t k => XS.icmpNo X4.here hx rfl (hb hby at_28) rfl (teq (hf.trans (if_neg c14_2))).2 k) ?_
    show own_Go p e below G (T4.setTop (mkF m 31 #[.val (.int x0), .val (.int k0), .val (.ref r0), .val (.int (0 : Int32))] []))
    refine own_st (fun t k => XS.iconst X4.here hx rfl (hb hby at_31) k) ?_
    show own_Go p e below G (T4.setTop (mkF m 32 #[.val (.int x0), .val (.int k0), .val (.ref r0), .val (.int (0 : Int32))] [(.int (1 : Int32))]))
    refine own_st (fun t k => XS.goto X4.here hx rfl (pc0 := 32) (pc' := 36) rfl (hb hby at_32) (by decide) (by decide) k) ?_
    show own_Go p e below G (T4.setTop (mkF m 36 #[.val (.int x0), .val (.int k0), .val (.ref r0), .val (.int (0 : Int32))] [(.int (1 : Int32))]))
    rw [hG]
    exact own_retZ X4 hx hlk (t := .boolean) hret (by simp) (hb hby at_36) ⟨rfl, Fr.nil _⟩ (by decide) (by decide)
set_option maxRecDepth 65536 in
set_option maxHeartbeats 40000000 in
theorem comes_1 {Post : Tables → Env → Array Value → State → Outcome → State → Prop} (hpost : ∀ tb e args s v u, (limb_1_1.after args s (.returned v) u = true ∧ limb_1_2.after args s (.returned v) u = true) → FrameEnd s (.returned v) u (Jvm.fieldLocs frame_1_writes args s ++ Jvm.arrayLocs frame_1_arrays args s ++ Jvm.staticLocs frame_1_statics s) 0 0 → Post tb e args s (.returned v) u) :
    ArmFor flags0 classFile x code maxLocals ret World_1 tables_1 room_1 Calls_1 rest_1 Pre_1 Post := by
  intro l hfl _ _ p e ha hc hk s m args below hf hA hF happ hP
  obtain ⟨hcalls, hrest, hpre⟩ := hP
  obtain ⟨-, -, -, hnamed, -, -, -, hat⟩ := (Spec.applies_iff hf).mp happ
  obtain ⟨hg, hn⟩ := and_e (Cond.before_iff.mp (show (Jvm.Cond.and given_1 narrow_1).before args s = true from hpre))
  obtain ⟨gc, gv0⟩ := and_e hg
  obtain ⟨w0, rfl⟩ : ∃ w0 : Value, args = #[w0] := by
    have hs : args.size = 1 := by simpa [Cond.value, given_1] using gc
    obtain ⟨L⟩ := args
    match L, hs with
    | [w0], _ => exact ⟨w0, rfl⟩
  have hw := fun d (hd : d ∈ tables_1) => atoms_spec (ws := Jvm.Cond.code x code maxLocals ret :: tables_1) hat d (List.mem_cons_of_mem _ hd)
  have hfit : Fit s := fun {y c} hc i hi => by
    obtain ⟨ha, rfl⟩ := Array.getElem?_eq_some_iff.mp hc
    have q := List.all_eq_true.mp ((Array.all_eq_true_iff_forall_mem.mp hF) _ (Array.getElem_mem ha)) i (List.mem_range.mpr hi)
    simpa [Array.getElem?_eq_getElem hi] using q
  obtain ⟨i0, ei0⟩ := is_v gv0
  obtain rfl : w0 = (.int i0) := Option.some.inj ei0
  obtain ⟨zxI, hn⟩ := and_e hn
  obtain ⟨zxT, hn⟩ := and_e hn
  obtain ⟨zoT, hn⟩ := and_e hn
  obtain ⟨zoI, hn⟩ := and_e hn
  obtain ⟨zxD, hn⟩ := and_e hn
  obtain ⟨zoD, hn⟩ := and_e hn
  obtain ⟨zxB, hn⟩ := and_e hn
  obtain ⟨zoB, hn⟩ := and_e hn
  obtain ⟨zxY, hn⟩ := and_e hn
  have zoY := hn
  obtain ⟨aI, evI, EI⟩ := own_exa zxI
  have SI := Sta.start evI (Or.inr ⟨(hw _ (List.mem_of_getElem? (i := 6) rfl)), (hw _ (List.mem_of_getElem? (i := 7) rfl))⟩)
  have OI := own_fldI zoI evI
  obtain ⟨aD, evD, ED⟩ := own_exa zxD
  have SD := Sta.start evD (Or.inr ⟨(hw _ (List.mem_of_getElem? (i := 6) rfl)), (hw _ (List.mem_of_getElem? (i := 17) rfl))⟩)
  have OD := own_fldI zoD evD
  obtain ⟨aB, evB, EB⟩ := own_exa zxB
  have SB := Sta.start evB (Or.inr ⟨(hw _ (List.mem_of_getElem? (i := 6) rfl)), (hw _ (List.mem_of_getElem? (i := 19) rfl))⟩)
  have OB := own_fldI zoB evB
  obtain ⟨aT, evT, ET⟩ := own_exa zxT
  have ST := Sta.start evT (Or.inr ⟨(hw _ (List.mem_of_getElem? (i := 6) rfl)), (hw _ (List.mem_of_getElem? (i := 15) rfl))⟩)
  have OT := own_fldI zoT evT
  obtain ⟨aY, evY, EY⟩ := own_exa zxY
  have SY := Sta.start evY (Or.inr ⟨(hw _ (List.mem_of_getElem? (i := 6) rfl)), (hw _ (List.mem_of_getElem? (i := 22) rfl))⟩)
  have OY := own_fldI zoY evY
  have nTI : aT ≠ aI := OT.ne OI (by decide)
  have nTD : aT ≠ aD := OT.ne OD (by decide)
  have nTB : aT ≠ aB := OT.ne OB (by decide)
  have nYI : aY ≠ aI := OY.ne OI (by decide)
  have nYD : aY ≠ aD := OY.ne OD (by decide)
  have nYB : aY ≠ aB := OY.ne OB (by decide)
  obtain ⟨n, o, h1, h2, h3, _, L, rfl, ⟨rfl, N⟩, hq⟩ := rm0 l s _ hw tables_1 i0 aI aD aB aT aY s.heap s.heap.size SI SD SB ST SY EI ED EB ET EY nTI nTD nTB nYI nYD nYB p e ha hc hk s m _ below hf ((Spec.applies_iff_loose hf).mp happ).1 ⟨rfl, State.Warmed39.refl s, rfl⟩ trivial
  refine ⟨n, _, h1, h2, h3, hpost _ _ _ _ _ _ ⟨Cond.after_iff.mpr rfl, Cond.after_iff.mpr (eq_i res_at (Term.int_eval (1)) rfl)⟩ ⟨hq.1, hq.2.1, (hq.2.2.sift fun y hy => Or.inr (N y hy)).mono (by decide) (by decide)⟩⟩
theorem main_1_1 : Claimed_1_1 := comes_1 fun _ _ _ _ _ _ h hF => ⟨h.1, hF⟩
theorem main_1_2 : Claimed_1_2 := comes_1 fun _ _ _ _ _ _ h hF => ⟨h.2, hF⟩
end Jvm.Pilot.@@N@@
namespace Jvm.Pilot.@@N@@
open Jvm Jvm.ClassFile Sem Op Lib Jvm.Free Jvm.Stand Jvm.Pilot.@@N@@.Jvm.D
/-! MADE BY PROGRAM (witnessworld.py) out of the Statement's table words and the real class files: 12 classes; the members and pool entries that the words name. The judged class is class 1, her method 2. -/
namespace start1
open Jvm.ClassFile
def u (s : String) : CpInfo := .utf8 (stringToUtf16 s)
/-- a pool by its gaps: so many unusable entries, then the entry; so many at the end -/
def gap : Nat → List CpInfo → List CpInfo
  | 0, r => r
  | n + 1, r => .unusable :: gap n r
def poolList (es : List (Nat × CpInfo)) (last : Nat) : List CpInfo := es.foldr (fun e r => gap e.1 (e.2 :: r)) (gap last [])
def pool (es : List (Nat × CpInfo)) (last : Nat) : Array CpInfo := ⟨poolList es last⟩
def fileOf (pool : Array CpInfo) (this : Nat) (attrs : Array Attribute := #[]) (ms : Array MethodInfo := #[]) (fl : Nat := 33) (sup : Nat := 0) (ifs : Array Nat := #[]) (fds : Array FieldInfo := #[]) : ClassFile where
  minorVersion := 0
  majorVersion := 65
  constantPool := pool
  accessFlags := fl
  thisClass := this
  superClass := sup
  interfaces := ifs
  fields := fds
  methods := ms
  attributes := attrs
def plain (name : String) (sup : Option ClassId) : Class where
  name := name
  kind := .ordinary
  loader := none
  accessFlags := 33
  super := sup
  interfaces := #[]
  cf := none
  fields := #[]
  methods := #[]
  instanceTypes := #[]
  staticTypes := #[]
  resolved := #[]
  callSites := []
  init := .initialized
  statics := none
  mirror := none

def pool0 : Array CpInfo := pool [(5, u "<init>"), (0, u "()V"), (1, .class_ 10), (1, u "java/lang/Object")] 113

def k0m0 : Method := { name := "<init>", desc := "()V", sig := { parameters := [], returnType := none }, accessFlags := 1, code := none }
/-- java/lang/Object -/
def k0 : Class := { plain "java/lang/Object" none with
  accessFlags := 33
  interfaces := #[]
  cf := some (fileOf pool0 8 #[] #[{ accessFlags := 1, nameIndex := 5, descriptorIndex := 6, attributes := #[] }] 33 0 #[] #[])
  fields := #[]
  methods := #[k0m0]
  instanceTypes := #[]
  staticTypes := #[]
  resolved := Array.replicate 124 none
  statics := none }

def pool1 : Array CpInfo := pool [(2, .class_ 4), (1, u "java/lang/Object"), (0, u "<init>"), (0, u "()V"), (0, .fieldref 8 9), (0, .class_ 10), (0, .nameAndType 11 12), (0, u "com/example/tidewater_cube/tidewatercube/model/FieldType"), (0, u "INTEGER"), (0, u "Lcom/example/tidewater_cube/tidewatercube/model/FieldType;"), (0, .fieldref 8 14), (0, .nameAndType 15 12), (0, u "DECIMAL"), (0, .fieldref 8 17), (0, .nameAndType 18 12), (0, u "DOUBLE"), (0, .fieldref 8 20), (0, .nameAndType 21 12), (0, u "TEXT"), (0, .fieldref 8 23), (0, .nameAndType 24 12), (0, u "DATE"), (0, .integer 2147483647), (0, .methodref 27 28), (0, .class_ 29), (0, .nameAndType 30 31), (0, u "com/example/tidewater_cube/tidewatercube/model/FieldTypeIsNumericPinLaw"), (0, u "pick"), (0, u "(I)Lcom/example/tidewater_cube/tidewatercube/model/FieldType;"), (0, .methodref 8 33), (0, .nameAndType 34 35), (0, u "isNumeric"), (0, u "()Z"), (3, u "law"), (0, u "(I)Z")] 2

def k1m0 : Method := { name := "<init>", desc := "()V", sig := { parameters := [], returnType := none }, accessFlags := 2, code := none }
def k1c1 : Code := { maxStack := 2, maxLocals := 1, code := method_2_code, exceptionTable := #[], attributes := #[] }
def k1m1 : Method := { name := "pick", desc := "(I)Lcom/example/tidewater_cube/tidewatercube/model/FieldType;", sig := { parameters := [.int], returnType := some (.object "com/example/tidewater_cube/tidewatercube/model/FieldType") }, accessFlags := 10, code := some k1c1 }
def k1c2 : Code := { maxStack := 2, maxLocals := 4, code := code, exceptionTable := #[], attributes := #[] }
def k1m2 : Method := { name := "law", desc := "(I)Z", sig := { parameters := [.int], returnType := some .boolean }, accessFlags := 9, code := some k1c2 }
/-- com/example/tidewater_cube/tidewatercube/model/FieldTypeIsNumericPinLaw -/
def k1 : Class := { plain "com/example/tidewater_cube/tidewatercube/model/FieldTypeIsNumericPinLaw" (some 0) with
  accessFlags := 49
  interfaces := #[]
  cf := some (fileOf pool1 27 #[] #[{ accessFlags := 2, nameIndex := 5, descriptorIndex := 6, attributes := #[] }, { accessFlags := 10, nameIndex := 30, descriptorIndex := 31, attributes := #[] }, { accessFlags := 9, nameIndex := 39, descriptorIndex := 40, attributes := #[] }] 49 2 #[] #[])
  fields := #[]
  methods := #[k1m0, k1m1, k1m2]
  instanceTypes := #[]
  staticTypes := #[]
  resolved := Array.replicate 43 none
  statics := none }

def pool2 : Array CpInfo := pool [(1, .class_ 2), (0, u "java/lang/constant/Constable"), (0, .class_ 4), (0, u "java/lang/Object")] 6

/-- java/lang/constant/Constable -/
def k2 : Class := { plain "java/lang/constant/Constable" (some 0) with
  accessFlags := 1537
  interfaces := #[]
  cf := some (fileOf pool2 1 #[] #[] 1537 3 #[] #[])
  fields := #[]
  methods := #[]
  instanceTypes := #[]
  staticTypes := #[]
  resolved := Array.replicate 11 none
  statics := none }

def pool3 : Array CpInfo := pool [(1, .class_ 2), (0, u "java/lang/Comparable"), (0, .class_ 4), (0, u "java/lang/Object")] 7

/-- java/lang/Comparable -/
def k3 : Class := { plain "java/lang/Comparable" (some 0) with
  accessFlags := 1537
  interfaces := #[]
  cf := some (fileOf pool3 1 #[] #[] 1537 3 #[] #[])
  fields := #[]
  methods := #[]
  instanceTypes := #[]
  staticTypes := #[]
  resolved := Array.replicate 12 none
  statics := none }

def pool4 : Array CpInfo := pool [(1, .class_ 2), (0, u "java/io/Serializable"), (0, .class_ 4), (0, u "java/lang/Object")] 2

/-- java/io/Serializable -/
def k4 : Class := { plain "java/io/Serializable" (some 0) with
  accessFlags := 1537
  interfaces := #[]
  cf := some (fileOf pool4 1 #[] #[] 1537 3 #[] #[])
  fields := #[]
  methods := #[]
  instanceTypes := #[]
  staticTypes := #[]
  resolved := Array.replicate 7 none
  statics := none }

def pool5 : Array CpInfo := pool [(2, .class_ 4), (1, u "java/lang/Enum"), (0, u "name"), (0, u "Ljava/lang/String;"), (2, u "ordinal"), (0, u "I"), (1, .class_ 14), (1, u "java/lang/Object"), (4, u "hash"), (86, .class_ 108), (1, u "java/lang/Enum$EnumDesc"), (2, .class_ 112), (0, u "java/lang/constant/Constable"), (0, .class_ 114), (0, u "java/lang/Comparable"), (0, .class_ 116), (0, u "java/io/Serializable")] 87

/-- java/lang/Enum -/
def k5 : Class := { plain "java/lang/Enum" (some 0) with
  accessFlags := 1057
  interfaces := #[2, 3, 4]
  cf := some (fileOf pool5 2 #[.nestMembers #[106]] #[] 1057 12 #[111, 113, 115] #[{ accessFlags := 18, nameIndex := 5, descriptorIndex := 6, attributes := #[] }, { accessFlags := 18, nameIndex := 9, descriptorIndex := 10, attributes := #[] }, { accessFlags := 2, nameIndex := 19, descriptorIndex := 10, attributes := #[] }])
  fields := #[{ name := "name", type := (.object "java/lang/String"), accessFlags := 18, slot := 0, constantValue := 0 }, { name := "ordinal", type := .int, accessFlags := 18, slot := 1, constantValue := 0 }, { name := "hash", type := .int, accessFlags := 2, slot := 2, constantValue := 0 }]
  methods := #[]
  instanceTypes := #[(.object "java/lang/String"), .int, .int]
  staticTypes := #[]
  resolved := Array.replicate 204 none
  statics := none }

def pool6 : Array CpInfo := pool [(1, .class_ 2), (0, u "com/example/tidewater_cube/tidewatercube/model/FieldType"), (0, .fieldref 1 4), (0, .nameAndType 5 6), (0, u "INTEGER"), (0, u "Lcom/example/tidewater_cube/tidewatercube/model/FieldType;"), (0, .fieldref 1 8), (0, .nameAndType 9 6), (0, u "DECIMAL"), (0, .fieldref 1 11), (0, .nameAndType 12 6), (0, u "DOUBLE"), (2, u "TEXT"), (2, u "DATE"), (2, u "$VALUES"), (0, u "[Lcom/example/tidewater_cube/tidewatercube/model/FieldType;"), (6, .class_ 31), (1, u "java/lang/Enum"), (61, u "isNumeric"), (0, u "()Z")] 26

def k6c0 : Code := { maxStack := 2, maxLocals := 1, code := prog_18_method_6_code, exceptionTable := #[], attributes := #[] }
def k6m0 : Method := { name := "isNumeric", desc := "()Z", sig := { parameters := [], returnType := some .boolean }, accessFlags := 1, code := some k6c0 }
/-- com/example/tidewater_cube/tidewatercube/model/FieldType -/
def k6 : Class := { plain "com/example/tidewater_cube/tidewatercube/model/FieldType" (some 5) with
  accessFlags := 16433
  interfaces := #[]
  cf := some (fileOf pool6 1 #[] #[{ accessFlags := 1, nameIndex := 93, descriptorIndex := 94, attributes := #[] }] 16433 29 #[] #[{ accessFlags := 16409, nameIndex := 5, descriptorIndex := 6, attributes := #[] }, { accessFlags := 16409, nameIndex := 9, descriptorIndex := 6, attributes := #[] }, { accessFlags := 16409, nameIndex := 12, descriptorIndex := 6, attributes := #[] }, { accessFlags := 16409, nameIndex := 15, descriptorIndex := 6, attributes := #[] }, { accessFlags := 16409, nameIndex := 18, descriptorIndex := 6, attributes := #[] }, { accessFlags := 4122, nameIndex := 21, descriptorIndex := 22, attributes := #[] }])
  fields := #[{ name := "INTEGER", type := (.object "com/example/tidewater_cube/tidewatercube/model/FieldType"), accessFlags := 16409, slot := 0, constantValue := 0 }, { name := "DECIMAL", type := (.object "com/example/tidewater_cube/tidewatercube/model/FieldType"), accessFlags := 16409, slot := 1, constantValue := 0 }, { name := "DOUBLE", type := (.object "com/example/tidewater_cube/tidewatercube/model/FieldType"), accessFlags := 16409, slot := 2, constantValue := 0 }, { name := "TEXT", type := (.object "com/example/tidewater_cube/tidewatercube/model/FieldType"), accessFlags := 16409, slot := 3, constantValue := 0 }, { name := "DATE", type := (.object "com/example/tidewater_cube/tidewatercube/model/FieldType"), accessFlags := 16409, slot := 4, constantValue := 0 }, { name := "$VALUES", type := (.array (.object "com/example/tidewater_cube/tidewatercube/model/FieldType")), accessFlags := 4122, slot := 5, constantValue := 0 }]
  methods := #[k6m0]
  instanceTypes := #[(.object "java/lang/String"), .int, .int]
  staticTypes := #[(.object "com/example/tidewater_cube/tidewatercube/model/FieldType"), (.object "com/example/tidewater_cube/tidewatercube/model/FieldType"), (.object "com/example/tidewater_cube/tidewatercube/model/FieldType"), (.object "com/example/tidewater_cube/tidewatercube/model/FieldType"), (.object "com/example/tidewater_cube/tidewatercube/model/FieldType"), (.array (.object "com/example/tidewater_cube/tidewatercube/model/FieldType"))]
  resolved := Array.replicate 121 none
  statics := some 0 }

def pool7 : Array CpInfo := pool [(1, u "java/lang/Cloneable"), (0, .class_ 1), (0, u "java/lang/Object"), (0, .class_ 3)] 3

/-- java/lang/Cloneable -/
def k7 : Class := { plain "java/lang/Cloneable" (some 0) with
  accessFlags := 1537
  interfaces := #[]
  cf := some (fileOf pool7 2 #[] #[] 1537 4 #[] #[])
  fields := #[]
  methods := #[]
  instanceTypes := #[]
  staticTypes := #[]
  resolved := Array.replicate 8 none
  statics := none }

/-- the primitive byte -/
def k8 : Class := { plain "byte" none with kind := .primitive 'B', accessFlags := 0x411 }
/-- [B -/
def k9 : Class := { plain "[B" (some 0) with kind := .array 8 .byte, interfaces := #[7, 4], accessFlags := 1041 }

/-- the primitive int -/
def k10 : Class := { plain "int" none with kind := .primitive 'I', accessFlags := 0x411 }
/-- [I -/
def k11 : Class := { plain "[I" (some 0) with kind := .array 10 .int, interfaces := #[7, 4], accessFlags := 1041 }

def heap : Heap := #[{ cls := 6, slots := #[.ref 1, .ref 2, .ref 3, .ref 4, .ref 5, .null], vm := .statics 6 },
  { cls := 6, slots := #[.null, .int 0, .int 0], vm := .none },
  { cls := 6, slots := #[.null, .int 1, .int 0], vm := .none },
  { cls := 6, slots := #[.null, .int 2, .int 0], vm := .none },
  { cls := 6, slots := #[.null, .int 3, .int 0], vm := .none },
  { cls := 6, slots := #[.null, .int 4, .int 0], vm := .none }]
def classes : Array Class := #[k0, k1, k2, k3, k4, k5, k6, k7, k8, k9, k10, k11]
def interned : List (Array UInt16 × Addr) := []
def slotsUsed : Nat := 21
def theMethod : MethodId := ⟨1, 2⟩
def args0 : Array Value := #[.int 5]
def aboutOver (below : List Frame) : State where
  vm := { classes := classes, interned := interned.toArray }
  heap := heap
  slotsUsed := slotsUsed
  threads := #[{ frames := .invoking theMethod args0 :: below }]
def below0 : List Frame := [.native { method := ⟨0, 0⟩, args := #[] }]
def about1 : State := aboutOver below0
def p0 : Program := .bare "" "" ""
def e0 : Env := launch0.env 0 0 0
theorem w_frames : about1.frames = Frame.invoking theMethod args0 :: below0 := rfl
set_option maxRecDepth 65536 in
theorem w_args : argsFit about1.vm theMethod args0 = true := by decide +kernel
set_option maxRecDepth 65536 in
theorem w_heap : heapFits about1 = true := by decide +kernel
set_option maxRecDepth 65536 in
theorem w_runnable : about1.curStatus? = some .runnable := by decide +kernel
set_option maxRecDepth 65536 in
theorem w_alone : about1.alone = true := by decide +kernel
set_option maxRecDepth 65536 in
theorem w_named : about1.methodNamed? x = some theMethod := by decide +kernel
set_option maxRecDepth 65536 in
theorem w_hears : about1.hears theMethod below0 = true := by decide +kernel
set_option maxRecDepth 65536 in
theorem w_ripe : about1.ripe theMethod args0 below0 = true := by decide +kernel
theorem w_running : about1.status = .running := rfl
set_option maxRecDepth 65536 in
theorem w_room : about1.hasRoom e0.platform room_1 = true :=
  launch0.hasRoom_least _ room_1 (by decide +kernel) (by decide +kernel) (by decide +kernel) (by decide +kernel) (by decide +kernel) (by decide +kernel)
theorem allAtoms_all (ts : List Jvm.Cond) (a : Array Jvm.Value) (st : Jvm.State) : (allAtoms ts).before a st = ts.all (fun c => c.before a st) := by
  induction ts with
  | nil => rfl
  | cons c t ih =>
    show (Jvm.Cond.and c (allAtoms t)).before a st = _
    rw [Jvm.Cond.before_and, ih, List.all_cons]
def words1 : List Jvm.Cond := Jvm.Cond.code x code maxLocals ret :: tables_1
/-- a 'code' word, met by the world's own term for the bytes: nothing is compared byte by byte -/
theorem code_word {y : MethodName} {bytes : ByteArray} {mx : Nat} {rt : Option FieldType} {a : Array Value} {s : State} {m : MethodId} {meth : Method} {c : Code} (h1 : s.methodNamed? y = some m) (h2 : s.vm.method? m = some meth) (h3 : meth.code = some c) (h4 : c.code = bytes)
    (h5 : (c.maxLocals == mx && c.exceptionTable.isEmpty && decide (c.maxStack ≤ mostOperands) && decide (meth.sig.returnType = rt) && !meth.locks && decide (parseMethodDescriptor y.desc = some meth.sig)) = true) : (Jvm.Cond.code y bytes mx rt).before a s = true := by
  simp only [Bool.and_eq_true, beq_iff_eq, Bool.not_eq_true', decide_eq_true_eq] at h5
  obtain ⟨⟨⟨⟨⟨g1, g2⟩, g3⟩, g4⟩, g5⟩, g6⟩ := h5
  simp [Cond.before, Cond.holds, Cond.value, h1, h2, h3, h4, g1, g2, g3, g4, g5, g6]
def isCode : Jvm.Cond → Bool
  | .code _ _ _ _ => true
  | _ => false
theorem all_split {L : List Jvm.Cond} {P : Jvm.Cond → Bool} (h1 : L.all (fun c => isCode c || P c) = true) (h2 : ∀ c ∈ L.filter isCode, P c = true) : L.all P = true := by
  refine List.all_eq_true.mpr fun c hc => ?_
  have h := List.all_eq_true.mp h1 c hc
  rcases Bool.eq_false_or_eq_true (isCode c) with hi | hi
  · exact h2 c (List.mem_filter.mpr ⟨hc, hi⟩)
  · simpa [hi] using h
set_option maxRecDepth 65536 in
theorem w_c0 : (Jvm.Cond.code x code maxLocals ret).before args0 about1 = true := code_word (m := ⟨1, 2⟩) (meth := k1m2) (c := k1c2) (by decide +kernel) rfl rfl rfl (by decide +kernel)
set_option maxRecDepth 65536 in
theorem w_c1 : (Jvm.Cond.code ({ cls := "com/example/tidewater_cube/tidewatercube/model/FieldTypeIsNumericPinLaw", name := "pick", desc := "(I)Lcom/example/tidewater_cube/tidewatercube/model/FieldType;" } : Jvm.MethodName) method_2_code (1 : Nat) (Option.some (Jvm.ClassFile.FieldType.object "com/example/tidewater_cube/tidewatercube/model/FieldType"))).before args0 about1 = true := code_word (m := ⟨1, 1⟩) (meth := k1m1) (c := k1c1) (by decide +kernel) rfl rfl rfl (by decide +kernel)
set_option maxRecDepth 65536 in
theorem w_c2 : (Jvm.Cond.code ({ cls := "com/example/tidewater_cube/tidewatercube/model/FieldType", name := "isNumeric", desc := "()Z" } : Jvm.MethodName) prog_18_method_6_code (1 : Nat) (Option.some Jvm.ClassFile.FieldType.boolean)).before args0 about1 = true := code_word (m := ⟨6, 0⟩) (meth := k6m0) (c := k6c0) (by decide +kernel) rfl rfl rfl (by decide +kernel)
def codes1 : List Jvm.Cond := [Jvm.Cond.code x code maxLocals ret, Jvm.Cond.code ({ cls := "com/example/tidewater_cube/tidewatercube/model/FieldTypeIsNumericPinLaw", name := "pick", desc := "(I)Lcom/example/tidewater_cube/tidewatercube/model/FieldType;" } : Jvm.MethodName) method_2_code (1 : Nat) (Option.some (Jvm.ClassFile.FieldType.object "com/example/tidewater_cube/tidewatercube/model/FieldType")), Jvm.Cond.code ({ cls := "com/example/tidewater_cube/tidewatercube/model/FieldType", name := "isNumeric", desc := "()Z" } : Jvm.MethodName) prog_18_method_6_code (1 : Nat) (Option.some Jvm.ClassFile.FieldType.boolean)]
set_option maxRecDepth 65536 in
theorem codes_eq : words1.filter isCode = codes1 := rfl
theorem w_codes : ∀ c ∈ words1.filter isCode, c.before args0 about1 = true := by
  rw [codes_eq]
  intro c hc
  simp only [codes1, List.mem_cons, List.not_mem_nil, or_false] at hc
  rcases hc with rfl | rfl | rfl
  · exact w_c0
  · exact w_c1
  · exact w_c2
set_option maxRecDepth 65536 in
theorem w_t1 : (words1.take 24).all (fun c => isCode c || c.before args0 about1) = true := by decide +kernel
set_option maxRecDepth 65536 in
theorem w_t2 : (words1.drop 24).all (fun c => isCode c || c.before args0 about1) = true := by decide +kernel
theorem w_tables : (allAtoms (Jvm.Cond.code x code maxLocals ret :: tables_1)).before args0 about1 = true := by
  rw [allAtoms_all]
  show words1.all (fun c => c.before args0 about1) = true
  refine all_split ?_ w_codes
  rw [← List.take_append_drop 24 words1, List.all_append, w_t1, w_t2]
  rfl
set_option maxRecDepth 65536 in
theorem w_case : (Jvm.Cond.and given_1 narrow_1).before args0 about1 = true := by decide +kernel
theorem w_applies : (headSpec (Jvm.Cond.code x code maxLocals ret :: tables_1) room_1).applies x e0.platform about1 = true :=
  (Spec.applies_iff w_frames).mpr ⟨w_running, w_runnable, w_alone, w_named, w_hears, w_ripe, w_room, w_tables⟩
theorem atStart : AtStart classFile x code maxLocals ret World_1 tables_1 room_1 Calls_1 rest_1 Pre_1 launch0 p0 e0 about1 theMethod args0 below0 :=
  ⟨lists_1, trivial, launch0.admits_env _ _ _, launch0.least_env, fairChoices_fair.cas, fairChoices_fair.clock, w_frames, w_args, w_heap, w_applies, trivial, trivial, w_case⟩
end start1
theorem witness_1 : WitnessClaimed_1 := ⟨start1.p0, start1.e0, start1.about1, start1.theMethod, start1.args0, start1.below0, start1.atStart⟩
end Jvm.Pilot.@@N@@
