import JvmDerived
import JvmDerived.Pilot.@@N@@Statement
import JvmDerived.Pilot.@@N@@Code
set_option linter.unusedVariables false
set_option linter.unusedSimpArgs false
namespace Jvm.RoadKit
open Sem ClassFile Op Lib Jvm.Stand Jvm.Free Jvm.LawKit
section New
variable {p : Program} {l : Launch} {e : Env} {R : Room} {s : State} {m : MethodId} {args : Array Value} {below : List Frame} {meth : Method} {c : Code} {T : State} {locs : List Loc} {cells slots : Nat}
theorem retI (X : Stand p l e R s m args below meth c T locs cells slots) (hx : p.tables.exec = Jvm.exec) {pc : Nat} {Ls : Array Slot} {z : Int32} {rest : List Value} (hret : meth.sig.returnType = some .int) (hd : decode c.code pc = .ok (.ireturn, 1)) {fs : List Frame}
    (hl : ∀ (f : JFrame) (acts : List Action), f.method = m → f.locked = none → f.entered = [] → (doReturn e (T.setTop f) acts (some (.int z))).1 = T.setFrames fs) : Steps p.tables e below (T.setTop (mkF m pc Ls (.int z :: rest))) (T.setFrames fs) := by
  have hm' : T.vm.method? m = some meth := X.method'
  have hn : narrow .int (.int z) = .int z := rfl
  show Steps p.tables e below (T.setTop { method := m, pc := pc, locals := Ls, stack := _ :: rest, locked := none }) _
  jvm_step X.here [X.here.top, hx, hd, hm', hret, hn]
  first | (intro acts; rw [hl _ acts rfl rfl rfl]) | rw [hl _ _ rfl rfl rfl]
  exact Steps.refl _
/-- where a run is to come: it has ended, returning, with Q of what it returned, its heap and what it wrote -/
def own_End (s : State) (below : List Frame) (Q : Option Value → Heap → List Loc → Prop) (cc nn : Nat) (t : State) (o : Outcome) : Prop :=
  t.status = .running ∧ Ended t below o ∧ ∃ v L, o = .returned v ∧ Q v t.heap L ∧ FrameEnd s o t L cc nn
/-- from A the run comes to such an end -/
def own_Go (p : Program) (e : Env) (below : List Frame) (G : State → Outcome → Prop) (A : State) : Prop := ∃ t o, Steps p.tables e below A t ∧ G t o
theorem own_st {G : State → Outcome → Prop} {A B : State} (h : ∀ t, Steps p.tables e below B t → Steps p.tables e below A t) (k : own_Go p e below G B) : own_Go p e below G A := by
  obtain ⟨t, o, h1, h2⟩ := k
  exact ⟨t, o, h t h1, h2⟩
theorem own_retZ (X : Stand p l e R s m args below meth c T locs cells slots) (hx : p.tables.exec = Jvm.exec) (hlk : meth.locks = false) {t : FieldType} (hret : meth.sig.returnType = some t) (ht : t = .boolean ∨ t = .byte ∨ t = .char ∨ t = .short)
    {pc : Nat} {Ls : Array Slot} {z : Int32} {rest : List Value} (hd : decode c.code pc = .ok (.ireturn, 1)) {Q : Option Value → Heap → List Loc → Prop} {cc nn : Nat} (hq : Q (some (.int (nar t z))) T.heap locs) (hc : cells ≤ cc) (hn : slots ≤ nn) :
    own_Go p e below (own_End s below Q cc nn) (T.setTop (mkF m pc Ls (.int z :: rest))) := by
  obtain ⟨fs, hr, hrun, hended, hW, hsame⟩ := X.leave (v := some (.int (nar t z))) (fun h => by rw [hret] at h; cases h) hlk
  exact ⟨_, _, retN X hx hret ht hd hr, hrun, hended, _, _, rfl, hq, ⟨_, rfl⟩, hW, hsame.mono hc hn⟩
theorem own_retI (X : Stand p l e R s m args below meth c T locs cells slots) (hx : p.tables.exec = Jvm.exec) (hlk : meth.locks = false) (hret : meth.sig.returnType = some .int)
    {pc : Nat} {Ls : Array Slot} {z : Int32} {rest : List Value} (hd : decode c.code pc = .ok (.ireturn, 1)) {Q : Option Value → Heap → List Loc → Prop} {cc nn : Nat} (hq : Q (some (.int z)) T.heap locs) (hc : cells ≤ cc) (hn : slots ≤ nn) :
    own_Go p e below (own_End s below Q cc nn) (T.setTop (mkF m pc Ls (.int z :: rest))) := by
  obtain ⟨fs, hr, hrun, hended, hW, hsame⟩ := X.leave (v := some (.int z)) (fun h => by rw [hret] at h; cases h) hlk
  exact ⟨_, _, retI X hx hret hd hr, hrun, hended, _, _, rfl, hq, ⟨_, rfl⟩, hW, hsame.mono hc hn⟩
theorem own_retA (X : Stand p l e R s m args below meth c T locs cells slots) (hx : p.tables.exec = Jvm.exec) (hlk : meth.locks = false) {ty : FieldType} (hret : meth.sig.returnType = some ty) (hty : ty.isReference = true)
    {pc : Nat} {Ls : Array Slot} {v : Value} (hv : v.isRef = true) {rest : List Value} (hd : decode c.code pc = .ok (.areturn, 1)) {Q : Option Value → Heap → List Loc → Prop} {cc nn : Nat} (hq : Q (some v) T.heap locs) (hc : cells ≤ cc) (hn : slots ≤ nn) :
    own_Go p e below (own_End s below Q cc nn) (T.setTop (mkF m pc Ls (v :: rest))) := by
  obtain ⟨fs, hr, hrun, hended, hW, hsame⟩ := X.leave (v := some v) (fun h => by rw [hret] at h; cases h) hlk
  refine ⟨_, _, ?_, hrun, hended, _, _, rfl, hq, ⟨_, rfl⟩, hW, hsame.mono hc hn⟩
  have hm' : T.vm.method? m = some meth := X.method'
  show Steps p.tables e below (T.setTop { method := m, pc := pc, locals := Ls, stack := _ :: rest, locked := none }) _
  jvm_step X.here [X.here.top, hx, hd, hm', hret, hv, hty]
  first | (intro acts; rw [hr _ acts rfl rfl rfl]) | rw [hr _ _ rfl rfl rfl]
  exact Steps.refl _
theorem own_retV (X : Stand p l e R s m args below meth c T locs cells slots) (hx : p.tables.exec = Jvm.exec) (hlk : meth.locks = false) (hret : meth.sig.returnType = none)
    {pc : Nat} {Ls : Array Slot} (hd : decode c.code pc = .ok (.return_, 1)) {Q : Option Value → Heap → List Loc → Prop} {cc nn : Nat} (hq : Q none T.heap locs) (hc : cells ≤ cc) (hn : slots ≤ nn) :
    own_Go p e below (own_End s below Q cc nn) (T.setTop (mkF m pc Ls [])) := by
  obtain ⟨fs, hr, hrun, hended, hW, hsame⟩ := X.leave (v := none) (fun _ => rfl) hlk
  exact ⟨_, _, X.returnOut hx hret hd hr, hrun, hended, _, _, rfl, hq, ⟨_, rfl⟩, hW, hsame.mono hc hn⟩
/-- a body's contract: called with these values over this heap it returns, with Q -/
def own_Met (l : Launch) (Z : State) (y : MethodName) (bytes : ByteArray) (maxL : Nat) (ret : Option FieldType) (ws : List Cond) (rm : Room) (as' : Array Value) (h0 : Heap) (Q : Option Value → Heap → List Loc → Prop) : Prop :=
  MetFree l y (head1 (Cond.code y bytes maxL ret :: ws) rm) (fun a U => a = as' ∧ Z.Warmed39 U.vm ∧ U.heap = h0) (fun _ _ _ _ _ => True) (fun _ U o U' => ∃ v L, o = .returned v ∧ Q v U'.heap L ∧ FrameEnd U o U' L rm.cells rm.slots)
theorem own_body {Z : State} {y : MethodName} {bytes : ByteArray} {maxL : Nat} {ret : Option FieldType} {ws : List Cond} {rm : Room} {as' : Array Value} {h0 : Heap} {Q : Option Value → Heap → List Loc → Prop} (hpl : plainFor y = true)
    (k : ∀ (p : Program) (e : Env) (s : State) (m : MethodId) (below : List Frame) (meth : Method) (c : Code) (s₁ : State), p.tables.exec = Jvm.exec → c.code = bytes → c.maxLocals = maxL → s.vm.findClass y.cls = some m.cls → meth.name = y.name → meth.sig.returnType = ret → meth.locks = false → Z.Warmed39 s.vm →
      Stand p l e rm s m as' below meth c s₁ [] 0 0 → s₁.heap = h0 → ∀ G, G = own_End s below Q rm.cells rm.slots → own_Go p e below G (s₁.setTop (entryFrame m as' maxL))) :
    own_Met l Z y bytes maxL ret ws rm as' h0 Q := by
  refine MetFree.of_bodySF hpl hisR ?_
  intro p e s m args below meth c s₁ Bd hml0 hP hK
  obtain ⟨rfl, hZ, hh⟩ := hP
  have e0 : s₁.heap = h0 := by rw [← hh, Bd.state]; rfl
  exact k p e s m below meth c s₁ Bd.exec Bd.bytes hml0 (findClass_of_methodNamed Bd.named) (name_of_methodNamed Bd.named Bd.method).1 Bd.returns Bd.notSynchronized hZ (Stand.of_body Bd) e0 _ rfl
section Calls
variable {Z : State} {a0 : Array Value} {h : Heap}
theorem own_callS (X : Stand p l e R s m args below meth c T locs cells slots) (hx : p.tables.exec = Jvm.exec) (hZ : Z.Warmed39 s.vm) {own : String} {index : Nat} {y : MethodName} {bytes : ByteArray} {maxL : Nat} {ret : Option FieldType} (hown : s.vm.findClass own = some m.cls)
    (w1 : (Cond.methodLink own index y).before a0 Z = true) (w2 : (Cond.static y).before a0 Z = true) (w3 : (Cond.initialized y.cls).before a0 Z = true) (w4 : (Cond.code y bytes maxL ret).before a0 Z = true)
    (hy : y.cls ≠ "java/lang/invoke/MethodHandle" ∧ y.cls ≠ "java/lang/invoke/VarHandle") {rm : Room} {as' : Array Value} {Q : Option Value → Heap → List Loc → Prop} {W : Nat} (hM : own_Met l Z y bytes maxL ret [] rm as' h Q)
    (hf : rm.frames + 1 ≤ R.frames) (hl : W + (maxL + 11) + rm.locals ≤ R.locals) (eT : T.heap = h) {g : JFrame} (hg : g.method = m) (hsize : g.locals.size = c.maxLocals) {argsL rest : List Value}
    {ps : List FieldType} {r : Option FieldType} (hd : parseMethodDescriptor y.desc = some ⟨ps, r⟩) (hlen : argsL.length = ps.length) (hstack : g.stack = argsL.reverse ++ rest) (hW : 2 * g.monitorRoom + (rest.map fun v => v.category).sum ≤ W)
    (hdg : decode c.code g.pc = .ok (.invokestatic index, 3)) (ha : argsL.toArray = as') (hc : cells + rm.cells ≤ R.cells) (hn : slots + rm.slots ≤ R.slots) :
    ∃ (v : Option Value) (T' : State) (L : List Loc), Stand p l e R s m args below meth c T' (locs ++ L) (cells + rm.cells) (slots + rm.slots) ∧ Q v T'.heap L ∧
      ∀ target, Steps p.tables e below (T'.setTop { g with pc := g.pc + 3, stack := v.toList ++ rest }) target → Steps p.tables e below (T.setTop g) target := by
  obtain ⟨v, vm1, ⟨T', L', k', n'⟩, -, X', ⟨Lc, hQ, l1, l2, l3⟩, st⟩ := Jvm.LawKit.callS X hx (y := y) hown (mvT hZ w1) (mvT hZ w2) (mvT hZ w3) (mvT hZ w4) hy (backOf (W := W) hM hZ w4 w3 hf hl) hg hsize (argsL := argsL) (rest := rest) (lenOf hd hlen) hstack hW hdg (fun _ _ => ⟨ha, eT, hc, hn⟩)
  dsimp only [Pt.U, Pt.locs, Pt.cells, Pt.slots] at X' l1 l2 l3 st hQ
  subst l1 l2 l3
  exact ⟨v, T', Lc, X', hQ, st⟩
theorem own_callC (X : Stand p l e R s m args below meth c T locs cells slots) (hx : p.tables.exec = Jvm.exec) (hZ : Z.Warmed39 s.vm) {own : String} {index : Nat} {y : MethodName} {bytes : ByteArray} {maxL : Nat} (hn1 : y.name = "<init>") (hown : s.vm.findClass own = some m.cls)
    (w1 : (Cond.methodLink own index y).before a0 Z = true) (w2 : (Cond.instanceMethod y).before a0 Z = true) (w3 : (Cond.initialized y.cls).before a0 Z = true) (w4 : (Cond.code y bytes maxL none).before a0 Z = true)
    (hy : y.cls ≠ "java/lang/invoke/MethodHandle" ∧ y.cls ≠ "java/lang/invoke/VarHandle") {rm : Room} {as' : Array Value} {Q : Option Value → Heap → List Loc → Prop} {W : Nat} (hM : own_Met l Z y bytes maxL none [] rm as' h Q)
    (hf : rm.frames + 1 ≤ R.frames) (hl : W + (maxL + 11) + rm.locals ≤ R.locals) (eT : T.heap = h) {g : JFrame} (hg : g.method = m) (hsize : g.locals.size = c.maxLocals) {a : Addr} {argsL rest : List Value}
    {ps : List FieldType} {r : Option FieldType} (hd : parseMethodDescriptor y.desc = some ⟨ps, r⟩) (hlen : argsL.length = ps.length) (hstack : g.stack = argsL.reverse ++ .ref a :: rest) (hW : 2 * g.monitorRoom + (rest.map fun v => v.category).sum ≤ W)
    (hdg : decode c.code g.pc = .ok (.invokespecial index, 3)) (ha : (.ref a :: argsL).toArray = as') (hc : cells + rm.cells ≤ R.cells) (hn : slots + rm.slots ≤ R.slots) :
    ∃ (v : Option Value) (T' : State) (L : List Loc), Stand p l e R s m args below meth c T' (locs ++ L) (cells + rm.cells) (slots + rm.slots) ∧ Q v T'.heap L ∧
      ∀ target, Steps p.tables e below (T'.setTop { g with pc := g.pc + 3, stack := v.toList ++ rest }) target → Steps p.tables e below (T.setTop g) target := by
  obtain ⟨v, vm1, ⟨T', L', k', n'⟩, -, X', ⟨Lc, hQ, l1, l2, l3⟩, st⟩ := X.specialBack hx (y := y) hn1 hown (mvT hZ w1) (mvT hZ w2) (mvT hZ w4) hy (backOf (W := W) hM hZ w4 w3 hf hl) hg hsize (Steps.refl _) (a := a) (argsL := argsL) (rest := rest) (lenOf hd hlen) hstack hW hdg (fun _ _ => ⟨ha, eT, hc, hn⟩)
  dsimp only [Pt.U, Pt.locs, Pt.cells, Pt.slots] at X' l1 l2 l3 st hQ
  subst l1 l2 l3
  exact ⟨v, T', Lc, X', hQ, fun t k => st.trans k⟩
theorem own_callV (X : Stand p l e R s m args below meth c T locs cells slots) (hx : p.tables.exec = Jvm.exec) (hZ : Z.Warmed39 s.vm) {own C : String} {index : Nat} {y z : MethodName} {bytes : ByteArray} {maxL : Nat} {ret : Option FieldType} (hown : s.vm.findClass own = some m.cls)
    (w1 : (Cond.methodLink own index y).before a0 Z = true) (w2 : (Cond.declares y).before a0 Z = true) (hnf : NotFace s y) (w5 : (Cond.selects C y z).before a0 Z = true) (w6 : (Cond.instanceMethod z).before a0 Z = true) (w3 : (Cond.initialized z.cls).before a0 Z = true) (w4 : (Cond.code z bytes maxL ret).before a0 Z = true)
    (hy : y.cls ≠ "java/lang/invoke/MethodHandle" ∧ y.cls ≠ "java/lang/invoke/VarHandle") {rm : Room} {as' : Array Value} {Q : Option Value → Heap → List Loc → Prop} {W : Nat} (hM : own_Met l Z z bytes maxL ret [] rm as' h Q)
    (hf : rm.frames + 1 ≤ R.frames) (hl : W + (maxL + 11) + rm.locals ≤ R.locals) (eT : T.heap = h) {a : Addr} (E : Exa Z h a C) {g : JFrame} (hg : g.method = m) (hsize : g.locals.size = c.maxLocals) {argsL rest : List Value}
    {ps : List FieldType} {r : Option FieldType} (hd : parseMethodDescriptor y.desc = some ⟨ps, r⟩) (hlen : argsL.length = ps.length) (hstack : g.stack = argsL.reverse ++ .ref a :: rest) (hW : 2 * g.monitorRoom + (rest.map fun v => v.category).sum ≤ W)
    (hdg : decode c.code g.pc = .ok (.invokevirtual index, 3)) (ha : (.ref a :: argsL).toArray = as') (hc : cells + rm.cells ≤ R.cells) (hn : slots + rm.slots ≤ R.slots) :
    ∃ (v : Option Value) (T' : State) (L : List Loc), Stand p l e R s m args below meth c T' (locs ++ L) (cells + rm.cells) (slots + rm.slots) ∧ Q v T'.heap L ∧
      ∀ target, Steps p.tables e below (T'.setTop { g with pc := g.pc + 3, stack := v.toList ++ rest }) target → Steps p.tables e below (T.setTop g) target := by
  obtain ⟨cq, kq, q1, q2, q3⟩ := isOf hZ eT E
  obtain ⟨v, vm1, ⟨T', L', k', n'⟩, -, X', ⟨Lc, hQ, l1, l2, l3⟩, st⟩ := X.virtualBack hx (y := y) (z := z) hown (mvT hZ w1) (mvT hZ w2) hnf (mvT hZ w5) (mvT hZ w6) hy (backOf (W := W) hM hZ w4 w3 hf hl) q1 q3 hg hsize (Steps.refl _) (argsL := argsL) (rest := rest) (lenOf hd hlen) hstack hW hdg (fun _ _ => ⟨ha, eT, hc, hn⟩)
  dsimp only [Pt.U, Pt.locs, Pt.cells, Pt.slots] at X' l1 l2 l3 st hQ
  subst l1 l2 l3
  exact ⟨v, T', Lc, X', hQ, fun t k => st.trans k⟩
end Calls
section Words
variable {Z : State} {a0 : Array Value}
theorem own_exa {t : Term} {C : String} (h : (Cond.exactly t C).value a0 Z none Z [] = some true) : ∃ a, t.eval a0 Z none [] Z = some (.ref a) ∧ Exa Z Z.heap a C := by
  obtain ⟨a, e⟩ := exa_v h
  exact ⟨a, e, Exa.start e h⟩
theorem own_fldI {t : Term} {O n d : String} {k : Int32} {a : Addr} (h : (Cond.eq (.field t O n d) (.int k)).value a0 Z none Z [] = some true) (e : t.eval a0 Z none [] Z = some (.ref a)) : Fld Z Z.heap a O n d (.int k) := by
  obtain ⟨x, y, h1, h2, h3, h4⟩ := cmp_v (Or.inl h)
  cases (Term.int_eval k).symm.trans h2
  obtain ⟨q, rfl⟩ := h4
  obtain rfl := gotT (Cond.eq_ints h1 (Term.int_eval k)) h
  exact Fld.start ((fld_at e).symm.trans h1)
theorem own_fldJ {t : Term} {O n d : String} {k : Int64} {a : Addr} (h : (Cond.eq (.field t O n d) (.long k)).value a0 Z none Z [] = some true) (e : t.eval a0 Z none [] Z = some (.ref a)) : Fld Z Z.heap a O n d (.long k) := by
  obtain ⟨x, y, h1, h2, h3, h4⟩ := cmp_v (Or.inl h)
  cases (long_at k).symm.trans h2
  obtain ⟨q, rfl⟩ := h4
  obtain rfl := gotT (eq_L h1 (long_at k)) h
  exact Fld.start ((fld_at e).symm.trans h1)
theorem own_el {t u : Term} {i : Int32} {ca a : Addr} {cl : Cell} (h : (Cond.eq (.elem t (.int i)) u).value a0 Z none Z [] = some true) (ht : t.eval a0 Z none [] Z = some (.ref ca)) (hu : u.eval a0 Z none [] Z = some (.ref a)) (hc : Z.heap[ca]? = some cl) : cl.slots[i.toNatClampNeg]? = some (.ref a) := by
  obtain ⟨x, y, h1, h2, h3, h4⟩ := cmp_v (Or.inl h)
  cases hu.symm.trans h2
  have hx : x.isRef = true := by cases x <;> simp [Kin, Value.isRef] at h3 h4 ⊢
  have e := gotT (eq_R h1 h2 hx rfl) h
  subst e
  exact (elem_in h1 ht (Term.int_eval i) hc).2
theorem own_len {t : Term} {n : Int32} {ca : Addr} {cl : Cell} (h : (Cond.eq (.length t) (.int n)).value a0 Z none Z [] = some true) (ht : t.eval a0 Z none [] Z = some (.ref ca)) (hc : Z.heap[ca]? = some cl) : cl.slots.size < 2 ^ 31 ∧ cl.slots.size.toInt32 = n := by
  obtain ⟨x, y, h1, h2, h3, h4⟩ := cmp_v (Or.inl h)
  obtain ⟨b, cell, e1, e2, e3, rfl⟩ := Jvm.Lib.length_spec h1
  cases ht.symm.trans e1
  cases hc.symm.trans (Jvm.Lib.arrayAt_spec e2).1
  exact ⟨e3, gotT (Cond.eq_ints h1 (Term.int_eval n)) h⟩
end Words
end New
end Jvm.RoadKit
namespace Jvm.Pilot.@@N@@
open Jvm Jvm.ClassFile Sem Op Lib Jvm.Free Jvm.Stand Jvm.LawKit Jvm.RoadKit Bundle Jvm.Pilot.@@N@@.Jvm.D
theorem own_pd0 : parseMethodDescriptor "()V" = some ⟨[], none⟩ := by decide +kernel
theorem own_pd1 : parseMethodDescriptor "(J)V" = some ⟨[.long], none⟩ := by decide +kernel
theorem own_pd2 : parseMethodDescriptor "(JJ)V" = some ⟨[.long, .long], none⟩ := by decide +kernel
theorem own_pd3 : parseMethodDescriptor "(J)Ljava/lang/Long;" = some ⟨[.long], some (.object "java/lang/Long")⟩ := by decide +kernel
theorem own_pd4 : parseMethodDescriptor "(Ljava/lang/Object;)Z" = some ⟨[(.object "java/lang/Object")], some .boolean⟩ := by decide +kernel
def own_lo (a b : Int64) : Int64 := if (b - a) = (-1 : Int64) then 0 else a
def own_hi (a b : Int64) : Int64 := if (b - a) = (-1 : Int64) then -1 else b
def own_iv (l1 h1 l2 h2 : Int64) : Int32 := if l2 = l1 ∧ h2 = h1 then 1 else 0
theorem own_eqv (a h p q : Int64) : own_iv (own_lo a h) (own_hi a h) (own_lo p q) (own_hi p q) = if (h - a) = (-1 : Int64) then (if (q - p) = (-1 : Int64) then 1 else 0) else (if (q - p) = (-1 : Int64) then 0 else if a = p ∧ h = q then 1 else 0) := by
  unfold own_iv own_lo own_hi
  by_cases c1 : (h - a) = (-1 : Int64)
  · by_cases c2 : (q - p) = (-1 : Int64)
    · simp only [if_pos c1, if_pos c2]; rfl
    · simp only [if_pos c1, if_neg c2]
      refine if_neg ?_
      rintro ⟨rfl, rfl⟩
      exact c2 (by decide)
  · by_cases c2 : (q - p) = (-1 : Int64)
    · simp only [if_neg c1, if_pos c2]
      refine if_neg ?_
      rintro ⟨rfl, rfl⟩
      exact c1 (by decide)
    · simp only [if_neg c1, if_neg c2, eq_comm]
theorem own_eqv' (a h p q : Int64) : own_iv (own_lo p q) (own_hi p q) (own_lo a h) (own_hi a h) = if (h - a) = (-1 : Int64) then (if (q - p) = (-1 : Int64) then 1 else 0) else (if (q - p) = (-1 : Int64) then 0 else if a = p ∧ h = q then 1 else 0) := by
  rw [← own_eqv]
  unfold own_iv
  simp only [eq_comm]
theorem own_lidx {x : Int64} (h1 : ¬ x < (-128 : Int64)) (h2 : ¬ (127 : Int64) < x) : ¬ ((x.toInt32) + (128 : Int32)) < 0 ∧ ((x.toInt32) + (128 : Int32)) < 256 := by
  rw [Int64.lt_iff_toInt_lt] at h1 h2
  have z1 : (-128 : Int64).toInt = -128 := rfl
  have z2 : (127 : Int64).toInt = 127 := rfl
  have e1 : x.toInt32.toInt = x.toInt := by rw [Int64.toInt_toInt32]; exact Int.bmod_eq_of_le (by omega) (by omega)
  have e2 : (x.toInt32 + (128 : Int32)).toInt = x.toInt + 128 := by
    rw [Int32.toInt_add, e1, show (128 : Int32).toInt = 128 from rfl]; exact Int.bmod_eq_of_le (by omega) (by omega)
  simp only [Int32.lt_iff_toInt_lt, e2, show (0 : Int32).toInt = 0 from rfl, show (256 : Int32).toInt = 256 from rfl]
  omega
theorem own_NSr {Z : State} {a0 : Array Value} {O K : String} {n : Nat} (w : (Cond.noSuperclass O).before a0 Z = true) (wk : (Cond.instantiable K n).before a0 Z = true) (hn : O ≠ K) : NS Z O K := by
  obtain ⟨c, k, h1, h2, h3, -, -⟩ := Cond.noSuperclass_spec w
  obtain ⟨t, kt, g1, -⟩ := Cond.instantiable_spec wk
  have ne := ids_ne h1 g1 hn
  refine ⟨c, t, h1, g1, fun fuel => ?_⟩
  cases fuel with
  | zero => rfl
  | succ f => simp [Vm.isSubclassAux, ne, h2, h3]
theorem own_NSno {Z : State} {a0 : Array Value} {C S K : String} {n : Nat} (w : (Cond.superclass C S).before a0 Z = true) (wk : (Cond.instantiable K n).before a0 Z = true) (q : NS Z C K) (hn : C ≠ K) : ∃ c t, Z.vm.findClass C = some c ∧ Z.vm.findClass K = some t ∧ Z.vm.assignable c t = false := by
  obtain ⟨c, t, h0, g0, n3⟩ := q
  obtain ⟨p, k, kp, h1, h2, h3, h4, h5, -, h7⟩ := Cond.superclass_spec h0 w
  obtain ⟨t', k', g0', g2, g5, g7, -⟩ := Cond.instantiable_spec wk
  cases g0.symm.trans g0'
  have g8 : k'.isInterface = false := (Bool.or_eq_false_iff.mp g7).1
  have ne := ids_ne h0 g0 hn
  refine ⟨c, t, h0, g0, ?_⟩
  show Z.vm.assignableAux (255 + 1) c t = false
  simp [Vm.assignableAux, ne, h2, g2, h5, g5, g8, Vm.isSubclass, n3]
theorem d1_0 : decode jdk_30_method_1_code 0 = .ok (.aload_n 0, 1) := by decide +kernel
theorem d1_1 : decode jdk_30_method_1_code 1 = .ok (.invokespecial 1, 3) := by decide +kernel
theorem d1_4 : decode jdk_30_method_1_code 4 = .ok (.return_, 1) := by decide +kernel
theorem pn_rm1 : plainFor (⟨"java/lang/Record", "<init>", "()V"⟩ : MethodName) = true := by decide +kernel
theorem ef_rm1 (m : MethodId) (x0 : Addr) : entryFrame m #[(.ref x0)] 1 = mkF m 0 #[.val (.ref x0)] [] := by first | (simp [entryFrame, mkF, argsToLocals, Value.category]; done) | rfl
set_option maxRecDepth 65536 in
set_option maxHeartbeats 40000000 in
theorem rm1 (l : Launch) (Z : State) (a0 : Array Value) (hw : ∀ d ∈ tables_1, d.before a0 Z = true) (r0 : Addr) (h0 : Heap) :
    own_Met l Z (⟨"java/lang/Record", "<init>", "()V"⟩ : MethodName) jdk_30_method_1_code 1 none [] ({ frames := 1, cells := 0, slots := 0, locals := 12 } : Room) #[(.ref r0)] h0 (fun v h L => v = none ∧ L = [] ∧ h = h0) := by
  refine own_body pn_rm1 ?_
  intro p e s m below meth c s₁ hx hby hml hown hnm hret hlk hZ X0 e0 G hG
  replace hml : c.maxLocals = 1 := hml
  replace hown : s.vm.findClass "java/lang/Record" = some m.cls := hown
  rw [ef_rm1]
  show own_Go p e below G (s₁.setTop (mkF m 0 #[.val (.ref r0)] []))
  refine own_st (fun t k => XS.aloadN X0.here hx rfl (hb hby d1_0) rfl rfl  k) ?_
  show own_Go p e below G (s₁.setTop (mkF m 1 #[.val (.ref r0)] [(.ref r0)]))
  obtain ⟨T1, X1, e1, st1⟩ := initO X0 hx hZ hown (hw _ (List.mem_of_getElem? (i := 11) rfl)) (hw _ (List.mem_of_getElem? (i := 12) rfl)) (hw _ (List.mem_of_getElem? (i := 13) rfl)) e0 (g := (mkF m 1 #[.val (.ref r0)] [(.ref r0)])) rfl (by rw [hml]; rfl) rfl (hb hby d1_1) (by decide) (W := 0) (by show 2 * 0 + _ ≤ _; exact Nat.le_of_eq rfl) (by decide)
  refine own_st st1 ?_
  show own_Go p e below G (T1.setTop (mkF m 4 #[.val (.ref r0)] []))
  rw [hG]
  exact own_retV X1 hx hlk hret (hb hby d1_4) ⟨rfl, rfl, e1⟩ (by decide) (by decide)
theorem d3_0 : decode jdk_18_method_1_code 0 = .ok (.aload_n 0, 1) := by decide +kernel
theorem d3_1 : decode jdk_18_method_1_code 1 = .ok (.invokespecial 1, 3) := by decide +kernel
theorem d3_4 : decode jdk_18_method_1_code 4 = .ok (.return_, 1) := by decide +kernel
theorem pn_rm3 : plainFor (⟨"java/lang/Number", "<init>", "()V"⟩ : MethodName) = true := by decide +kernel
theorem ef_rm3 (m : MethodId) (x0 : Addr) : entryFrame m #[(.ref x0)] 1 = mkF m 0 #[.val (.ref x0)] [] := by first | (simp [entryFrame, mkF, argsToLocals, Value.category]; done) | rfl
set_option maxRecDepth 65536 in
set_option maxHeartbeats 40000000 in
theorem rm3 (l : Launch) (Z : State) (a0 : Array Value) (hw : ∀ d ∈ tables_1, d.before a0 Z = true) (r0 : Addr) (h0 : Heap) :
    own_Met l Z (⟨"java/lang/Number", "<init>", "()V"⟩ : MethodName) jdk_18_method_1_code 1 none [] ({ frames := 1, cells := 0, slots := 0, locals := 12 } : Room) #[(.ref r0)] h0 (fun v h L => v = none ∧ L = [] ∧ h = h0) := by
  refine own_body pn_rm3 ?_
  intro p e s m below meth c s₁ hx hby hml hown hnm hret hlk hZ X0 e0 G hG
  replace hml : c.maxLocals = 1 := hml
  replace hown : s.vm.findClass "java/lang/Number" = some m.cls := hown
  rw [ef_rm3]
  show own_Go p e below G (s₁.setTop (mkF m 0 #[.val (.ref r0)] []))
  refine own_st (fun t k => XS.aloadN X0.here hx rfl (hb hby d3_0) rfl rfl  k) ?_
  show own_Go p e below G (s₁.setTop (mkF m 1 #[.val (.ref r0)] [(.ref r0)]))
  obtain ⟨T1, X1, e1, st1⟩ := initO X0 hx hZ hown (hw _ (List.mem_of_getElem? (i := 47) rfl)) (hw _ (List.mem_of_getElem? (i := 12) rfl)) (hw _ (List.mem_of_getElem? (i := 13) rfl)) e0 (g := (mkF m 1 #[.val (.ref r0)] [(.ref r0)])) rfl (by rw [hml]; rfl) rfl (hb hby d3_1) (by decide) (W := 0) (by show 2 * 0 + _ ≤ _; exact Nat.le_of_eq rfl) (by decide)
  refine own_st st1 ?_
  show own_Go p e below G (T1.setTop (mkF m 4 #[.val (.ref r0)] []))
  rw [hG]
  exact own_retV X1 hx hlk hret (hb hby d3_4) ⟨rfl, rfl, e1⟩ (by decide) (by decide)
theorem d2_0 : decode prog_84_method_1_code 0 = .ok (.aload_n 0, 1) := by decide +kernel
theorem d2_1 : decode prog_84_method_1_code 1 = .ok (.invokespecial 1, 3) := by decide +kernel
theorem d2_4 : decode prog_84_method_1_code 4 = .ok (.lload_n 3, 1) := by decide +kernel
theorem d2_5 : decode prog_84_method_1_code 5 = .ok (.lload_n 1, 1) := by decide +kernel
theorem d2_6 : decode prog_84_method_1_code 6 = .ok (.lsub, 1) := by decide +kernel
theorem d2_7 : decode prog_84_method_1_code 7 = .ok (.ldc2_w 7, 3) := by decide +kernel
theorem d2_10 : decode prog_84_method_1_code 10 = .ok (.lcmp, 1) := by decide +kernel
theorem d2_11 : decode prog_84_method_1_code 11 = .ok (.ifCond .ne 9, 3) := by decide +kernel
theorem d2_14 : decode prog_84_method_1_code 14 = .ok (.lconst 0, 1) := by decide +kernel
theorem d2_15 : decode prog_84_method_1_code 15 = .ok (.lstore_n 1, 1) := by decide +kernel
theorem d2_16 : decode prog_84_method_1_code 16 = .ok (.ldc2_w 7, 3) := by decide +kernel
theorem d2_19 : decode prog_84_method_1_code 19 = .ok (.lstore_n 3, 1) := by decide +kernel
theorem d2_20 : decode prog_84_method_1_code 20 = .ok (.aload_n 0, 1) := by decide +kernel
theorem d2_21 : decode prog_84_method_1_code 21 = .ok (.lload_n 1, 1) := by decide +kernel
theorem d2_22 : decode prog_84_method_1_code 22 = .ok (.putfield 9, 3) := by decide +kernel
theorem d2_25 : decode prog_84_method_1_code 25 = .ok (.aload_n 0, 1) := by decide +kernel
theorem d2_26 : decode prog_84_method_1_code 26 = .ok (.lload_n 3, 1) := by decide +kernel
theorem d2_27 : decode prog_84_method_1_code 27 = .ok (.putfield 15, 3) := by decide +kernel
theorem d2_30 : decode prog_84_method_1_code 30 = .ok (.return_, 1) := by decide +kernel
theorem pn_rm2 : plainFor (⟨"com/example/pathweave/pathweave/Interval", "<init>", "(JJ)V"⟩ : MethodName) = true := by decide +kernel
theorem ef_rm2 (m : MethodId) (x0 : Addr) (x1 : Int64) (x2 : Int64) : entryFrame m #[(.ref x0), (.long x1), (.long x2)] 5 = mkF m 0 #[.val (.ref x0), .val (.long x1), .second, .val (.long x2), .second] [] := by first | (simp [entryFrame, mkF, argsToLocals, Value.category]; done) | rfl
set_option maxRecDepth 65536 in
set_option maxHeartbeats 40000000 in
theorem rm2 (l : Launch) (Z : State) (a0 : Array Value) (hw : ∀ d ∈ tables_1, d.before a0 Z = true) (r0 : Addr) (q1 q2 : Int64) (h0 : Heap) (n0 : Nat) (Z0 : n0 ≤ h0.size) (g_r0 : n0 ≤ r0) (E_r0 : Exa Z h0 r0 "com/example/pathweave/pathweave/Interval") (F_low_r0 : Fld Z h0 r0 "com/example/pathweave/pathweave/Interval" "low" "J" (.long (0 : Int64))) (F_high_r0 : Fld Z h0 r0 "com/example/pathweave/pathweave/Interval" "high" "J" (.long (0 : Int64))) :
    own_Met l Z (⟨"com/example/pathweave/pathweave/Interval", "<init>", "(JJ)V"⟩ : MethodName) prog_84_method_1_code 5 none [] ({ frames := 2, cells := 0, slots := 0, locals := 24 } : Room) #[(.ref r0), (.long q1), (.long q2)] h0 (fun v h L => v = none ∧ Fr n0 L ∧ Keep h0 h [r0] ∧ Exa Z h r0 "com/example/pathweave/pathweave/Interval" ∧ Fld Z h r0 "com/example/pathweave/pathweave/Interval" "low" "J" (.long (own_lo q1 q2)) ∧ Fld Z h r0 "com/example/pathweave/pathweave/Interval" "high" "J" (.long (own_hi q1 q2))) := by
  refine own_body pn_rm2 ?_
  intro p e s m below meth c s₁ hx hby hml hown hnm hret hlk hZ X0 e0 G hG
  replace hml : c.maxLocals = 5 := hml
  replace hown : s.vm.findClass "com/example/pathweave/pathweave/Interval" = some m.cls := hown
  rw [ef_rm2]
  have N0 := Fr.nil n0
  have K0 := Keep.refl h0 [r0]
  show own_Go p e below G (s₁.setTop (mkF m 0 #[.val (.ref r0), .val (.long q1), .second, .val (.long q2), .second] []))
  refine own_st (fun t k => XS.aloadN X0.here hx rfl (hb hby d2_0) rfl rfl  k) ?_
  show own_Go p e below G (s₁.setTop (mkF m 1 #[.val (.ref r0), .val (.long q1), .second, .val (.long q2), .second] [(.ref r0)]))
  obtain ⟨v1, T1, L1, X1, Q1, st1⟩ := own_callC X0 hx hZ (y := (⟨"java/lang/Record", "<init>", "()V"⟩ : MethodName)) rfl hown (hw _ (List.mem_of_getElem? (i := 6) rfl)) (hw _ (List.mem_of_getElem? (i := 7) rfl)) (hw _ (List.mem_of_getElem? (i := 9) rfl)) (hw _ (List.mem_of_getElem? (i := 10) rfl)) (by decide) (W := 0) (rm1 l Z a0 hw r0 h0) (by decide) (by decide) e0 (g := (mkF m 1 #[.val (.ref r0), .val (.long q1), .second, .val (.long q2), .second] [(.ref r0)])) rfl (by rw [hml]; rfl) (a := r0) (argsL := []) (rest := []) own_pd0 rfl rfl (by show 2 * 0 + _ ≤ _; exact Nat.le_of_eq rfl) (hb hby d2_1) rfl (by decide) (by decide)
  obtain ⟨rfl, rfl, e1⟩ := Q1
  simp only [List.append_nil, Nat.add_zero] at X1
  refine own_st st1 ?_
  show own_Go p e below G (T1.setTop (mkF m 4 #[.val (.ref r0), .val (.long q1), .second, .val (.long q2), .second] []))
  refine own_st (fun t k => XS.lloadN X1.here hx rfl (hb hby d2_4) rfl  k) ?_
  show own_Go p e below G (T1.setTop (mkF m 5 #[.val (.ref r0), .val (.long q1), .second, .val (.long q2), .second] [(.long q2)]))
  refine own_st (fun t k => XS.lloadN X1.here hx rfl (hb hby d2_5) rfl  k) ?_
  show own_Go p e below G (T1.setTop (mkF m 6 #[.val (.ref r0), .val (.long q1), .second, .val (.long q2), .second] [(.long q1), (.long q2)]))
  refine own_st (fun t k => XS.lsub X1.here hx rfl (hb hby d2_6) rfl k) ?_
  show own_Go p e below G (T1.setTop (mkF m 7 #[.val (.ref r0), .val (.long q1), .second, .val (.long q2), .second] [(.long (q2 - q1))]))
  refine own_st (fun t k => X1.ldc2Long hx hown (mvT hZ (hw _ (List.mem_of_getElem? (i := 14) rfl))) (g := (mkF m 7 #[.val (.ref r0), .val (.long q1), .second, .val (.long q2), .second] [(.long (q2 - q1))])) rfl (hb hby d2_7) t k) ?_
  show own_Go p e below G (T1.setTop (mkF m 10 #[.val (.ref r0), .val (.long q1), .second, .val (.long q2), .second] [(.long (-1 : Int64)), (.long (q2 - q1))]))
  refine own_st (fun t k => XS.lcmp X1.here hx rfl (hb hby d2_10) rfl k) ?_
  show own_Go p e below G (T1.setTop (mkF m 11 #[.val (.ref r0), .val (.long q1), .second, .val (.long q2), .second] [(.int (lcmpW (q2 - q1) (-1 : Int64)))]))
  by_cases c11_2 : (q2 - q1) = (-1 : Int64)
  · skip
    refine own_st (fun t k => XS.ifNo X1.here hx rfl (hb hby d2_11) rfl ((if0 _ _).trans (teq ((lw_eq _ _).2 c11_2)).2) k) ?_
    show own_Go p e below G (T1.setTop (mkF m 14 #[.val (.ref r0), .val (.long q1), .second, .val (.long q2), .second] []))
    refine own_st (fun t k => XS.lconst X1.here hx rfl (hb hby d2_14) k) ?_
    show own_Go p e below G (T1.setTop (mkF m 15 #[.val (.ref r0), .val (.long q1), .second, .val (.long q2), .second] [(.long (0 : Int64))]))
    refine own_st (fun t k => XS.lstoreN X1.here hx rfl (hb hby d2_15) rfl (l' := #[.val (.ref r0), .val (.long (0 : Int64)), .second, .val (.long q2), .second]) rfl k) ?_
    show own_Go p e below G (T1.setTop (mkF m 16 #[.val (.ref r0), .val (.long (0 : Int64)), .second, .val (.long q2), .second] []))
    refine own_st (fun t k => X1.ldc2Long hx hown (mvT hZ (hw _ (List.mem_of_getElem? (i := 14) rfl))) (g := (mkF m 16 #[.val (.ref r0), .val (.long (0 : Int64)), .second, .val (.long q2), .second] [])) rfl (hb hby d2_16) t k) ?_
    show own_Go p e below G (T1.setTop (mkF m 19 #[.val (.ref r0), .val (.long (0 : Int64)), .second, .val (.long q2), .second] [(.long (-1 : Int64))]))
    refine own_st (fun t k => XS.lstoreN X1.here hx rfl (hb hby d2_19) rfl (l' := #[.val (.ref r0), .val (.long (0 : Int64)), .second, .val (.long (-1 : Int64)), .second]) rfl k) ?_
    show own_Go p e below G (T1.setTop (mkF m 20 #[.val (.ref r0), .val (.long (0 : Int64)), .second, .val (.long (-1 : Int64)), .second] []))
    refine own_st (fun t k => XS.aloadN X1.here hx rfl (hb hby d2_20) rfl rfl  k) ?_
    show own_Go p e below G (T1.setTop (mkF m 21 #[.val (.ref r0), .val (.long (0 : Int64)), .second, .val (.long (-1 : Int64)), .second] [(.ref r0)]))
    refine own_st (fun t k => XS.lloadN X1.here hx rfl (hb hby d2_21) rfl  k) ?_
    show own_Go p e below G (T1.setTop (mkF m 22 #[.val (.ref r0), .val (.long (0 : Int64)), .second, .val (.long (-1 : Int64)), .second] [(.long (0 : Int64)), (.ref r0)]))
    obtain ⟨T3, h3, X3, e3, W3, st3⟩ := putF X1 hx hZ hown (host := "") (Or.inl (hw _ (List.mem_of_getElem? (i := 15) rfl))) Via.refl e1 F_low_r0 E_r0 (Or.inr ⟨(hw _ (List.mem_of_getElem? (i := 16) rfl)), rfl, hnm⟩) (hw _ (List.mem_of_getElem? (i := 1) rfl)) (ty := .long) (by decide) rfl rfl (g := (mkF m 22 #[.val (.ref r0), .val (.long (0 : Int64)), .second, .val (.long (-1 : Int64)), .second] [(.long (0 : Int64)), (.ref r0)])) rfl rfl (hb hby d2_22)
    replace E_r0 := E_r0.wr W3
    replace F_low_r0 := F_low_r0.same W3
    replace F_high_r0 := F_high_r0.other W3 (Or.inr (slot_ne (Or.inr (hw _ (List.mem_of_getElem? (i := 18) rfl))) (Or.inr (hw _ (List.mem_of_getElem? (i := 16) rfl))) (by decide) (t := .long) (t' := .long) (by decide) (by decide)))
    replace Z0 := Nat.le_trans Z0 (Keep.of_wr W3).1
    replace N0 := Fr.snoc X3 N0 g_r0
    replace K0 := K0.wr W3 (Or.inl (List.mem_of_getElem? (i := 0) rfl))
    refine own_st st3 ?_
    show own_Go p e below G (T3.setTop (mkF m 25 #[.val (.ref r0), .val (.long (0 : Int64)), .second, .val (.long (-1 : Int64)), .second] []))
    refine own_st (fun t k => XS.aloadN X3.here hx rfl (hb hby d2_25) rfl rfl  k) ?_
    show own_Go p e below G (T3.setTop (mkF m 26 #[.val (.ref r0), .val (.long (0 : Int64)), .second, .val (.long (-1 : Int64)), .second] [(.ref r0)]))
    refine own_st (fun t k => XS.lloadN X3.here hx rfl (hb hby d2_26) rfl  k) ?_
    show own_Go p e below G (T3.setTop (mkF m 27 #[.val (.ref r0), .val (.long (0 : Int64)), .second, .val (.long (-1 : Int64)), .second] [(.long (-1 : Int64)), (.ref r0)]))
    obtain ⟨T4, h4, X4, e4, W4, st4⟩ := putF X3 hx hZ hown (host := "") (Or.inl (hw _ (List.mem_of_getElem? (i := 17) rfl))) Via.refl e3 F_high_r0 E_r0 (Or.inr ⟨(hw _ (List.mem_of_getElem? (i := 18) rfl)), rfl, hnm⟩) (hw _ (List.mem_of_getElem? (i := 1) rfl)) (ty := .long) (by decide) rfl rfl (g := (mkF m 27 #[.val (.ref r0), .val (.long (0 : Int64)), .second, .val (.long (-1 : Int64)), .second] [(.long (-1 : Int64)), (.ref r0)])) rfl rfl (hb hby d2_27)
    replace E_r0 := E_r0.wr W4
    replace F_low_r0 := F_low_r0.other W4 (Or.inr (slot_ne (Or.inr (hw _ (List.mem_of_getElem? (i := 16) rfl))) (Or.inr (hw _ (List.mem_of_getElem? (i := 18) rfl))) (by decide) (t := .long) (t' := .long) (by decide) (by decide)))
    replace F_high_r0 := F_high_r0.same W4
    replace Z0 := Nat.le_trans Z0 (Keep.of_wr W4).1
    replace N0 := Fr.snoc X4 N0 g_r0
    replace K0 := K0.wr W4 (Or.inl (List.mem_of_getElem? (i := 0) rfl))
    refine own_st st4 ?_
    show own_Go p e below G (T4.setTop (mkF m 30 #[.val (.ref r0), .val (.long (0 : Int64)), .second, .val (.long (-1 : Int64)), .second] []))
    rw [hG]
    exact own_retV X4 hx hlk hret (hb hby d2_30) (by rw [e4, show own_lo q1 q2 = (0 : Int64) from if_pos c11_2, show own_hi q1 q2 = (-1 : Int64) from if_pos c11_2]; exact ⟨rfl, N0, K0, E_r0, F_low_r0, F_high_r0⟩) (by decide) (by decide)
  · skip
    refine own_st (fun t k => XS.ifYes X1.here hx rfl (pc0 := 11) (pc' := 20) rfl (hb hby d2_11) rfl ((if0 _ _).trans (feq (fun q => c11_2 ((lw_eq _ _).1 q))).2) (by decide) (by decide) k) ?_
    show own_Go p e below G (T1.setTop (mkF m 20 #[.val (.ref r0), .val (.long q1), .second, .val (.long q2), .second] []))
    refine own_st (fun t k => XS.aloadN X1.here hx rfl (hb hby d2_20) rfl rfl  k) ?_
    show own_Go p e below G (T1.setTop (mkF m 21 #[.val (.ref r0), .val (.long q1), .second, .val (.long q2), .second] [(.ref r0)]))
    refine own_st (fun t k => XS.lloadN X1.here hx rfl (hb hby d2_21) rfl  k) ?_
    show own_Go p e below G (T1.setTop (mkF m 22 #[.val (.ref r0), .val (.long q1), .second, .val (.long q2), .second] [(.long q1), (.ref r0)]))
    obtain ⟨T5, h5, X5, e5, W5, st5⟩ := putF X1 hx hZ hown (host := "") (Or.inl (hw _ (List.mem_of_getElem? (i := 15) rfl))) Via.refl e1 F_low_r0 E_r0 (Or.inr ⟨(hw _ (List.mem_of_getElem? (i := 16) rfl)), rfl, hnm⟩) (hw _ (List.mem_of_getElem? (i := 1) rfl)) (ty := .long) (by decide) rfl rfl (g := (mkF m 22 #[.val (.ref r0), .val (.long q1), .second, .val (.long q2), .second] [(.long q1), (.ref r0)])) rfl rfl (hb hby d2_22)
    replace E_r0 := E_r0.wr W5
    replace F_low_r0 := F_low_r0.same W5
    replace F_high_r0 := F_high_r0.other W5 (Or.inr (slot_ne (Or.inr (hw _ (List.mem_of_getElem? (i := 18) rfl))) (Or.inr (hw _ (List.mem_of_getElem? (i := 16) rfl))) (by decide) (t := .long) (t' := .long) (by decide) (by decide)))
    replace Z0 := Nat.le_trans Z0 (Keep.of_wr W5).1
    replace N0 := Fr.snoc X5 N0 g_r0
    replace K0 := K0.wr W5 (Or.inl (List.mem_of_getElem? (i := 0) rfl))
    refine own_st st5 ?_
    show own_Go p e below G (T5.setTop (mkF m 25 #[.val (.ref r0), .val (.long q1), .second, .val (.long q2), .second] []))
    refine own_st (fun t k => XS.aloadN X5.here hx rfl (hb hby d2_25) rfl rfl  k) ?_
    show own_Go p e below G (T5.setTop (mkF m 26 #[.val (.ref r0), .val (.long q1), .second, .val (.long q2), .second] [(.ref r0)]))
    refine own_st (fun t k => XS.lloadN X5.here hx rfl (hb hby d2_26) rfl  k) ?_
    show own_Go p e below G (T5.setTop (mkF m 27 #[.val (.ref r0), .val (.long q1), .second, .val (.long q2), .second] [(.long q2), (.ref r0)]))
    obtain ⟨T6, h6, X6, e6, W6, st6⟩ := putF X5 hx hZ hown (host := "") (Or.inl (hw _ (List.mem_of_getElem? (i := 17) rfl))) Via.refl e5 F_high_r0 E_r0 (Or.inr ⟨(hw _ (List.mem_of_getElem? (i := 18) rfl)), rfl, hnm⟩) (hw _ (List.mem_of_getElem? (i := 1) rfl)) (ty := .long) (by decide) rfl rfl (g := (mkF m 27 #[.val (.ref r0), .val (.long q1), .second, .val (.long q2), .second] [(.long q2), (.ref r0)])) rfl rfl (hb hby d2_27)
    replace E_r0 := E_r0.wr W6
    replace F_low_r0 := F_low_r0.other W6 (Or.inr (slot_ne (Or.inr (hw _ (List.mem_of_getElem? (i := 16) rfl))) (Or.inr (hw _ (List.mem_of_getElem? (i := 18) rfl))) (by decide) (t := .long) (t' := .long) (by decide) (by decide)))
    replace F_high_r0 := F_high_r0.same W6
    replace Z0 := Nat.le_trans Z0 (Keep.of_wr W6).1
    replace N0 := Fr.snoc X6 N0 g_r0
    replace K0 := K0.wr W6 (Or.inl (List.mem_of_getElem? (i := 0) rfl))
    refine own_st st6 ?_
    show own_Go p e below G (T6.setTop (mkF m 30 #[.val (.ref r0), .val (.long q1), .second, .val (.long q2), .second] []))
    rw [hG]
    exact own_retV X6 hx hlk hret (hb hby d2_30) (by rw [e6, show own_lo q1 q2 = q1 from if_neg c11_2, show own_hi q1 q2 = q2 from if_neg c11_2]; exact ⟨rfl, N0, K0, E_r0, F_low_r0, F_high_r0⟩) (by decide) (by decide)
theorem d4_0 : decode jdk_35_method_26_code 0 = .ok (.aload_n 0, 1) := by decide +kernel
theorem d4_1 : decode jdk_35_method_26_code 1 = .ok (.invokespecial 270, 3) := by decide +kernel
theorem d4_4 : decode jdk_35_method_26_code 4 = .ok (.aload_n 0, 1) := by decide +kernel
theorem d4_5 : decode jdk_35_method_26_code 5 = .ok (.lload_n 1, 1) := by decide +kernel
theorem d4_6 : decode jdk_35_method_26_code 6 = .ok (.putfield 273, 3) := by decide +kernel
theorem d4_9 : decode jdk_35_method_26_code 9 = .ok (.return_, 1) := by decide +kernel
theorem pn_rm4 : plainFor (⟨"java/lang/Long", "<init>", "(J)V"⟩ : MethodName) = true := by decide +kernel
theorem ef_rm4 (m : MethodId) (x0 : Addr) (x1 : Int64) : entryFrame m #[(.ref x0), (.long x1)] 3 = mkF m 0 #[.val (.ref x0), .val (.long x1), .second] [] := by first | (simp [entryFrame, mkF, argsToLocals, Value.category]; done) | rfl
set_option maxRecDepth 65536 in
set_option maxHeartbeats 40000000 in
theorem rm4 (l : Launch) (Z : State) (a0 : Array Value) (hw : ∀ d ∈ tables_1, d.before a0 Z = true) (r0 : Addr) (q1 : Int64) (h0 : Heap) (n0 : Nat) (Z0 : n0 ≤ h0.size) (g_r0 : n0 ≤ r0) (E_r0 : Exa Z h0 r0 "java/lang/Long") (F_value_r0 : Fld Z h0 r0 "java/lang/Long" "value" "J" (.long (0 : Int64))) :
    own_Met l Z (⟨"java/lang/Long", "<init>", "(J)V"⟩ : MethodName) jdk_35_method_26_code 3 none [] ({ frames := 2, cells := 0, slots := 0, locals := 24 } : Room) #[(.ref r0), (.long q1)] h0 (fun v h L => v = none ∧ Fr n0 L ∧ Keep h0 h [r0] ∧ Exa Z h r0 "java/lang/Long") := by
  refine own_body pn_rm4 ?_
  intro p e s m below meth c s₁ hx hby hml hown hnm hret hlk hZ X0 e0 G hG
  replace hml : c.maxLocals = 3 := hml
  replace hown : s.vm.findClass "java/lang/Long" = some m.cls := hown
  rw [ef_rm4]
  have N0 := Fr.nil n0
  have K0 := Keep.refl h0 [r0]
  show own_Go p e below G (s₁.setTop (mkF m 0 #[.val (.ref r0), .val (.long q1), .second] []))
  refine own_st (fun t k => XS.aloadN X0.here hx rfl (hb hby d4_0) rfl rfl  k) ?_
  show own_Go p e below G (s₁.setTop (mkF m 1 #[.val (.ref r0), .val (.long q1), .second] [(.ref r0)]))
  obtain ⟨v1, T1, L1, X1, Q1, st1⟩ := own_callC X0 hx hZ (y := (⟨"java/lang/Number", "<init>", "()V"⟩ : MethodName)) rfl hown (hw _ (List.mem_of_getElem? (i := 41) rfl)) (hw _ (List.mem_of_getElem? (i := 42) rfl)) (hw _ (List.mem_of_getElem? (i := 45) rfl)) (hw _ (List.mem_of_getElem? (i := 46) rfl)) (by decide) (W := 0) (rm3 l Z a0 hw r0 h0) (by decide) (by decide) e0 (g := (mkF m 1 #[.val (.ref r0), .val (.long q1), .second] [(.ref r0)])) rfl (by rw [hml]; rfl) (a := r0) (argsL := []) (rest := []) own_pd0 rfl rfl (by show 2 * 0 + _ ≤ _; exact Nat.le_of_eq rfl) (hb hby d4_1) rfl (by decide) (by decide)
  obtain ⟨rfl, rfl, e1⟩ := Q1
  simp only [List.append_nil, Nat.add_zero] at X1
  refine own_st st1 ?_
  show own_Go p e below G (T1.setTop (mkF m 4 #[.val (.ref r0), .val (.long q1), .second] []))
  refine own_st (fun t k => XS.aloadN X1.here hx rfl (hb hby d4_4) rfl rfl  k) ?_
  show own_Go p e below G (T1.setTop (mkF m 5 #[.val (.ref r0), .val (.long q1), .second] [(.ref r0)]))
  refine own_st (fun t k => XS.lloadN X1.here hx rfl (hb hby d4_5) rfl  k) ?_
  show own_Go p e below G (T1.setTop (mkF m 6 #[.val (.ref r0), .val (.long q1), .second] [(.long q1), (.ref r0)]))
  obtain ⟨T2, h2, X2, e2, W2, st2⟩ := putF X1 hx hZ hown (host := "") (Or.inl (hw _ (List.mem_of_getElem? (i := 48) rfl))) Via.refl e1 F_value_r0 E_r0 (Or.inr ⟨(hw _ (List.mem_of_getElem? (i := 49) rfl)), rfl, hnm⟩) (hw _ (List.mem_of_getElem? (i := 36) rfl)) (ty := .long) (by decide) rfl rfl (g := (mkF m 6 #[.val (.ref r0), .val (.long q1), .second] [(.long q1), (.ref r0)])) rfl rfl (hb hby d4_6)
  replace E_r0 := E_r0.wr W2
  replace F_value_r0 := F_value_r0.same W2
  replace Z0 := Nat.le_trans Z0 (Keep.of_wr W2).1
  replace N0 := Fr.snoc X2 N0 g_r0
  replace K0 := K0.wr W2 (Or.inl (List.mem_of_getElem? (i := 0) rfl))
  refine own_st st2 ?_
  show own_Go p e below G (T2.setTop (mkF m 9 #[.val (.ref r0), .val (.long q1), .second] []))
  rw [hG]
  exact own_retV X2 hx hlk hret (hb hby d4_9) (by rw [e2]; exact ⟨rfl, N0, K0, E_r0⟩) (by decide) (by decide)
theorem d5_0 : decode jdk_35_method_24_code 0 = .ok (.sipush 128, 3) := by decide +kernel
theorem d5_3 : decode jdk_35_method_24_code 3 = .ok (.istore_n 2, 1) := by decide +kernel
theorem d5_4 : decode jdk_35_method_24_code 4 = .ok (.lload_n 0, 1) := by decide +kernel
theorem d5_5 : decode jdk_35_method_24_code 5 = .ok (.ldc2_w 230, 3) := by decide +kernel
theorem d5_8 : decode jdk_35_method_24_code 8 = .ok (.lcmp, 1) := by decide +kernel
theorem d5_9 : decode jdk_35_method_24_code 9 = .ok (.ifCond .lt 22, 3) := by decide +kernel
theorem d5_12 : decode jdk_35_method_24_code 12 = .ok (.lload_n 0, 1) := by decide +kernel
theorem d5_13 : decode jdk_35_method_24_code 13 = .ok (.ldc2_w 232, 3) := by decide +kernel
theorem d5_16 : decode jdk_35_method_24_code 16 = .ok (.lcmp, 1) := by decide +kernel
theorem d5_17 : decode jdk_35_method_24_code 17 = .ok (.ifCond .gt 14, 3) := by decide +kernel
theorem d5_20 : decode jdk_35_method_24_code 20 = .ok (.getstatic 234, 3) := by decide +kernel
theorem d5_23 : decode jdk_35_method_24_code 23 = .ok (.lload_n 0, 1) := by decide +kernel
theorem d5_24 : decode jdk_35_method_24_code 24 = .ok (.l2i, 1) := by decide +kernel
theorem d5_25 : decode jdk_35_method_24_code 25 = .ok (.sipush 128, 3) := by decide +kernel
theorem d5_28 : decode jdk_35_method_24_code 28 = .ok (.iadd, 1) := by decide +kernel
theorem d5_29 : decode jdk_35_method_24_code 29 = .ok (.aaload, 1) := by decide +kernel
theorem d5_30 : decode jdk_35_method_24_code 30 = .ok (.areturn, 1) := by decide +kernel
theorem d5_31 : decode jdk_35_method_24_code 31 = .ok (.new 1, 3) := by decide +kernel
theorem d5_34 : decode jdk_35_method_24_code 34 = .ok (.dup, 1) := by decide +kernel
theorem d5_35 : decode jdk_35_method_24_code 35 = .ok (.lload_n 0, 1) := by decide +kernel
theorem d5_36 : decode jdk_35_method_24_code 36 = .ok (.invokespecial 240, 3) := by decide +kernel
theorem d5_39 : decode jdk_35_method_24_code 39 = .ok (.areturn, 1) := by decide +kernel
theorem pn_rm5 : plainFor (⟨"java/lang/Long", "valueOf", "(J)Ljava/lang/Long;"⟩ : MethodName) = true := by decide +kernel
theorem ef_rm5 (m : MethodId) (x0 : Int64) : entryFrame m #[(.long x0)] 3 = mkF m 0 #[.val (.long x0), .second, .unset] [] := by first | (simp [entryFrame, mkF, argsToLocals, Value.category]; done) | rfl
set_option maxRecDepth 65536 in
set_option maxHeartbeats 40000000 in
theorem rm5 (l : Launch) (Z : State) (a0 : Array Value) (hw : ∀ d ∈ tables_1, d.before a0 Z = true) (x0 : Int64) (ca : Addr) (clc : Cell) (h0 : Heap) (n0 : Nat) (Z0 : n0 ≤ h0.size) (SC : Sta Z h0 "java/lang/Long$LongCache" "cache" "[Ljava/lang/Long;" (.ref ca)) (Arc : Arr Z h0 ca clc (.object "java/lang/Long")) (hsz : clc.slots.size = (256 : Int32).toNatClampNeg) (hel : ∀ j : Int32, ¬ j < 0 → j < 256 → ∃ r, clc.slots[j.toNatClampNeg]? = some (.ref r) ∧ Exa Z h0 r "java/lang/Long") :
    own_Met l Z (⟨"java/lang/Long", "valueOf", "(J)Ljava/lang/Long;"⟩ : MethodName) jdk_35_method_24_code 3 (some (.object "java/lang/Long")) [] ({ frames := 3, cells := 1, slots := 1, locals := 39 } : Room) #[(.long x0)] h0 (fun v h L => ∃ r : Addr, v = some (.ref r) ∧ Fr n0 L ∧ Keep h0 h [] ∧ Exa Z h r "java/lang/Long") := by
  refine own_body pn_rm5 ?_
  intro p e s m below meth c s₁ hx hby hml hown hnm hret hlk hZ X0 e0 G hG
  replace hml : c.maxLocals = 3 := hml
  replace hown : s.vm.findClass "java/lang/Long" = some m.cls := hown
  rw [ef_rm5]
  have N0 := Fr.nil n0
  show own_Go p e below G (s₁.setTop (mkF m 0 #[.val (.long x0), .second, .unset] []))
  refine own_st (fun t k => XS.sipush X0.here hx rfl (hb hby d5_0) k) ?_
  show own_Go p e below G (s₁.setTop (mkF m 3 #[.val (.long x0), .second, .unset] [(.int (128 : Int32))]))
  refine own_st (fun t k => XS.istoreN X0.here hx rfl (hb hby d5_3) rfl (l' := #[.val (.long x0), .second, .val (.int (128 : Int32))]) rfl k) ?_
  show own_Go p e below G (s₁.setTop (mkF m 4 #[.val (.long x0), .second, .val (.int (128 : Int32))] []))
  refine own_st (fun t k => XS.lloadN X0.here hx rfl (hb hby d5_4) rfl  k) ?_
  show own_Go p e below G (s₁.setTop (mkF m 5 #[.val (.long x0), .second, .val (.int (128 : Int32))] [(.long x0)]))
  refine own_st (fun t k => X0.ldc2Long hx hown (mvT hZ (hw _ (List.mem_of_getElem? (i := 23) rfl))) (g := (mkF m 5 #[.val (.long x0), .second, .val (.int (128 : Int32))] [(.long x0)])) rfl (hb hby d5_5) t k) ?_
  show own_Go p e below G (s₁.setTop (mkF m 8 #[.val (.long x0), .second, .val (.int (128 : Int32))] [(.long (-128 : Int64)), (.long x0)]))
  refine own_st (fun t k => XS.lcmp X0.here hx rfl (hb hby d5_8) rfl k) ?_
  show own_Go p e below G (s₁.setTop (mkF m 9 #[.val (.long x0), .second, .val (.int (128 : Int32))] [(.int (lcmpW x0 (-128 : Int64)))]))
  by_cases c9_1 : x0 < (-128 : Int64)
  · skip
    refine own_st (fun t k => XS.ifYes X0.here hx rfl (pc0 := 9) (pc' := 31) rfl (hb hby d5_9) rfl ((if0 _ _).trans (tlt ((lw_lt _ _).2 c9_1)).1) (by decide) (by decide) k) ?_
    show own_Go p e below G (s₁.setTop (mkF m 31 #[.val (.long x0), .second, .val (.int (128 : Int32))] []))
    obtain ⟨T2, h2, X2, e2, E2, A2, D2, -, st2⟩ := newO X0 hx hZ hown (hw _ (List.mem_of_getElem? (i := 35) rfl)) (hw _ (List.mem_of_getElem? (i := 36) rfl)) (hw _ (List.mem_of_getElem? (i := 21) rfl)) e0 (g := (mkF m 31 #[.val (.long x0), .second, .val (.int (128 : Int32))] [])) rfl (hb hby d5_31) (by decide) (by decide)
    obtain ⟨b2, gb2⟩ : ∃ z, z = h0.size := ⟨_, rfl⟩
    rw [← gb2] at A2 D2 st2
    have g_b2 : n0 ≤ b2 := Nat.le_trans Z0 (Nat.le_of_eq gb2.symm)
    replace Z0 := Nat.le_trans Z0 E2.1
    replace SC := SC.ext E2
    have E_b2 := A2
    have F_value_b2 : Fld Z h2 b2 "java/lang/Long" "value" "J" (.long (0 : Int64)) := D2 (Or.inr (hw _ (List.mem_of_getElem? (i := 49) rfl))) (ty := .long) (by decide)
    refine own_st st2 ?_
    show own_Go p e below G (T2.setTop (mkF m 34 #[.val (.long x0), .second, .val (.int (128 : Int32))] [(.ref b2)]))
    refine own_st (fun t k => XS.dup X2.here hx rfl (hb hby d5_34) rfl rfl k) ?_
    show own_Go p e below G (T2.setTop (mkF m 35 #[.val (.long x0), .second, .val (.int (128 : Int32))] [(.ref b2), (.ref b2)]))
    refine own_st (fun t k => XS.lloadN X2.here hx rfl (hb hby d5_35) rfl  k) ?_
    show own_Go p e below G (T2.setTop (mkF m 36 #[.val (.long x0), .second, .val (.int (128 : Int32))] [(.long x0), (.ref b2), (.ref b2)]))
    obtain ⟨v3, T3, L3, X3, Q3, st3⟩ := own_callC X2 hx hZ (y := (⟨"java/lang/Long", "<init>", "(J)V"⟩ : MethodName)) rfl hown (hw _ (List.mem_of_getElem? (i := 37) rfl)) (hw _ (List.mem_of_getElem? (i := 38) rfl)) (hw _ (List.mem_of_getElem? (i := 21) rfl)) (hw _ (List.mem_of_getElem? (i := 40) rfl)) (by decide) (W := 1) (rm4 l Z a0 hw b2 x0 h2 n0 Z0 g_b2 E_b2 F_value_b2) (by decide) (by decide) e2 (g := (mkF m 36 #[.val (.long x0), .second, .val (.int (128 : Int32))] [(.long x0), (.ref b2), (.ref b2)])) rfl (by rw [hml]; rfl) (a := b2) (argsL := [(.long x0)]) (rest := [(.ref b2)]) own_pd1 rfl rfl (by show 2 * 0 + _ ≤ _; exact Nat.le_of_eq rfl) (hb hby d5_36) rfl (by decide) (by decide)
    obtain ⟨rfl, Nq, Kq, Eq⟩ := Q3
    replace N0 := Fr.app N0 Nq
    have K1 : Keep h0 T3.heap [] := ((Keep.refl h0 []).ext E2).trans Kq (fun x hx => by cases List.mem_singleton.mp hx; exact Or.inr (Nat.le_of_eq gb2.symm))
    refine own_st st3 ?_
    show own_Go p e below G (T3.setTop (mkF m 39 #[.val (.long x0), .second, .val (.int (128 : Int32))] [(.ref b2)]))
    rw [hG]
    exact own_retA X3 hx hlk hret rfl rfl (hb hby d5_39) ⟨b2, rfl, N0, K1, Eq⟩ (by decide) (by decide)
  · skip
    refine own_st (fun t k => XS.ifNo X0.here hx rfl (hb hby d5_9) rfl ((if0 _ _).trans (flt (fun q => c9_1 ((lw_lt _ _).1 q))).1) k) ?_
    show own_Go p e below G (s₁.setTop (mkF m 12 #[.val (.long x0), .second, .val (.int (128 : Int32))] []))
    refine own_st (fun t k => XS.lloadN X0.here hx rfl (hb hby d5_12) rfl  k) ?_
    show own_Go p e below G (s₁.setTop (mkF m 13 #[.val (.long x0), .second, .val (.int (128 : Int32))] [(.long x0)]))
    refine own_st (fun t k => X0.ldc2Long hx hown (mvT hZ (hw _ (List.mem_of_getElem? (i := 24) rfl))) (g := (mkF m 13 #[.val (.long x0), .second, .val (.int (128 : Int32))] [(.long x0)])) rfl (hb hby d5_13) t k) ?_
    show own_Go p e below G (s₁.setTop (mkF m 16 #[.val (.long x0), .second, .val (.int (128 : Int32))] [(.long (127 : Int64)), (.long x0)]))
    refine own_st (fun t k => XS.lcmp X0.here hx rfl (hb hby d5_16) rfl k) ?_
    show own_Go p e below G (s₁.setTop (mkF m 17 #[.val (.long x0), .second, .val (.int (128 : Int32))] [(.int (lcmpW x0 (127 : Int64)))]))
    by_cases c17_4 : (127 : Int64) < x0
    · skip
      refine own_st (fun t k => XS.ifYes X0.here hx rfl (pc0 := 17) (pc' := 31) rfl (hb hby d5_17) rfl ((if0 _ _).trans (tlt ((lw_gt _ _).2 c17_4)).2.2.1) (by decide) (by decide) k) ?_
      show own_Go p e below G (s₁.setTop (mkF m 31 #[.val (.long x0), .second, .val (.int (128 : Int32))] []))
      obtain ⟨T5, h5, X5, e5, E5, A5, D5, -, st5⟩ := newO X0 hx hZ hown (hw _ (List.mem_of_getElem? (i := 35) rfl)) (hw _ (List.mem_of_getElem? (i := 36) rfl)) (hw _ (List.mem_of_getElem? (i := 21) rfl)) e0 (g := (mkF m 31 #[.val (.long x0), .second, .val (.int (128 : Int32))] [])) rfl (hb hby d5_31) (by decide) (by decide)
      obtain ⟨b5, gb5⟩ : ∃ z, z = h0.size := ⟨_, rfl⟩
      rw [← gb5] at A5 D5 st5
      have g_b5 : n0 ≤ b5 := Nat.le_trans Z0 (Nat.le_of_eq gb5.symm)
      replace Z0 := Nat.le_trans Z0 E5.1
      replace SC := SC.ext E5
      have E_b5 := A5
      have F_value_b5 : Fld Z h5 b5 "java/lang/Long" "value" "J" (.long (0 : Int64)) := D5 (Or.inr (hw _ (List.mem_of_getElem? (i := 49) rfl))) (ty := .long) (by decide)
      refine own_st st5 ?_
      show own_Go p e below G (T5.setTop (mkF m 34 #[.val (.long x0), .second, .val (.int (128 : Int32))] [(.ref b5)]))
      refine own_st (fun t k => XS.dup X5.here hx rfl (hb hby d5_34) rfl rfl k) ?_
      show own_Go p e below G (T5.setTop (mkF m 35 #[.val (.long x0), .second, .val (.int (128 : Int32))] [(.ref b5), (.ref b5)]))
      refine own_st (fun t k => XS.lloadN X5.here hx rfl (hb hby d5_35) rfl  k) ?_
      show own_Go p e below G (T5.setTop (mkF m 36 #[.val (.long x0), .second, .val (.int (128 : Int32))] [(.long x0), (.ref b5), (.ref b5)]))
      obtain ⟨v6, T6, L6, X6, Q6, st6⟩ := own_callC X5 hx hZ (y := (⟨"java/lang/Long", "<init>", "(J)V"⟩ : MethodName)) rfl hown (hw _ (List.mem_of_getElem? (i := 37) rfl)) (hw _ (List.mem_of_getElem? (i := 38) rfl)) (hw _ (List.mem_of_getElem? (i := 21) rfl)) (hw _ (List.mem_of_getElem? (i := 40) rfl)) (by decide) (W := 1) (rm4 l Z a0 hw b5 x0 h5 n0 Z0 g_b5 E_b5 F_value_b5) (by decide) (by decide) e5 (g := (mkF m 36 #[.val (.long x0), .second, .val (.int (128 : Int32))] [(.long x0), (.ref b5), (.ref b5)])) rfl (by rw [hml]; rfl) (a := b5) (argsL := [(.long x0)]) (rest := [(.ref b5)]) own_pd1 rfl rfl (by show 2 * 0 + _ ≤ _; exact Nat.le_of_eq rfl) (hb hby d5_36) rfl (by decide) (by decide)
      obtain ⟨rfl, Nq, Kq, Eq⟩ := Q6
      replace N0 := Fr.app N0 Nq
      have K1 : Keep h0 T6.heap [] := ((Keep.refl h0 []).ext E5).trans Kq (fun x hx => by cases List.mem_singleton.mp hx; exact Or.inr (Nat.le_of_eq gb5.symm))
      refine own_st st6 ?_
      show own_Go p e below G (T6.setTop (mkF m 39 #[.val (.long x0), .second, .val (.int (128 : Int32))] [(.ref b5)]))
      rw [hG]
      exact own_retA X6 hx hlk hret rfl rfl (hb hby d5_39) ⟨b5, rfl, N0, K1, Eq⟩ (by decide) (by decide)
    · skip
      refine own_st (fun t k => XS.ifNo X0.here hx rfl (hb hby d5_17) rfl ((if0 _ _).trans (flt (fun q => c17_4 ((lw_gt _ _).1 q))).2.2.1) k) ?_
      show own_Go p e below G (s₁.setTop (mkF m 20 #[.val (.long x0), .second, .val (.int (128 : Int32))] []))
      obtain ⟨T7, X7, e7, st7⟩ := getS X0 hx hZ hown (host := "") (hw _ (List.mem_of_getElem? (i := 25) rfl)) Via.refl e0 SC (g := (mkF m 20 #[.val (.long x0), .second, .val (.int (128 : Int32))] [])) rfl (hb hby d5_20)
      refine own_st st7 ?_
      show own_Go p e below G (T7.setTop (mkF m 23 #[.val (.long x0), .second, .val (.int (128 : Int32))] [(.ref ca)]))
      refine own_st (fun t k => XS.lloadN X7.here hx rfl (hb hby d5_23) rfl  k) ?_
      show own_Go p e below G (T7.setTop (mkF m 24 #[.val (.long x0), .second, .val (.int (128 : Int32))] [(.long x0), (.ref ca)]))
      refine own_st (fun t k => XS.l2i X7.here hx rfl (hb hby d5_24) rfl k) ?_
      show own_Go p e below G (T7.setTop (mkF m 25 #[.val (.long x0), .second, .val (.int (128 : Int32))] [(.int (x0.toInt32)), (.ref ca)]))
      refine own_st (fun t k => XS.sipush X7.here hx rfl (hb hby d5_25) k) ?_
      show own_Go p e below G (T7.setTop (mkF m 28 #[.val (.long x0), .second, .val (.int (128 : Int32))] [(.int (128 : Int32)), (.int (x0.toInt32)), (.ref ca)]))
      refine own_st (fun t k => XS.iadd X7.here hx rfl (hb hby d5_28) rfl k) ?_
      show own_Go p e below G (T7.setTop (mkF m 29 #[.val (.long x0), .second, .val (.int (128 : Int32))] [(.int ((x0.toInt32) + (128 : Int32))), (.ref ca)]))
      have hj := own_lidx c9_1 c17_4
      obtain ⟨r0, hr1, hr2⟩ := hel _ hj.1 hj.2
      have hin := inb_of hsz hj
      refine own_st (fun t k => X7.aaload hx (j := ((x0.toInt32) + (128 : Int32))) (v := (.ref r0)) (by rw [e7]; exact Arc.1) (State.isArrayOf_alike hZ.alike Arc.2.1) rfl Arc.2.2 hin hr1 (g := (mkF m 29 #[.val (.long x0), .second, .val (.int (128 : Int32))] [(.int ((x0.toInt32) + (128 : Int32))), (.ref ca)])) rfl rfl (hb hby d5_29) t k) ?_
      show own_Go p e below G (T7.setTop (mkF m 30 #[.val (.long x0), .second, .val (.int (128 : Int32))] [(.ref r0)]))
      rw [hG]
      exact own_retA X7 hx hlk hret rfl rfl (hb hby d5_30) (by rw [e7]; exact ⟨r0, rfl, N0, Keep.refl _ _, hr2⟩) (by decide) (by decide)
theorem d6_0 : decode prog_84_method_21_code 0 = .ok (.aload_n 1, 1) := by decide +kernel
theorem d6_1 : decode prog_84_method_21_code 1 = .ok (.instanceof 10, 3) := by decide +kernel
theorem d6_4 : decode prog_84_method_21_code 4 = .ok (.ifCond .eq 36, 3) := by decide +kernel
theorem d6_7 : decode prog_84_method_21_code 7 = .ok (.aload_n 1, 1) := by decide +kernel
theorem d6_8 : decode prog_84_method_21_code 8 = .ok (.checkcast 10, 3) := by decide +kernel
theorem d6_11 : decode prog_84_method_21_code 11 = .ok (.astore_n 2, 1) := by decide +kernel
theorem d6_12 : decode prog_84_method_21_code 12 = .ok (.aload_n 2, 1) := by decide +kernel
theorem d6_13 : decode prog_84_method_21_code 13 = .ok (.getfield 9, 3) := by decide +kernel
theorem d6_16 : decode prog_84_method_21_code 16 = .ok (.aload_n 0, 1) := by decide +kernel
theorem d6_17 : decode prog_84_method_21_code 17 = .ok (.getfield 9, 3) := by decide +kernel
theorem d6_20 : decode prog_84_method_21_code 20 = .ok (.lcmp, 1) := by decide +kernel
theorem d6_21 : decode prog_84_method_21_code 21 = .ok (.ifCond .ne 19, 3) := by decide +kernel
theorem d6_24 : decode prog_84_method_21_code 24 = .ok (.aload_n 2, 1) := by decide +kernel
theorem d6_25 : decode prog_84_method_21_code 25 = .ok (.getfield 15, 3) := by decide +kernel
theorem d6_28 : decode prog_84_method_21_code 28 = .ok (.aload_n 0, 1) := by decide +kernel
theorem d6_29 : decode prog_84_method_21_code 29 = .ok (.getfield 15, 3) := by decide +kernel
theorem d6_32 : decode prog_84_method_21_code 32 = .ok (.lcmp, 1) := by decide +kernel
theorem d6_33 : decode prog_84_method_21_code 33 = .ok (.ifCond .ne 7, 3) := by decide +kernel
theorem d6_36 : decode prog_84_method_21_code 36 = .ok (.iconst 1, 1) := by decide +kernel
theorem d6_37 : decode prog_84_method_21_code 37 = .ok (.goto 4, 3) := by decide +kernel
theorem d6_40 : decode prog_84_method_21_code 40 = .ok (.iconst 0, 1) := by decide +kernel
theorem d6_41 : decode prog_84_method_21_code 41 = .ok (.ireturn, 1) := by decide +kernel
theorem pn_rm6a : plainFor (⟨"com/example/pathweave/pathweave/Interval", "equals", "(Ljava/lang/Object;)Z"⟩ : MethodName) = true := by decide +kernel
theorem ef_rm6a (m : MethodId) (x0 : Addr) : entryFrame m #[(.ref x0), .null] 3 = mkF m 0 #[.val (.ref x0), .val .null, .unset] [] := by first | (simp [entryFrame, mkF, argsToLocals, Value.category]; done) | rfl
set_option maxRecDepth 65536 in
set_option maxHeartbeats 40000000 in
theorem rm6a (l : Launch) (Z : State) (a0 : Array Value) (hw : ∀ d ∈ tables_1, d.before a0 Z = true) (r0 : Addr) (h0 : Heap) :
    own_Met l Z (⟨"com/example/pathweave/pathweave/Interval", "equals", "(Ljava/lang/Object;)Z"⟩ : MethodName) prog_84_method_21_code 3 (some .boolean) [] ({ frames := 0, cells := 0, slots := 0, locals := 0 } : Room) #[(.ref r0), .null] h0 (fun v h L => v = some (.int 0) ∧ L = [] ∧ h = h0) := by
  refine own_body pn_rm6a ?_
  intro p e s m below meth c s₁ hx hby hml hown hnm hret hlk hZ X0 e0 G hG
  replace hml : c.maxLocals = 3 := hml
  replace hown : s.vm.findClass "com/example/pathweave/pathweave/Interval" = some m.cls := hown
  rw [ef_rm6a]
  show own_Go p e below G (s₁.setTop (mkF m 0 #[.val (.ref r0), .val .null, .unset] []))
  refine own_st (fun t k => XS.aloadN X0.here hx rfl (hb hby d6_0) rfl rfl  k) ?_
  show own_Go p e below G (s₁.setTop (mkF m 1 #[.val (.ref r0), .val .null, .unset] [.null]))
  refine own_st (fun t k => X0.instanceofNull hx (g := (mkF m 1 #[.val (.ref r0), .val .null, .unset] [.null])) rfl rfl (hb hby d6_1) t k) ?_
  show own_Go p e below G (s₁.setTop (mkF m 4 #[.val (.ref r0), .val .null, .unset] [(.int (0 : Int32))]))
  refine own_st (fun t k => XS.ifYes X0.here hx rfl (pc0 := 4) (pc' := 40) rfl (hb hby d6_4) rfl ((if0 _ _).trans (teq (by decide)).1) (by decide) (by decide) k) ?_
  show own_Go p e below G (s₁.setTop (mkF m 40 #[.val (.ref r0), .val .null, .unset] []))
  refine own_st (fun t k => XS.iconst X0.here hx rfl (hb hby d6_40) k) ?_
  show own_Go p e below G (s₁.setTop (mkF m 41 #[.val (.ref r0), .val .null, .unset] [(.int (0 : Int32))]))
  rw [hG]
  exact own_retZ X0 hx hlk (t := .boolean) hret (by simp) (hb hby d6_41) ⟨rfl, rfl, e0⟩ (by decide) (by decide)
theorem pn_rm6b : plainFor (⟨"com/example/pathweave/pathweave/Interval", "equals", "(Ljava/lang/Object;)Z"⟩ : MethodName) = true := by decide +kernel
theorem ef_rm6b (m : MethodId) (x0 : Addr) (x1 : Addr) : entryFrame m #[(.ref x0), (.ref x1)] 3 = mkF m 0 #[.val (.ref x0), .val (.ref x1), .unset] [] := by first | (simp [entryFrame, mkF, argsToLocals, Value.category]; done) | rfl
set_option maxRecDepth 65536 in
set_option maxHeartbeats 40000000 in
theorem rm6b (l : Launch) (Z : State) (a0 : Array Value) (hw : ∀ d ∈ tables_1, d.before a0 Z = true) (r0 r1 : Addr) (h0 : Heap) (E1 : Exa Z h0 r1 "java/lang/Long") (NO : ∃ c t, Z.vm.findClass "java/lang/Long" = some c ∧ Z.vm.findClass "com/example/pathweave/pathweave/Interval" = some t ∧ Z.vm.assignable c t = false) :
    own_Met l Z (⟨"com/example/pathweave/pathweave/Interval", "equals", "(Ljava/lang/Object;)Z"⟩ : MethodName) prog_84_method_21_code 3 (some .boolean) [] ({ frames := 0, cells := 0, slots := 0, locals := 0 } : Room) #[(.ref r0), (.ref r1)] h0 (fun v h L => v = some (.int 0) ∧ L = [] ∧ h = h0) := by
  refine own_body pn_rm6b ?_
  intro p e s m below meth c s₁ hx hby hml hown hnm hret hlk hZ X0 e0 G hG
  replace hml : c.maxLocals = 3 := hml
  replace hown : s.vm.findClass "com/example/pathweave/pathweave/Interval" = some m.cls := hown
  rw [ef_rm6b]
  show own_Go p e below G (s₁.setTop (mkF m 0 #[.val (.ref r0), .val (.ref r1), .unset] []))
  refine own_st (fun t k => XS.aloadN X0.here hx rfl (hb hby d6_0) rfl rfl  k) ?_
  show own_Go p e below G (s₁.setTop (mkF m 1 #[.val (.ref r0), .val (.ref r1), .unset] [(.ref r1)]))
  obtain ⟨T1, X1, e1, st1⟩ := instNo X0 hx hZ hown (hw _ (List.mem_of_getElem? (i := 33) rfl)) e0 E1 NO (g := (mkF m 1 #[.val (.ref r0), .val (.ref r1), .unset] [(.ref r1)])) rfl rfl (hb hby d6_1)
  refine own_st st1 ?_
  show own_Go p e below G (T1.setTop (mkF m 4 #[.val (.ref r0), .val (.ref r1), .unset] [(.int (0 : Int32))]))
  refine own_st (fun t k => XS.ifYes X1.here hx rfl (pc0 := 4) (pc' := 40) rfl (hb hby d6_4) rfl ((if0 _ _).trans (teq (by decide)).1) (by decide) (by decide) k) ?_
  show own_Go p e below G (T1.setTop (mkF m 40 #[.val (.ref r0), .val (.ref r1), .unset] []))
  refine own_st (fun t k => XS.iconst X1.here hx rfl (hb hby d6_40) k) ?_
  show own_Go p e below G (T1.setTop (mkF m 41 #[.val (.ref r0), .val (.ref r1), .unset] [(.int (0 : Int32))]))
  rw [hG]
  exact own_retZ X1 hx hlk (t := .boolean) hret (by simp) (hb hby d6_41) ⟨rfl, rfl, e1⟩ (by decide) (by decide)
theorem pn_rm6c : plainFor (⟨"com/example/pathweave/pathweave/Interval", "equals", "(Ljava/lang/Object;)Z"⟩ : MethodName) = true := by decide +kernel
theorem ef_rm6c (m : MethodId) (x0 : Addr) (x1 : Addr) : entryFrame m #[(.ref x0), (.ref x1)] 3 = mkF m 0 #[.val (.ref x0), .val (.ref x1), .unset] [] := by first | (simp [entryFrame, mkF, argsToLocals, Value.category]; done) | rfl
set_option maxRecDepth 65536 in
set_option maxHeartbeats 40000000 in
theorem rm6c (l : Launch) (Z : State) (a0 : Array Value) (hw : ∀ d ∈ tables_1, d.before a0 Z = true) (r0 r1 : Addr) (l1 h1 l2 h2 : Int64) (h0 : Heap) (E1 : Exa Z h0 r1 "com/example/pathweave/pathweave/Interval") (Fl0 : Fld Z h0 r0 "com/example/pathweave/pathweave/Interval" "low" "J" (.long l1)) (Fh0 : Fld Z h0 r0 "com/example/pathweave/pathweave/Interval" "high" "J" (.long h1)) (Fl1 : Fld Z h0 r1 "com/example/pathweave/pathweave/Interval" "low" "J" (.long l2)) (Fh1 : Fld Z h0 r1 "com/example/pathweave/pathweave/Interval" "high" "J" (.long h2)) :
    own_Met l Z (⟨"com/example/pathweave/pathweave/Interval", "equals", "(Ljava/lang/Object;)Z"⟩ : MethodName) prog_84_method_21_code 3 (some .boolean) [] ({ frames := 0, cells := 0, slots := 0, locals := 0 } : Room) #[(.ref r0), (.ref r1)] h0 (fun v h L => v = some (.int (own_iv l1 h1 l2 h2)) ∧ L = [] ∧ h = h0) := by
  refine own_body pn_rm6c ?_
  intro p e s m below meth c s₁ hx hby hml hown hnm hret hlk hZ X0 e0 G hG
  replace hml : c.maxLocals = 3 := hml
  replace hown : s.vm.findClass "com/example/pathweave/pathweave/Interval" = some m.cls := hown
  rw [ef_rm6c]
  show own_Go p e below G (s₁.setTop (mkF m 0 #[.val (.ref r0), .val (.ref r1), .unset] []))
  refine own_st (fun t k => XS.aloadN X0.here hx rfl (hb hby d6_0) rfl rfl  k) ?_
  show own_Go p e below G (s₁.setTop (mkF m 1 #[.val (.ref r0), .val (.ref r1), .unset] [(.ref r1)]))
  obtain ⟨T1, X1, e1, st1⟩ := instY X0 hx hZ hown (hw _ (List.mem_of_getElem? (i := 33) rfl)) e0 (Ins.self E1) (g := (mkF m 1 #[.val (.ref r0), .val (.ref r1), .unset] [(.ref r1)])) rfl rfl (hb hby d6_1)
  refine own_st st1 ?_
  show own_Go p e below G (T1.setTop (mkF m 4 #[.val (.ref r0), .val (.ref r1), .unset] [(.int (1 : Int32))]))
  refine own_st (fun t k => XS.ifNo X1.here hx rfl (hb hby d6_4) rfl ((if0 _ _).trans (feq (by decide)).1) k) ?_
  show own_Go p e below G (T1.setTop (mkF m 7 #[.val (.ref r0), .val (.ref r1), .unset] []))
  refine own_st (fun t k => XS.aloadN X1.here hx rfl (hb hby d6_7) rfl rfl  k) ?_
  show own_Go p e below G (T1.setTop (mkF m 8 #[.val (.ref r0), .val (.ref r1), .unset] [(.ref r1)]))
  obtain ⟨T2, X2, e2, st2⟩ := castY X1 hx hZ hown (hw _ (List.mem_of_getElem? (i := 33) rfl)) e1 (Ins.self E1) (g := (mkF m 8 #[.val (.ref r0), .val (.ref r1), .unset] [(.ref r1)])) rfl rfl (hb hby d6_8)
  refine own_st st2 ?_
  show own_Go p e below G (T2.setTop (mkF m 11 #[.val (.ref r0), .val (.ref r1), .unset] [(.ref r1)]))
  refine own_st (fun t k => XS.astoreN X2.here hx rfl (hb hby d6_11) rfl rfl (l' := #[.val (.ref r0), .val (.ref r1), .val (.ref r1)]) rfl k) ?_
  show own_Go p e below G (T2.setTop (mkF m 12 #[.val (.ref r0), .val (.ref r1), .val (.ref r1)] []))
  refine own_st (fun t k => XS.aloadN X2.here hx rfl (hb hby d6_12) rfl rfl  k) ?_
  show own_Go p e below G (T2.setTop (mkF m 13 #[.val (.ref r0), .val (.ref r1), .val (.ref r1)] [(.ref r1)]))
  obtain ⟨T3, X3, e3, st3⟩ := getF X2 hx hZ hown (host := "") (Or.inl (hw _ (List.mem_of_getElem? (i := 15) rfl))) Via.refl e2 Fl1 (g := (mkF m 13 #[.val (.ref r0), .val (.ref r1), .val (.ref r1)] [(.ref r1)])) rfl rfl (hb hby d6_13)
  refine own_st st3 ?_
  show own_Go p e below G (T3.setTop (mkF m 16 #[.val (.ref r0), .val (.ref r1), .val (.ref r1)] [(.long l2)]))
  refine own_st (fun t k => XS.aloadN X3.here hx rfl (hb hby d6_16) rfl rfl  k) ?_
  show own_Go p e below G (T3.setTop (mkF m 17 #[.val (.ref r0), .val (.ref r1), .val (.ref r1)] [(.ref r0), (.long l2)]))
  obtain ⟨T4, X4, e4, st4⟩ := getF X3 hx hZ hown (host := "") (Or.inl (hw _ (List.mem_of_getElem? (i := 15) rfl))) Via.refl e3 Fl0 (g := (mkF m 17 #[.val (.ref r0), .val (.ref r1), .val (.ref r1)] [(.ref r0), (.long l2)])) rfl rfl (hb hby d6_17)
  refine own_st st4 ?_
  show own_Go p e below G (T4.setTop (mkF m 20 #[.val (.ref r0), .val (.ref r1), .val (.ref r1)] [(.long l1), (.long l2)]))
  refine own_st (fun t k => XS.lcmp X4.here hx rfl (hb hby d6_20) rfl k) ?_
  show own_Go p e below G (T4.setTop (mkF m 21 #[.val (.ref r0), .val (.ref r1), .val (.ref r1)] [(.int (lcmpW l2 l1))]))
  by_cases c21_5 : l2 = l1
  · skip
    refine own_st (fun t k => XS.ifNo X4.here hx rfl (hb hby d6_21) rfl ((if0 _ _).trans (teq ((lw_eq _ _).2 c21_5)).2) k) ?_
    show own_Go p e below G (T4.setTop (mkF m 24 #[.val (.ref r0), .val (.ref r1), .val (.ref r1)] []))
    refine own_st (fun t k => XS.aloadN X4.here hx rfl (hb hby d6_24) rfl rfl  k) ?_
    show own_Go p e below G (T4.setTop (mkF m 25 #[.val (.ref r0), .val (.ref r1), .val (.ref r1)] [(.ref r1)]))
    obtain ⟨T6, X6, e6, st6⟩ := getF X4 hx hZ hown (host := "") (Or.inl (hw _ (List.mem_of_getElem? (i := 17) rfl))) Via.refl e4 Fh1 (g := (mkF m 25 #[.val (.ref r0), .val (.ref r1), .val (.ref r1)] [(.ref r1)])) rfl rfl (hb hby d6_25)
    refine own_st st6 ?_
    show own_Go p e below G (T6.setTop (mkF m 28 #[.val (.ref r0), .val (.ref r1), .val (.ref r1)] [(.long h2)]))
    refine own_st (fun t k => XS.aloadN X6.here hx rfl (hb hby d6_28) rfl rfl  k) ?_
    show own_Go p e below G (T6.setTop (mkF m 29 #[.val (.ref r0), .val (.ref r1), .val (.ref r1)] [(.ref r0), (.long h2)]))
    obtain ⟨T7, X7, e7, st7⟩ := getF X6 hx hZ hown (host := "") (Or.inl (hw _ (List.mem_of_getElem? (i := 17) rfl))) Via.refl e6 Fh0 (g := (mkF m 29 #[.val (.ref r0), .val (.ref r1), .val (.ref r1)] [(.ref r0), (.long h2)])) rfl rfl (hb hby d6_29)
    refine own_st st7 ?_
    show own_Go p e below G (T7.setTop (mkF m 32 #[.val (.ref r0), .val (.ref r1), .val (.ref r1)] [(.long h1), (.long h2)]))
    refine own_st (fun t k => XS.lcmp X7.here hx rfl (hb hby d6_32) rfl k) ?_
    show own_Go p e below G (T7.setTop (mkF m 33 #[.val (.ref r0), .val (.ref r1), .val (.ref r1)] [(.int (lcmpW h2 h1))]))
    by_cases c33_8 : h2 = h1
    · skip
      refine own_st (fun t k => XS.ifNo X7.here hx rfl (hb hby d6_33) rfl ((if0 _ _).trans (teq ((lw_eq _ _).2 c33_8)).2) k) ?_
      show own_Go p e below G (T7.setTop (mkF m 36 #[.val (.ref r0), .val (.ref r1), .val (.ref r1)] []))
      refine own_st (fun t k => XS.iconst X7.here hx rfl (hb hby d6_36) k) ?_
      show own_Go p e below G (T7.setTop (mkF m 37 #[.val (.ref r0), .val (.ref r1), .val (.ref r1)] [(.int (1 : Int32))]))
      refine own_st (fun t k => XS.goto X7.here hx rfl (pc0 := 37) (pc' := 41) rfl (hb hby d6_37) (by decide) (by decide) k) ?_
      show own_Go p e below G (T7.setTop (mkF m 41 #[.val (.ref r0), .val (.ref r1), .val (.ref r1)] [(.int (1 : Int32))]))
      rw [hG]
      exact own_retZ X7 hx hlk (t := .boolean) hret (by simp) (hb hby d6_41) ⟨congrArg (fun z => some (Value.int z)) (show (1 : Int32) = own_iv l1 h1 l2 h2 from (if_pos ⟨c21_5, c33_8⟩).symm), rfl, e7⟩ (by decide) (by decide)
    · skip
      refine own_st (fun t k => XS.ifYes X7.here hx rfl (pc0 := 33) (pc' := 40) rfl (hb hby d6_33) rfl ((if0 _ _).trans (feq (fun q => c33_8 ((lw_eq _ _).1 q))).2) (by decide) (by decide) k) ?_
      show own_Go p e below G (T7.setTop (mkF m 40 #[.val (.ref r0), .val (.ref r1), .val (.ref r1)] []))
      refine own_st (fun t k => XS.iconst X7.here hx rfl (hb hby d6_40) k) ?_
      show own_Go p e below G (T7.setTop (mkF m 41 #[.val (.ref r0), .val (.ref r1), .val (.ref r1)] [(.int (0 : Int32))]))
      rw [hG]
      exact own_retZ X7 hx hlk (t := .boolean) hret (by simp) (hb hby d6_41) ⟨congrArg (fun z => some (Value.int z)) (show (0 : Int32) = own_iv l1 h1 l2 h2 from (if_neg (fun q => c33_8 q.2)).symm), rfl, e7⟩ (by decide) (by decide)
  · skip
    refine own_st (fun t k => XS.ifYes X4.here hx rfl (pc0 := 21) (pc' := 40) rfl (hb hby d6_21) rfl ((if0 _ _).trans (feq (fun q => c21_5 ((lw_eq _ _).1 q))).2) (by decide) (by decide) k) ?_
    show own_Go p e below G (T4.setTop (mkF m 40 #[.val (.ref r0), .val (.ref r1), .val (.ref r1)] []))
    refine own_st (fun t k => XS.iconst X4.here hx rfl (hb hby d6_40) k) ?_
    show own_Go p e below G (T4.setTop (mkF m 41 #[.val (.ref r0), .val (.ref r1), .val (.ref r1)] [(.int (0 : Int32))]))
    rw [hG]
    exact own_retZ X4 hx hlk (t := .boolean) hret (by simp) (hb hby d6_41) ⟨congrArg (fun z => some (Value.int z)) (show (0 : Int32) = own_iv l1 h1 l2 h2 from (if_neg (fun q => c21_5 q.1)).symm), rfl, e4⟩ (by decide) (by decide)
theorem pn_rm0 : plainFor (⟨"com/example/pathweave/pathweave/IntervalEqualsPinLaw", "law", "(JJJJI)Z"⟩ : MethodName) = true := by decide +kernel
theorem ef_rm0 (m : MethodId) (x0 : Int64) (x1 : Int64) (x2 : Int64) (x3 : Int64) (x4 : Int32) : entryFrame m #[(.long x0), (.long x1), (.long x2), (.long x3), (.int x4)] maxLocals = mkF m 0 #[.val (.long x0), .second, .val (.long x1), .second, .val (.long x2), .second, .val (.long x3), .second, .val (.int x4), .unset, .unset, .unset, .unset, .unset, .unset, .unset, .unset, .unset, .unset, .unset, .unset, .unset] [] := by first | (simp [entryFrame, mkF, argsToLocals, Value.category, maxLocals]; done) | rfl
set_option maxRecDepth 65536 in
set_option maxHeartbeats 40000000 in
theorem rm0 (l : Launch) (Z : State) (a0 : Array Value) (hw : ∀ d ∈ tables_1, d.before a0 Z = true) (ws : List Jvm.Cond) (x0 x1 x2 x3 : Int64) (x4 : Int32) (ca : Addr) (clc : Cell) (h0 : Heap) (n0 : Nat) (Z0 : n0 ≤ h0.size) (OL : Old Z n0 h0) (SC : Sta Z Z.heap "java/lang/Long$LongCache" "cache" "[Ljava/lang/Long;" (.ref ca)) (Arc : Arr Z Z.heap ca clc (.object "java/lang/Long")) (hsz : clc.slots.size = (256 : Int32).toNatClampNeg) (hel : ∀ j : Int32, ¬ j < 0 → j < 256 → ∃ r, clc.slots[j.toNatClampNeg]? = some (.ref r) ∧ Exa Z Z.heap r "java/lang/Long") :
    own_Met l Z x code maxLocals ret ws room_1 #[(.long x0), (.long x1), (.long x2), (.long x3), (.int x4)] h0 (fun v h L => v = some (.int 1) ∧ Fr n0 L) := by
  refine own_body pn_rm0 ?_
  intro p e s m below meth c s₁ hx hby hml hown hnm hret hlk hZ X0 e0 G hG
  replace hml : c.maxLocals = 22 := hml
  replace hown : s.vm.findClass "com/example/pathweave/pathweave/IntervalEqualsPinLaw" = some m.cls := hown
  rw [ef_rm0]
  have N0 := Fr.nil n0
  show own_Go p e below G (s₁.setTop (mkF m 0 #[.val (.long x0), .second, .val (.long x1), .second, .val (.long x2), .second, .val (.long x3), .second, .val (.int x4), .unset, .unset, .unset, .unset, .unset, .unset, .unset, .unset, .unset, .unset, .unset, .unset, .unset] []))
  refine own_st (fun t k => XS.iload X0.here hx rfl (hb hby at_0) rfl  k) ?_
  show own_Go p e below G (s₁.setTop (mkF m 2 #[.val (.long x0), .second, .val (.long x1), .second, .val (.long x2), .second, .val (.long x3), .second, .val (.int x4), .unset, .unset, .unset, .unset, .unset, .unset, .unset, .unset, .unset, .unset, .unset, .unset, .unset] [(.int x4)]))
  refine own_st (fun t k => XS.iconst X0.here hx rfl (hb hby at_2) k) ?_
  show own_Go p e below G (s₁.setTop (mkF m 3 #[.val (.long x0), .second, .val (.long x1), .second, .val (.long x2), .second, .val (.long x3), .second, .val (.int x4), .unset, .unset, .unset, .unset, .unset, .unset, .unset, .unset, .unset, .unset, .unset, .unset, .unset] [(.int (1 : Int32)), (.int x4)]))
  refine own_st (fun t k => XS.iand X0.here hx rfl (hb hby at_3) rfl k) ?_
  show own_Go p e below G (s₁.setTop (mkF m 4 #[.val (.long x0), .second, .val (.long x1), .second, .val (.long x2), .second, .val (.long x3), .second, .val (.int x4), .unset, .unset, .unset, .unset, .unset, .unset, .unset, .unset, .unset, .unset, .unset, .unset, .unset] [(.int (x4 &&& (1 : Int32)))]))
  have J14 : ∀ (y14 : Int64), own_Go p e below G (s₁.setTop (mkF m 14 #[.val (.long x0), .second, .val (.long x1), .second, .val (.long x2), .second, .val (.long x3), .second, .val (.int x4), .unset, .unset, .unset, .unset, .unset, .unset, .unset, .unset, .unset, .unset, .unset, .unset, .unset] [(.long y14)])) := by
    intro y14
    refine own_st (fun t k => XS.lstore X0.here hx rfl (hb hby at_14) rfl (l' := #[.val (.long x0), .second, .val (.long x1), .second, .val (.long x2), .second, .val (.long x3), .second, .val (.int x4), .val (.long y14), .second, .unset, .unset, .unset, .unset, .unset, .unset, .unset, .unset, .unset, .unset, .unset]) rfl k) ?_
    show own_Go p e below G (s₁.setTop (mkF m 16 #[.val (.long x0), .second, .val (.long x1), .second, .val (.long x2), .second, .val (.long x3), .second, .val (.int x4), .val (.long y14), .second, .unset, .unset, .unset, .unset, .unset, .unset, .unset, .unset, .unset, .unset, .unset] []))
    refine own_st (fun t k => XS.iload X0.here hx rfl (hb hby at_16) rfl  k) ?_
    show own_Go p e below G (s₁.setTop (mkF m 18 #[.val (.long x0), .second, .val (.long x1), .second, .val (.long x2), .second, .val (.long x3), .second, .val (.int x4), .val (.long y14), .second, .unset, .unset, .unset, .unset, .unset, .unset, .unset, .unset, .unset, .unset, .unset] [(.int x4)]))
    refine own_st (fun t k => XS.iconst X0.here hx rfl (hb hby at_18) k) ?_
    show own_Go p e below G (s₁.setTop (mkF m 19 #[.val (.long x0), .second, .val (.long x1), .second, .val (.long x2), .second, .val (.long x3), .second, .val (.int x4), .val (.long y14), .second, .unset, .unset, .unset, .unset, .unset, .unset, .unset, .unset, .unset, .unset, .unset] [(.int (2 : Int32)), (.int x4)]))
    refine own_st (fun t k => XS.iand X0.here hx rfl (hb hby at_19) rfl k) ?_
    show own_Go p e below G (s₁.setTop (mkF m 20 #[.val (.long x0), .second, .val (.long x1), .second, .val (.long x2), .second, .val (.long x3), .second, .val (.int x4), .val (.long y14), .second, .unset, .unset, .unset, .unset, .unset, .unset, .unset, .unset, .unset, .unset, .unset] [(.int (x4 &&& (2 : Int32)))]))
    have J29 : ∀ (y29 : Int64), own_Go p e below G (s₁.setTop (mkF m 29 #[.val (.long x0), .second, .val (.long x1), .second, .val (.long x2), .second, .val (.long x3), .second, .val (.int x4), .val (.long y14), .second, .unset, .unset, .unset, .unset, .unset, .unset, .unset, .unset, .unset, .unset, .unset] [(.long y29)])) := by
      intro y29
      refine own_st (fun t k => XS.lstore X0.here hx rfl (hb hby at_29) rfl (l' := #[.val (.long x0), .second, .val (.long x1), .second, .val (.long x2), .second, .val (.long x3), .second, .val (.int x4), .val (.long y14), .second, .val (.long y29), .second, .unset, .unset, .unset, .unset, .unset, .unset, .unset, .unset, .unset]) rfl k) ?_
      show own_Go p e below G (s₁.setTop (mkF m 31 #[.val (.long x0), .second, .val (.long x1), .second, .val (.long x2), .second, .val (.long x3), .second, .val (.int x4), .val (.long y14), .second, .val (.long y29), .second, .unset, .unset, .unset, .unset, .unset, .unset, .unset, .unset, .unset] []))
      refine own_st (fun t k => XS.iload X0.here hx rfl (hb hby at_31) rfl  k) ?_
      show own_Go p e below G (s₁.setTop (mkF m 33 #[.val (.long x0), .second, .val (.long x1), .second, .val (.long x2), .second, .val (.long x3), .second, .val (.int x4), .val (.long y14), .second, .val (.long y29), .second, .unset, .unset, .unset, .unset, .unset, .unset, .unset, .unset, .unset] [(.int x4)]))
      refine own_st (fun t k => XS.iconst X0.here hx rfl (hb hby at_33) k) ?_
      show own_Go p e below G (s₁.setTop (mkF m 34 #[.val (.long x0), .second, .val (.long x1), .second, .val (.long x2), .second, .val (.long x3), .second, .val (.int x4), .val (.long y14), .second, .val (.long y29), .second, .unset, .unset, .unset, .unset, .unset, .unset, .unset, .unset, .unset] [(.int (4 : Int32)), (.int x4)]))
      refine own_st (fun t k => XS.iand X0.here hx rfl (hb hby at_34) rfl k) ?_
      show own_Go p e below G (s₁.setTop (mkF m 35 #[.val (.long x0), .second, .val (.long x1), .second, .val (.long x2), .second, .val (.long x3), .second, .val (.int x4), .val (.long y14), .second, .val (.long y29), .second, .unset, .unset, .unset, .unset, .unset, .unset, .unset, .unset, .unset] [(.int (x4 &&& (4 : Int32)))]))
      have J44 : ∀ (y44 : Int64), own_Go p e below G (s₁.setTop (mkF m 44 #[.val (.long x0), .second, .val (.long x1), .second, .val (.long x2), .second, .val (.long x3), .second, .val (.int x4), .val (.long y14), .second, .val (.long y29), .second, .unset, .unset, .unset, .unset, .unset, .unset, .unset, .unset, .unset] [(.long y44)])) := by
        intro y44
        refine own_st (fun t k => XS.lstore X0.here hx rfl (hb hby at_44) rfl (l' := #[.val (.long x0), .second, .val (.long x1), .second, .val (.long x2), .second, .val (.long x3), .second, .val (.int x4), .val (.long y14), .second, .val (.long y29), .second, .val (.long y44), .second, .unset, .unset, .unset, .unset, .unset, .unset, .unset]) rfl k) ?_
        show own_Go p e below G (s₁.setTop (mkF m 46 #[.val (.long x0), .second, .val (.long x1), .second, .val (.long x2), .second, .val (.long x3), .second, .val (.int x4), .val (.long y14), .second, .val (.long y29), .second, .val (.long y44), .second, .unset, .unset, .unset, .unset, .unset, .unset, .unset] []))
        refine own_st (fun t k => XS.iload X0.here hx rfl (hb hby at_46) rfl  k) ?_
        show own_Go p e below G (s₁.setTop (mkF m 48 #[.val (.long x0), .second, .val (.long x1), .second, .val (.long x2), .second, .val (.long x3), .second, .val (.int x4), .val (.long y14), .second, .val (.long y29), .second, .val (.long y44), .second, .unset, .unset, .unset, .unset, .unset, .unset, .unset] [(.int x4)]))
        refine own_st (fun t k => XS.bipush X0.here hx rfl (hb hby at_48) k) ?_
        show own_Go p e below G (s₁.setTop (mkF m 50 #[.val (.long x0), .second, .val (.long x1), .second, .val (.long x2), .second, .val (.long x3), .second, .val (.int x4), .val (.long y14), .second, .val (.long y29), .second, .val (.long y44), .second, .unset, .unset, .unset, .unset, .unset, .unset, .unset] [(.int (8 : Int32)), (.int x4)]))
        refine own_st (fun t k => XS.iand X0.here hx rfl (hb hby at_50) rfl k) ?_
        show own_Go p e below G (s₁.setTop (mkF m 51 #[.val (.long x0), .second, .val (.long x1), .second, .val (.long x2), .second, .val (.long x3), .second, .val (.int x4), .val (.long y14), .second, .val (.long y29), .second, .val (.long y44), .second, .unset, .unset, .unset, .unset, .unset, .unset, .unset] [(.int (x4 &&& (8 : Int32)))]))
        have J60 : ∀ (y60 : Int64), own_Go p e below G (s₁.setTop (mkF m 60 #[.val (.long x0), .second, .val (.long x1), .second, .val (.long x2), .second, .val (.long x3), .second, .val (.int x4), .val (.long y14), .second, .val (.long y29), .second, .val (.long y60), .second, .unset, .unset, .unset, .unset, .unset, .unset, .unset] [])) := by
          intro y60
          obtain ⟨T1, h1, X1, e1, E1, A1, D1, -, st1⟩ := newO X0 hx hZ hown (hw _ (List.mem_of_getElem? (i := 0) rfl)) (hw _ (List.mem_of_getElem? (i := 1) rfl)) (hw _ (List.mem_of_getElem? (i := 2) rfl)) e0 (g := (mkF m 60 #[.val (.long x0), .second, .val (.long x1), .second, .val (.long x2), .second, .val (.long x3), .second, .val (.int x4), .val (.long y14), .second, .val (.long y29), .second, .val (.long y60), .second, .unset, .unset, .unset, .unset, .unset, .unset, .unset] [])) rfl (hb hby at_60) (by decide) (by decide)
          obtain ⟨b1, gb1⟩ : ∃ z, z = h0.size := ⟨_, rfl⟩
          rw [← gb1] at A1 D1 st1
          have g_b1 : n0 ≤ b1 := Nat.le_trans Z0 (Nat.le_of_eq gb1.symm)
          replace Z0 := Nat.le_trans Z0 E1.1
          replace OL := OL.ext E1
          have E_b1 := A1
          have F_low_b1 : Fld Z h1 b1 "com/example/pathweave/pathweave/Interval" "low" "J" (.long (0 : Int64)) := D1 (Or.inr (hw _ (List.mem_of_getElem? (i := 16) rfl))) (ty := .long) (by decide)
          have F_high_b1 : Fld Z h1 b1 "com/example/pathweave/pathweave/Interval" "high" "J" (.long (0 : Int64)) := D1 (Or.inr (hw _ (List.mem_of_getElem? (i := 18) rfl))) (ty := .long) (by decide)
          refine own_st st1 ?_
          show own_Go p e below G (T1.setTop (mkF m 63 #[.val (.long x0), .second, .val (.long x1), .second, .val (.long x2), .second, .val (.long x3), .second, .val (.int x4), .val (.long y14), .second, .val (.long y29), .second, .val (.long y60), .second, .unset, .unset, .unset, .unset, .unset, .unset, .unset] [(.ref b1)]))
          refine own_st (fun t k => XS.dup X1.here hx rfl (hb hby at_63) rfl rfl k) ?_
          show own_Go p e below G (T1.setTop (mkF m 64 #[.val (.long x0), .second, .val (.long x1), .second, .val (.long x2), .second, .val (.long x3), .second, .val (.int x4), .val (.long y14), .second, .val (.long y29), .second, .val (.long y60), .second, .unset, .unset, .unset, .unset, .unset, .unset, .unset] [(.ref b1), (.ref b1)]))
          refine own_st (fun t k => XS.lloadN X1.here hx rfl (hb hby at_64) rfl  k) ?_
          show own_Go p e below G (T1.setTop (mkF m 65 #[.val (.long x0), .second, .val (.long x1), .second, .val (.long x2), .second, .val (.long x3), .second, .val (.int x4), .val (.long y14), .second, .val (.long y29), .second, .val (.long y60), .second, .unset, .unset, .unset, .unset, .unset, .unset, .unset] [(.long x0), (.ref b1), (.ref b1)]))
          refine own_st (fun t k => XS.lload X1.here hx rfl (hb hby at_65) rfl  k) ?_
          show own_Go p e below G (T1.setTop (mkF m 67 #[.val (.long x0), .second, .val (.long x1), .second, .val (.long x2), .second, .val (.long x3), .second, .val (.int x4), .val (.long y14), .second, .val (.long y29), .second, .val (.long y60), .second, .unset, .unset, .unset, .unset, .unset, .unset, .unset] [(.long y14), (.long x0), (.ref b1), (.ref b1)]))
          obtain ⟨v2, T2, L2, X2, Q2, st2⟩ := own_callC X1 hx hZ (y := (⟨"com/example/pathweave/pathweave/Interval", "<init>", "(JJ)V"⟩ : MethodName)) rfl hown (hw _ (List.mem_of_getElem? (i := 3) rfl)) (hw _ (List.mem_of_getElem? (i := 4) rfl)) (hw _ (List.mem_of_getElem? (i := 2) rfl)) (hw _ (List.mem_of_getElem? (i := 5) rfl)) (by decide) (W := 1) (rm2 l Z a0 hw b1 x0 y14 h1 n0 Z0 g_b1 E_b1 F_low_b1 F_high_b1) (by decide) (by decide) e1 (g := (mkF m 67 #[.val (.long x0), .second, .val (.long x1), .second, .val (.long x2), .second, .val (.long x3), .second, .val (.int x4), .val (.long y14), .second, .val (.long y29), .second, .val (.long y60), .second, .unset, .unset, .unset, .unset, .unset, .unset, .unset] [(.long y14), (.long x0), (.ref b1), (.ref b1)])) rfl (by rw [hml]; rfl) (a := b1) (argsL := [(.long x0), (.long y14)]) (rest := [(.ref b1)]) own_pd2 rfl rfl (by show 2 * 0 + _ ≤ _; exact Nat.le_of_eq rfl) (hb hby at_67) rfl (by decide) (by decide)
          obtain ⟨rfl, Nq2, Kq2, Eq_b1, Fl_b1, Fh_b1⟩ := Q2
          replace N0 := Fr.app N0 Nq2
          replace OL := OL.keep Kq2 (allS g_b1 all0)
          replace Z0 := Nat.le_trans Z0 Kq2.1
          refine own_st st2 ?_
          show own_Go p e below G (T2.setTop (mkF m 70 #[.val (.long x0), .second, .val (.long x1), .second, .val (.long x2), .second, .val (.long x3), .second, .val (.int x4), .val (.long y14), .second, .val (.long y29), .second, .val (.long y60), .second, .unset, .unset, .unset, .unset, .unset, .unset, .unset] [(.ref b1)]))
          refine own_st (fun t k => XS.astore X2.here hx rfl (hb hby at_70) rfl rfl (l' := #[.val (.long x0), .second, .val (.long x1), .second, .val (.long x2), .second, .val (.long x3), .second, .val (.int x4), .val (.long y14), .second, .val (.long y29), .second, .val (.long y60), .second, .val (.ref b1), .unset, .unset, .unset, .unset, .unset, .unset]) rfl k) ?_
          show own_Go p e below G (T2.setTop (mkF m 72 #[.val (.long x0), .second, .val (.long x1), .second, .val (.long x2), .second, .val (.long x3), .second, .val (.int x4), .val (.long y14), .second, .val (.long y29), .second, .val (.long y60), .second, .val (.ref b1), .unset, .unset, .unset, .unset, .unset, .unset] []))
          obtain ⟨T3, h3, X3, e3, E3, A3, D3, -, st3⟩ := newO X2 hx hZ hown (hw _ (List.mem_of_getElem? (i := 0) rfl)) (hw _ (List.mem_of_getElem? (i := 1) rfl)) (hw _ (List.mem_of_getElem? (i := 2) rfl)) rfl (g := (mkF m 72 #[.val (.long x0), .second, .val (.long x1), .second, .val (.long x2), .second, .val (.long x3), .second, .val (.int x4), .val (.long y14), .second, .val (.long y29), .second, .val (.long y60), .second, .val (.ref b1), .unset, .unset, .unset, .unset, .unset, .unset] [])) rfl (hb hby at_72) (by decide) (by decide)
          obtain ⟨b3, gb3⟩ : ∃ z, z = T2.heap.size := ⟨_, rfl⟩
          rw [← gb3] at A3 D3 st3
          have g_b3 : n0 ≤ b3 := Nat.le_trans Z0 (Nat.le_of_eq gb3.symm)
          have ne_b1_b3 : b1 ≠ b3 := Nat.ne_of_lt (Nat.lt_of_lt_of_le Eq_b1.lt (Nat.le_of_eq gb3.symm))
          replace Z0 := Nat.le_trans Z0 E3.1
          replace OL := OL.ext E3
          replace Eq_b1 := Eq_b1.ext E3
          replace Fl_b1 := Fl_b1.ext E3
          replace Fh_b1 := Fh_b1.ext E3
          have E_b3 := A3
          have F_low_b3 : Fld Z h3 b3 "com/example/pathweave/pathweave/Interval" "low" "J" (.long (0 : Int64)) := D3 (Or.inr (hw _ (List.mem_of_getElem? (i := 16) rfl))) (ty := .long) (by decide)
          have F_high_b3 : Fld Z h3 b3 "com/example/pathweave/pathweave/Interval" "high" "J" (.long (0 : Int64)) := D3 (Or.inr (hw _ (List.mem_of_getElem? (i := 18) rfl))) (ty := .long) (by decide)
          refine own_st st3 ?_
          show own_Go p e below G (T3.setTop (mkF m 75 #[.val (.long x0), .second, .val (.long x1), .second, .val (.long x2), .second, .val (.long x3), .second, .val (.int x4), .val (.long y14), .second, .val (.long y29), .second, .val (.long y60), .second, .val (.ref b1), .unset, .unset, .unset, .unset, .unset, .unset] [(.ref b3)]))
          refine own_st (fun t k => XS.dup X3.here hx rfl (hb hby at_75) rfl rfl k) ?_
          show own_Go p e below G (T3.setTop (mkF m 76 #[.val (.long x0), .second, .val (.long x1), .second, .val (.long x2), .second, .val (.long x3), .second, .val (.int x4), .val (.long y14), .second, .val (.long y29), .second, .val (.long y60), .second, .val (.ref b1), .unset, .unset, .unset, .unset, .unset, .unset] [(.ref b3), (.ref b3)]))
          refine own_st (fun t k => XS.lload X3.here hx rfl (hb hby at_76) rfl  k) ?_
          show own_Go p e below G (T3.setTop (mkF m 78 #[.val (.long x0), .second, .val (.long x1), .second, .val (.long x2), .second, .val (.long x3), .second, .val (.int x4), .val (.long y14), .second, .val (.long y29), .second, .val (.long y60), .second, .val (.ref b1), .unset, .unset, .unset, .unset, .unset, .unset] [(.long y29), (.ref b3), (.ref b3)]))
          refine own_st (fun t k => XS.lload X3.here hx rfl (hb hby at_78) rfl  k) ?_
          show own_Go p e below G (T3.setTop (mkF m 80 #[.val (.long x0), .second, .val (.long x1), .second, .val (.long x2), .second, .val (.long x3), .second, .val (.int x4), .val (.long y14), .second, .val (.long y29), .second, .val (.long y60), .second, .val (.ref b1), .unset, .unset, .unset, .unset, .unset, .unset] [(.long y60), (.long y29), (.ref b3), (.ref b3)]))
          obtain ⟨v4, T4, L4, X4, Q4, st4⟩ := own_callC X3 hx hZ (y := (⟨"com/example/pathweave/pathweave/Interval", "<init>", "(JJ)V"⟩ : MethodName)) rfl hown (hw _ (List.mem_of_getElem? (i := 3) rfl)) (hw _ (List.mem_of_getElem? (i := 4) rfl)) (hw _ (List.mem_of_getElem? (i := 2) rfl)) (hw _ (List.mem_of_getElem? (i := 5) rfl)) (by decide) (W := 1) (rm2 l Z a0 hw b3 y29 y60 h3 n0 Z0 g_b3 E_b3 F_low_b3 F_high_b3) (by decide) (by decide) e3 (g := (mkF m 80 #[.val (.long x0), .second, .val (.long x1), .second, .val (.long x2), .second, .val (.long x3), .second, .val (.int x4), .val (.long y14), .second, .val (.long y29), .second, .val (.long y60), .second, .val (.ref b1), .unset, .unset, .unset, .unset, .unset, .unset] [(.long y60), (.long y29), (.ref b3), (.ref b3)])) rfl (by rw [hml]; rfl) (a := b3) (argsL := [(.long y29), (.long y60)]) (rest := [(.ref b3)]) own_pd2 rfl rfl (by show 2 * 0 + _ ≤ _; exact Nat.le_of_eq rfl) (hb hby at_80) rfl (by decide) (by decide)
          obtain ⟨rfl, Nq4, Kq4, Eq_b3, Fl_b3, Fh_b3⟩ := Q4
          replace N0 := Fr.app N0 Nq4
          replace OL := OL.keep Kq4 (allS g_b3 all0)
          replace Eq_b1 := Eq_b1.keep Kq4
          replace Fl_b1 := Fl_b1.keep Kq4 (ninS ne_b1_b3 nin0)
          replace Fh_b1 := Fh_b1.keep Kq4 (ninS ne_b1_b3 nin0)
          replace Z0 := Nat.le_trans Z0 Kq4.1
          refine own_st st4 ?_
          show own_Go p e below G (T4.setTop (mkF m 83 #[.val (.long x0), .second, .val (.long x1), .second, .val (.long x2), .second, .val (.long x3), .second, .val (.int x4), .val (.long y14), .second, .val (.long y29), .second, .val (.long y60), .second, .val (.ref b1), .unset, .unset, .unset, .unset, .unset, .unset] [(.ref b3)]))
          refine own_st (fun t k => XS.astore X4.here hx rfl (hb hby at_83) rfl rfl (l' := #[.val (.long x0), .second, .val (.long x1), .second, .val (.long x2), .second, .val (.long x3), .second, .val (.int x4), .val (.long y14), .second, .val (.long y29), .second, .val (.long y60), .second, .val (.ref b1), .val (.ref b3), .unset, .unset, .unset, .unset, .unset]) rfl k) ?_
          show own_Go p e below G (T4.setTop (mkF m 85 #[.val (.long x0), .second, .val (.long x1), .second, .val (.long x2), .second, .val (.long x3), .second, .val (.int x4), .val (.long y14), .second, .val (.long y29), .second, .val (.long y60), .second, .val (.ref b1), .val (.ref b3), .unset, .unset, .unset, .unset, .unset] []))
          refine own_st (fun t k => XS.lloadN X4.here hx rfl (hb hby at_85) rfl  k) ?_
          show own_Go p e below G (T4.setTop (mkF m 86 #[.val (.long x0), .second, .val (.long x1), .second, .val (.long x2), .second, .val (.long x3), .second, .val (.int x4), .val (.long y14), .second, .val (.long y29), .second, .val (.long y60), .second, .val (.ref b1), .val (.ref b3), .unset, .unset, .unset, .unset, .unset] [(.long x0)]))
          obtain ⟨v5, T5, L5, X5, Q5, st5⟩ := own_callS X4 hx hZ (y := (⟨"java/lang/Long", "valueOf", "(J)Ljava/lang/Long;"⟩ : MethodName)) hown (hw _ (List.mem_of_getElem? (i := 19) rfl)) (hw _ (List.mem_of_getElem? (i := 20) rfl)) (hw _ (List.mem_of_getElem? (i := 21) rfl)) (hw _ (List.mem_of_getElem? (i := 22) rfl)) (by decide) (W := 0) (rm5 l Z a0 hw x0 ca clc T4.heap n0 Z0 (SC.ext OL.2) (Arc.ext OL.2) hsz (fun j h1 h2 => by obtain ⟨r, z1, z2⟩ := hel j h1 h2; exact ⟨r, z1, z2.ext OL.2⟩)) (by decide) (by decide) rfl (g := (mkF m 86 #[.val (.long x0), .second, .val (.long x1), .second, .val (.long x2), .second, .val (.long x3), .second, .val (.int x4), .val (.long y14), .second, .val (.long y29), .second, .val (.long y60), .second, .val (.ref b1), .val (.ref b3), .unset, .unset, .unset, .unset, .unset] [(.long x0)])) rfl (by rw [hml]; rfl) (argsL := [(.long x0)]) (rest := []) own_pd3 rfl rfl (by show 2 * 0 + _ ≤ _; exact Nat.le_of_eq rfl) (hb hby at_86) rfl (by decide) (by decide)
          obtain ⟨bx, rfl, Nq5, Kq5, Ebx⟩ := Q5
          replace N0 := Fr.app N0 Nq5
          replace OL := OL.keep Kq5 all0
          replace Eq_b1 := Eq_b1.keep Kq5
          replace Fl_b1 := Fl_b1.keep Kq5 nin0
          replace Fh_b1 := Fh_b1.keep Kq5 nin0
          replace Eq_b3 := Eq_b3.keep Kq5
          replace Fl_b3 := Fl_b3.keep Kq5 nin0
          replace Fh_b3 := Fh_b3.keep Kq5 nin0
          replace Z0 := Nat.le_trans Z0 Kq5.1
          refine own_st st5 ?_
          show own_Go p e below G (T5.setTop (mkF m 89 #[.val (.long x0), .second, .val (.long x1), .second, .val (.long x2), .second, .val (.long x3), .second, .val (.int x4), .val (.long y14), .second, .val (.long y29), .second, .val (.long y60), .second, .val (.ref b1), .val (.ref b3), .unset, .unset, .unset, .unset, .unset] [(.ref bx)]))
          refine own_st (fun t k => XS.astore X5.here hx rfl (hb hby at_89) rfl rfl (l' := #[.val (.long x0), .second, .val (.long x1), .second, .val (.long x2), .second, .val (.long x3), .second, .val (.int x4), .val (.long y14), .second, .val (.long y29), .second, .val (.long y60), .second, .val (.ref b1), .val (.ref b3), .val (.ref bx), .unset, .unset, .unset, .unset]) rfl k) ?_
          show own_Go p e below G (T5.setTop (mkF m 91 #[.val (.long x0), .second, .val (.long x1), .second, .val (.long x2), .second, .val (.long x3), .second, .val (.int x4), .val (.long y14), .second, .val (.long y29), .second, .val (.long y60), .second, .val (.ref b1), .val (.ref b3), .val (.ref bx), .unset, .unset, .unset, .unset] []))
          refine own_st (fun t k => XS.iload X5.here hx rfl (hb hby at_91) rfl  k) ?_
          show own_Go p e below G (T5.setTop (mkF m 93 #[.val (.long x0), .second, .val (.long x1), .second, .val (.long x2), .second, .val (.long x3), .second, .val (.int x4), .val (.long y14), .second, .val (.long y29), .second, .val (.long y60), .second, .val (.ref b1), .val (.ref b3), .val (.ref bx), .unset, .unset, .unset, .unset] [(.int x4)]))
          refine own_st (fun t k => XS.iconst X5.here hx rfl (hb hby at_93) k) ?_
          show own_Go p e below G (T5.setTop (mkF m 94 #[.val (.long x0), .second, .val (.long x1), .second, .val (.long x2), .second, .val (.long x3), .second, .val (.int x4), .val (.long y14), .second, .val (.long y29), .second, .val (.long y60), .second, .val (.ref b1), .val (.ref b3), .val (.ref bx), .unset, .unset, .unset, .unset] [(.int (4 : Int32)), (.int x4)]))
          refine own_st (fun t k => XS.iushr X5.here hx rfl (hb hby at_94) rfl k) ?_
          show own_Go p e below G (T5.setTop (mkF m 95 #[.val (.long x0), .second, .val (.long x1), .second, .val (.long x2), .second, .val (.long x3), .second, .val (.int x4), .val (.long y14), .second, .val (.long y29), .second, .val (.long y60), .second, .val (.ref b1), .val (.ref b3), .val (.ref bx), .unset, .unset, .unset, .unset] [(.int ((x4.toUInt32 >>> ((4 : Int32) &&& 31).toUInt32).toInt32))]))
          refine own_st (fun t k => XS.iconst X5.here hx rfl (hb hby at_95) k) ?_
          show own_Go p e below G (T5.setTop (mkF m 96 #[.val (.long x0), .second, .val (.long x1), .second, .val (.long x2), .second, .val (.long x3), .second, .val (.int x4), .val (.long y14), .second, .val (.long y29), .second, .val (.long y60), .second, .val (.ref b1), .val (.ref b3), .val (.ref bx), .unset, .unset, .unset, .unset] [(.int (3 : Int32)), (.int ((x4.toUInt32 >>> ((4 : Int32) &&& 31).toUInt32).toInt32))]))
          refine own_st (fun t k => XS.iand X5.here hx rfl (hb hby at_96) rfl k) ?_
          show own_Go p e below G (T5.setTop (mkF m 97 #[.val (.long x0), .second, .val (.long x1), .second, .val (.long x2), .second, .val (.long x3), .second, .val (.int x4), .val (.long y14), .second, .val (.long y29), .second, .val (.long y60), .second, .val (.ref b1), .val (.ref b3), .val (.ref bx), .unset, .unset, .unset, .unset] [(.int (((x4.toUInt32 >>> ((4 : Int32) &&& 31).toUInt32).toInt32) &&& (3 : Int32)))]))
          refine own_st (fun t k => XS.istore X5.here hx rfl (hb hby at_97) rfl (l' := #[.val (.long x0), .second, .val (.long x1), .second, .val (.long x2), .second, .val (.long x3), .second, .val (.int x4), .val (.long y14), .second, .val (.long y29), .second, .val (.long y60), .second, .val (.ref b1), .val (.ref b3), .val (.ref bx), .val (.int (((x4.toUInt32 >>> ((4 : Int32) &&& 31).toUInt32).toInt32) &&& (3 : Int32))), .unset, .unset, .unset]) rfl k) ?_
          show own_Go p e below G (T5.setTop (mkF m 99 #[.val (.long x0), .second, .val (.long x1), .second, .val (.long x2), .second, .val (.long x3), .second, .val (.int x4), .val (.long y14), .second, .val (.long y29), .second, .val (.long y60), .second, .val (.ref b1), .val (.ref b3), .val (.ref bx), .val (.int (((x4.toUInt32 >>> ((4 : Int32) &&& 31).toUInt32).toInt32) &&& (3 : Int32))), .unset, .unset, .unset] []))
          generalize (((x4.toUInt32 >>> ((4 : Int32) &&& 31).toUInt32).toInt32) &&& (3 : Int32)) = k0
          refine own_st (fun t k => XS.iload X5.here hx rfl (hb hby at_99) rfl  k) ?_
          show own_Go p e below G (T5.setTop (mkF m 101 #[.val (.long x0), .second, .val (.long x1), .second, .val (.long x2), .second, .val (.long x3), .second, .val (.int x4), .val (.long y14), .second, .val (.long y29), .second, .val (.long y60), .second, .val (.ref b1), .val (.ref b3), .val (.ref bx), .val (.int k0), .unset, .unset, .unset] [(.int k0)]))
          refine own_st (fun t k => XS.iconst X5.here hx rfl (hb hby at_101) k) ?_
          show own_Go p e below G (T5.setTop (mkF m 102 #[.val (.long x0), .second, .val (.long x1), .second, .val (.long x2), .second, .val (.long x3), .second, .val (.int x4), .val (.long y14), .second, .val (.long y29), .second, .val (.long y60), .second, .val (.ref b1), .val (.ref b3), .val (.ref bx), .val (.int k0), .unset, .unset, .unset] [(.int (2 : Int32)), (.int k0)]))
          by_cases c102_6 : k0 = (2 : Int32)
          · skip
            refine own_st (fun t k => XS.icmpNo X5.here hx rfl (hb hby at_102) rfl (teq c102_6).2 k) ?_
            show own_Go p e below G (T5.setTop (mkF m 105 #[.val (.long x0), .second, .val (.long x1), .second, .val (.long x2), .second, .val (.long x3), .second, .val (.int x4), .val (.long y14), .second, .val (.long y29), .second, .val (.long y60), .second, .val (.ref b1), .val (.ref b3), .val (.ref bx), .val (.int k0), .unset, .unset, .unset] []))
            refine own_st (fun t k => XS.aload X5.here hx rfl (hb hby at_105) rfl rfl  k) ?_
            show own_Go p e below G (T5.setTop (mkF m 107 #[.val (.long x0), .second, .val (.long x1), .second, .val (.long x2), .second, .val (.long x3), .second, .val (.int x4), .val (.long y14), .second, .val (.long y29), .second, .val (.long y60), .second, .val (.ref b1), .val (.ref b3), .val (.ref bx), .val (.int k0), .unset, .unset, .unset] [(.ref b1)]))
            refine own_st (fun t k => XS.aload X5.here hx rfl (hb hby at_107) rfl rfl  k) ?_
            show own_Go p e below G (T5.setTop (mkF m 109 #[.val (.long x0), .second, .val (.long x1), .second, .val (.long x2), .second, .val (.long x3), .second, .val (.int x4), .val (.long y14), .second, .val (.long y29), .second, .val (.long y60), .second, .val (.ref b1), .val (.ref b3), .val (.ref bx), .val (.int k0), .unset, .unset, .unset] [(.ref bx), (.ref b1)]))
            obtain ⟨v7, T7, L7, X7, Q7, st7⟩ := own_callV X5 hx hZ (y := (⟨"com/example/pathweave/pathweave/Interval", "equals", "(Ljava/lang/Object;)Z"⟩ : MethodName)) (z := (⟨"com/example/pathweave/pathweave/Interval", "equals", "(Ljava/lang/Object;)Z"⟩ : MethodName)) hown (hw _ (List.mem_of_getElem? (i := 28) rfl)) (hw _ (List.mem_of_getElem? (i := 29) rfl)) (notFace_of_selects (args := #[]) (mvT hZ (hw _ (List.mem_of_getElem? (i := 31) rfl)))) (hw _ (List.mem_of_getElem? (i := 31) rfl)) (hw _ (List.mem_of_getElem? (i := 30) rfl)) (hw _ (List.mem_of_getElem? (i := 2) rfl)) (hw _ (List.mem_of_getElem? (i := 32) rfl)) (by decide) (W := 0) (rm6b l Z a0 hw b1 bx T5.heap Ebx (own_NSno (hw _ (List.mem_of_getElem? (i := 50) rfl)) (hw _ (List.mem_of_getElem? (i := 1) rfl)) (NS.step (hw _ (List.mem_of_getElem? (i := 50) rfl)) (NS.step (hw _ (List.mem_of_getElem? (i := 51) rfl)) (own_NSr (hw _ (List.mem_of_getElem? (i := 52) rfl)) (hw _ (List.mem_of_getElem? (i := 1) rfl)) (by decide)) (by decide)) (by decide)) (by decide))) (by decide) (by decide) rfl Eq_b1 (g := (mkF m 109 #[.val (.long x0), .second, .val (.long x1), .second, .val (.long x2), .second, .val (.long x3), .second, .val (.int x4), .val (.long y14), .second, .val (.long y29), .second, .val (.long y60), .second, .val (.ref b1), .val (.ref b3), .val (.ref bx), .val (.int k0), .unset, .unset, .unset] [(.ref bx), (.ref b1)])) rfl (by rw [hml]; rfl) (argsL := [(.ref bx)]) (rest := []) own_pd4 rfl rfl (by show 2 * 0 + _ ≤ _; exact Nat.le_of_eq rfl) (hb hby at_109) rfl (by decide) (by decide)
            obtain ⟨rfl, rfl, e7⟩ := Q7
            simp only [List.append_nil, Nat.add_zero] at X7
            refine own_st st7 ?_
            show own_Go p e below G (T7.setTop (mkF m 112 #[.val (.long x0), .second, .val (.long x1), .second, .val (.long x2), .second, .val (.long x3), .second, .val (.int x4), .val (.long y14), .second, .val (.long y29), .second, .val (.long y60), .second, .val (.ref b1), .val (.ref b3), .val (.ref bx), .val (.int k0), .unset, .unset, .unset] [(.int (0 : Int32))]))
            refine own_st (fun t k => XS.ifNo X7.here hx rfl (hb hby at_112) rfl ((if0 _ _).trans (teq (by decide)).2) k) ?_
            show own_Go p e below G (T7.setTop (mkF m 115 #[.val (.long x0), .second, .val (.long x1), .second, .val (.long x2), .second, .val (.long x3), .second, .val (.int x4), .val (.long y14), .second, .val (.long y29), .second, .val (.long y60), .second, .val (.ref b1), .val (.ref b3), .val (.ref bx), .val (.int k0), .unset, .unset, .unset] []))
            refine own_st (fun t k => XS.iconst X7.here hx rfl (hb hby at_115) k) ?_
            show own_Go p e below G (T7.setTop (mkF m 116 #[.val (.long x0), .second, .val (.long x1), .second, .val (.long x2), .second, .val (.long x3), .second, .val (.int x4), .val (.long y14), .second, .val (.long y29), .second, .val (.long y60), .second, .val (.ref b1), .val (.ref b3), .val (.ref bx), .val (.int k0), .unset, .unset, .unset] [(.int (1 : Int32))]))
            refine own_st (fun t k => XS.goto X7.here hx rfl (pc0 := 116) (pc' := 120) rfl (hb hby at_116) (by decide) (by decide) k) ?_
            show own_Go p e below G (T7.setTop (mkF m 120 #[.val (.long x0), .second, .val (.long x1), .second, .val (.long x2), .second, .val (.long x3), .second, .val (.int x4), .val (.long y14), .second, .val (.long y29), .second, .val (.long y60), .second, .val (.ref b1), .val (.ref b3), .val (.ref bx), .val (.int k0), .unset, .unset, .unset] [(.int (1 : Int32))]))
            rw [hG]
            exact own_retZ X7 hx hlk (t := .boolean) hret (by simp) (hb hby at_120) ⟨rfl, N0⟩ (by decide) (by decide)
          · skip
            refine own_st (fun t k => XS.icmpYes X5.here hx rfl (pc0 := 102) (pc' := 121) rfl (hb hby at_102) rfl (feq c102_6).2 (by decide) (by decide) k) ?_
            show own_Go p e below G (T5.setTop (mkF m 121 #[.val (.long x0), .second, .val (.long x1), .second, .val (.long x2), .second, .val (.long x3), .second, .val (.int x4), .val (.long y14), .second, .val (.long y29), .second, .val (.long y60), .second, .val (.ref b1), .val (.ref b3), .val (.ref bx), .val (.int k0), .unset, .unset, .unset] []))
            refine own_st (fun t k => XS.iload X5.here hx rfl (hb hby at_121) rfl  k) ?_
            show own_Go p e below G (T5.setTop (mkF m 123 #[.val (.long x0), .second, .val (.long x1), .second, .val (.long x2), .second, .val (.long x3), .second, .val (.int x4), .val (.long y14), .second, .val (.long y29), .second, .val (.long y60), .second, .val (.ref b1), .val (.ref b3), .val (.ref bx), .val (.int k0), .unset, .unset, .unset] [(.int k0)]))
            refine own_st (fun t k => XS.iconst X5.here hx rfl (hb hby at_123) k) ?_
            show own_Go p e below G (T5.setTop (mkF m 124 #[.val (.long x0), .second, .val (.long x1), .second, .val (.long x2), .second, .val (.long x3), .second, .val (.int x4), .val (.long y14), .second, .val (.long y29), .second, .val (.long y60), .second, .val (.ref b1), .val (.ref b3), .val (.ref bx), .val (.int k0), .unset, .unset, .unset] [(.int (3 : Int32)), (.int k0)]))
            by_cases c124_8 : k0 = (3 : Int32)
            · skip
              refine own_st (fun t k => XS.icmpNo X5.here hx rfl (hb hby at_124) rfl (teq c124_8).2 k) ?_
              show own_Go p e below G (T5.setTop (mkF m 127 #[.val (.long x0), .second, .val (.long x1), .second, .val (.long x2), .second, .val (.long x3), .second, .val (.int x4), .val (.long y14), .second, .val (.long y29), .second, .val (.long y60), .second, .val (.ref b1), .val (.ref b3), .val (.ref bx), .val (.int k0), .unset, .unset, .unset] []))
              refine own_st (fun t k => XS.aload X5.here hx rfl (hb hby at_127) rfl rfl  k) ?_
              show own_Go p e below G (T5.setTop (mkF m 129 #[.val (.long x0), .second, .val (.long x1), .second, .val (.long x2), .second, .val (.long x3), .second, .val (.int x4), .val (.long y14), .second, .val (.long y29), .second, .val (.long y60), .second, .val (.ref b1), .val (.ref b3), .val (.ref bx), .val (.int k0), .unset, .unset, .unset] [(.ref b1)]))
              refine own_st (fun t k => XS.aconstNull X5.here hx rfl (hb hby at_129) k) ?_
              show own_Go p e below G (T5.setTop (mkF m 130 #[.val (.long x0), .second, .val (.long x1), .second, .val (.long x2), .second, .val (.long x3), .second, .val (.int x4), .val (.long y14), .second, .val (.long y29), .second, .val (.long y60), .second, .val (.ref b1), .val (.ref b3), .val (.ref bx), .val (.int k0), .unset, .unset, .unset] [.null, (.ref b1)]))
              obtain ⟨v9, T9, L9, X9, Q9, st9⟩ := own_callV X5 hx hZ (y := (⟨"com/example/pathweave/pathweave/Interval", "equals", "(Ljava/lang/Object;)Z"⟩ : MethodName)) (z := (⟨"com/example/pathweave/pathweave/Interval", "equals", "(Ljava/lang/Object;)Z"⟩ : MethodName)) hown (hw _ (List.mem_of_getElem? (i := 28) rfl)) (hw _ (List.mem_of_getElem? (i := 29) rfl)) (notFace_of_selects (args := #[]) (mvT hZ (hw _ (List.mem_of_getElem? (i := 31) rfl)))) (hw _ (List.mem_of_getElem? (i := 31) rfl)) (hw _ (List.mem_of_getElem? (i := 30) rfl)) (hw _ (List.mem_of_getElem? (i := 2) rfl)) (hw _ (List.mem_of_getElem? (i := 32) rfl)) (by decide) (W := 0) (rm6a l Z a0 hw b1 T5.heap) (by decide) (by decide) rfl Eq_b1 (g := (mkF m 130 #[.val (.long x0), .second, .val (.long x1), .second, .val (.long x2), .second, .val (.long x3), .second, .val (.int x4), .val (.long y14), .second, .val (.long y29), .second, .val (.long y60), .second, .val (.ref b1), .val (.ref b3), .val (.ref bx), .val (.int k0), .unset, .unset, .unset] [.null, (.ref b1)])) rfl (by rw [hml]; rfl) (argsL := [.null]) (rest := []) own_pd4 rfl rfl (by show 2 * 0 + _ ≤ _; exact Nat.le_of_eq rfl) (hb hby at_130) rfl (by decide) (by decide)
              obtain ⟨rfl, rfl, e9⟩ := Q9
              simp only [List.append_nil, Nat.add_zero] at X9
              refine own_st st9 ?_
              show own_Go p e below G (T9.setTop (mkF m 133 #[.val (.long x0), .second, .val (.long x1), .second, .val (.long x2), .second, .val (.long x3), .second, .val (.int x4), .val (.long y14), .second, .val (.long y29), .second, .val (.long y60), .second, .val (.ref b1), .val (.ref b3), .val (.ref bx), .val (.int k0), .unset, .unset, .unset] [(.int (0 : Int32))]))
              refine own_st (fun t k => XS.ifNo X9.here hx rfl (hb hby at_133) rfl ((if0 _ _).trans (teq (by decide)).2) k) ?_
              show own_Go p e below G (T9.setTop (mkF m 136 #[.val (.long x0), .second, .val (.long x1), .second, .val (.long x2), .second, .val (.long x3), .second, .val (.int x4), .val (.long y14), .second, .val (.long y29), .second, .val (.long y60), .second, .val (.ref b1), .val (.ref b3), .val (.ref bx), .val (.int k0), .unset, .unset, .unset] []))
              refine own_st (fun t k => XS.iconst X9.here hx rfl (hb hby at_136) k) ?_
              show own_Go p e below G (T9.setTop (mkF m 137 #[.val (.long x0), .second, .val (.long x1), .second, .val (.long x2), .second, .val (.long x3), .second, .val (.int x4), .val (.long y14), .second, .val (.long y29), .second, .val (.long y60), .second, .val (.ref b1), .val (.ref b3), .val (.ref bx), .val (.int k0), .unset, .unset, .unset] [(.int (1 : Int32))]))
              refine own_st (fun t k => XS.goto X9.here hx rfl (pc0 := 137) (pc' := 141) rfl (hb hby at_137) (by decide) (by decide) k) ?_
              show own_Go p e below G (T9.setTop (mkF m 141 #[.val (.long x0), .second, .val (.long x1), .second, .val (.long x2), .second, .val (.long x3), .second, .val (.int x4), .val (.long y14), .second, .val (.long y29), .second, .val (.long y60), .second, .val (.ref b1), .val (.ref b3), .val (.ref bx), .val (.int k0), .unset, .unset, .unset] [(.int (1 : Int32))]))
              rw [hG]
              exact own_retZ X9 hx hlk (t := .boolean) hret (by simp) (hb hby at_141) ⟨rfl, N0⟩ (by decide) (by decide)
            · skip
              refine own_st (fun t k => XS.icmpYes X5.here hx rfl (pc0 := 124) (pc' := 142) rfl (hb hby at_124) rfl (feq c124_8).2 (by decide) (by decide) k) ?_
              show own_Go p e below G (T5.setTop (mkF m 142 #[.val (.long x0), .second, .val (.long x1), .second, .val (.long x2), .second, .val (.long x3), .second, .val (.int x4), .val (.long y14), .second, .val (.long y29), .second, .val (.long y60), .second, .val (.ref b1), .val (.ref b3), .val (.ref bx), .val (.int k0), .unset, .unset, .unset] []))
              refine own_st (fun t k => XS.lload X5.here hx rfl (hb hby at_142) rfl  k) ?_
              show own_Go p e below G (T5.setTop (mkF m 144 #[.val (.long x0), .second, .val (.long x1), .second, .val (.long x2), .second, .val (.long x3), .second, .val (.int x4), .val (.long y14), .second, .val (.long y29), .second, .val (.long y60), .second, .val (.ref b1), .val (.ref b3), .val (.ref bx), .val (.int k0), .unset, .unset, .unset] [(.long y14)]))
              refine own_st (fun t k => XS.lloadN X5.here hx rfl (hb hby at_144) rfl  k) ?_
              show own_Go p e below G (T5.setTop (mkF m 145 #[.val (.long x0), .second, .val (.long x1), .second, .val (.long x2), .second, .val (.long x3), .second, .val (.int x4), .val (.long y14), .second, .val (.long y29), .second, .val (.long y60), .second, .val (.ref b1), .val (.ref b3), .val (.ref bx), .val (.int k0), .unset, .unset, .unset] [(.long x0), (.long y14)]))
              refine own_st (fun t k => XS.lsub X5.here hx rfl (hb hby at_145) rfl k) ?_
              show own_Go p e below G (T5.setTop (mkF m 146 #[.val (.long x0), .second, .val (.long x1), .second, .val (.long x2), .second, .val (.long x3), .second, .val (.int x4), .val (.long y14), .second, .val (.long y29), .second, .val (.long y60), .second, .val (.ref b1), .val (.ref b3), .val (.ref bx), .val (.int k0), .unset, .unset, .unset] [(.long (y14 - x0))]))
              refine own_st (fun t k => X5.ldc2Long hx hown (mvT hZ (hw _ (List.mem_of_getElem? (i := 27) rfl))) (g := (mkF m 146 #[.val (.long x0), .second, .val (.long x1), .second, .val (.long x2), .second, .val (.long x3), .second, .val (.int x4), .val (.long y14), .second, .val (.long y29), .second, .val (.long y60), .second, .val (.ref b1), .val (.ref b3), .val (.ref bx), .val (.int k0), .unset, .unset, .unset] [(.long (y14 - x0))])) rfl (hb hby at_146) t k) ?_
              show own_Go p e below G (T5.setTop (mkF m 149 #[.val (.long x0), .second, .val (.long x1), .second, .val (.long x2), .second, .val (.long x3), .second, .val (.int x4), .val (.long y14), .second, .val (.long y29), .second, .val (.long y60), .second, .val (.ref b1), .val (.ref b3), .val (.ref bx), .val (.int k0), .unset, .unset, .unset] [(.long (-1 : Int64)), (.long (y14 - x0))]))
              refine own_st (fun t k => XS.lcmp X5.here hx rfl (hb hby at_149) rfl k) ?_
              show own_Go p e below G (T5.setTop (mkF m 150 #[.val (.long x0), .second, .val (.long x1), .second, .val (.long x2), .second, .val (.long x3), .second, .val (.int x4), .val (.long y14), .second, .val (.long y29), .second, .val (.long y60), .second, .val (.ref b1), .val (.ref b3), .val (.ref bx), .val (.int k0), .unset, .unset, .unset] [(.int (lcmpW (y14 - x0) (-1 : Int64)))]))
              by_cases c150_10 : (y14 - x0) = (-1 : Int64)
              · skip
                refine own_st (fun t k => XS.ifNo X5.here hx rfl (hb hby at_150) rfl ((if0 _ _).trans (teq ((lw_eq _ _).2 c150_10)).2) k) ?_
                show own_Go p e below G (T5.setTop (mkF m 153 #[.val (.long x0), .second, .val (.long x1), .second, .val (.long x2), .second, .val (.long x3), .second, .val (.int x4), .val (.long y14), .second, .val (.long y29), .second, .val (.long y60), .second, .val (.ref b1), .val (.ref b3), .val (.ref bx), .val (.int k0), .unset, .unset, .unset] []))
                refine own_st (fun t k => XS.iconst X5.here hx rfl (hb hby at_153) k) ?_
                show own_Go p e below G (T5.setTop (mkF m 154 #[.val (.long x0), .second, .val (.long x1), .second, .val (.long x2), .second, .val (.long x3), .second, .val (.int x4), .val (.long y14), .second, .val (.long y29), .second, .val (.long y60), .second, .val (.ref b1), .val (.ref b3), .val (.ref bx), .val (.int k0), .unset, .unset, .unset] [(.int (1 : Int32))]))
                refine own_st (fun t k => XS.goto X5.here hx rfl (pc0 := 154) (pc' := 158) rfl (hb hby at_154) (by decide) (by decide) k) ?_
                show own_Go p e below G (T5.setTop (mkF m 158 #[.val (.long x0), .second, .val (.long x1), .second, .val (.long x2), .second, .val (.long x3), .second, .val (.int x4), .val (.long y14), .second, .val (.long y29), .second, .val (.long y60), .second, .val (.ref b1), .val (.ref b3), .val (.ref bx), .val (.int k0), .unset, .unset, .unset] [(.int (1 : Int32))]))
                refine own_st (fun t k => XS.istore X5.here hx rfl (hb hby at_158) rfl (l' := #[.val (.long x0), .second, .val (.long x1), .second, .val (.long x2), .second, .val (.long x3), .second, .val (.int x4), .val (.long y14), .second, .val (.long y29), .second, .val (.long y60), .second, .val (.ref b1), .val (.ref b3), .val (.ref bx), .val (.int k0), .val (.int (1 : Int32)), .unset, .unset]) rfl k) ?_
                show own_Go p e below G (T5.setTop (mkF m 160 #[.val (.long x0), .second, .val (.long x1), .second, .val (.long x2), .second, .val (.long x3), .second, .val (.int x4), .val (.long y14), .second, .val (.long y29), .second, .val (.long y60), .second, .val (.ref b1), .val (.ref b3), .val (.ref bx), .val (.int k0), .val (.int (1 : Int32)), .unset, .unset] []))
                refine own_st (fun t k => XS.lload X5.here hx rfl (hb hby at_160) rfl  k) ?_
                show own_Go p e below G (T5.setTop (mkF m 162 #[.val (.long x0), .second, .val (.long x1), .second, .val (.long x2), .second, .val (.long x3), .second, .val (.int x4), .val (.long y14), .second, .val (.long y29), .second, .val (.long y60), .second, .val (.ref b1), .val (.ref b3), .val (.ref bx), .val (.int k0), .val (.int (1 : Int32)), .unset, .unset] [(.long y60)]))
                refine own_st (fun t k => XS.lload X5.here hx rfl (hb hby at_162) rfl  k) ?_
                show own_Go p e below G (T5.setTop (mkF m 164 #[.val (.long x0), .second, .val (.long x1), .second, .val (.long x2), .second, .val (.long x3), .second, .val (.int x4), .val (.long y14), .second, .val (.long y29), .second, .val (.long y60), .second, .val (.ref b1), .val (.ref b3), .val (.ref bx), .val (.int k0), .val (.int (1 : Int32)), .unset, .unset] [(.long y29), (.long y60)]))
                refine own_st (fun t k => XS.lsub X5.here hx rfl (hb hby at_164) rfl k) ?_
                show own_Go p e below G (T5.setTop (mkF m 165 #[.val (.long x0), .second, .val (.long x1), .second, .val (.long x2), .second, .val (.long x3), .second, .val (.int x4), .val (.long y14), .second, .val (.long y29), .second, .val (.long y60), .second, .val (.ref b1), .val (.ref b3), .val (.ref bx), .val (.int k0), .val (.int (1 : Int32)), .unset, .unset] [(.long (y60 - y29))]))
                refine own_st (fun t k => X5.ldc2Long hx hown (mvT hZ (hw _ (List.mem_of_getElem? (i := 27) rfl))) (g := (mkF m 165 #[.val (.long x0), .second, .val (.long x1), .second, .val (.long x2), .second, .val (.long x3), .second, .val (.int x4), .val (.long y14), .second, .val (.long y29), .second, .val (.long y60), .second, .val (.ref b1), .val (.ref b3), .val (.ref bx), .val (.int k0), .val (.int (1 : Int32)), .unset, .unset] [(.long (y60 - y29))])) rfl (hb hby at_165) t k) ?_
                show own_Go p e below G (T5.setTop (mkF m 168 #[.val (.long x0), .second, .val (.long x1), .second, .val (.long x2), .second, .val (.long x3), .second, .val (.int x4), .val (.long y14), .second, .val (.long y29), .second, .val (.long y60), .second, .val (.ref b1), .val (.ref b3), .val (.ref bx), .val (.int k0), .val (.int (1 : Int32)), .unset, .unset] [(.long (-1 : Int64)), (.long (y60 - y29))]))
                refine own_st (fun t k => XS.lcmp X5.here hx rfl (hb hby at_168) rfl k) ?_
                show own_Go p e below G (T5.setTop (mkF m 169 #[.val (.long x0), .second, .val (.long x1), .second, .val (.long x2), .second, .val (.long x3), .second, .val (.int x4), .val (.long y14), .second, .val (.long y29), .second, .val (.long y60), .second, .val (.ref b1), .val (.ref b3), .val (.ref bx), .val (.int k0), .val (.int (1 : Int32)), .unset, .unset] [(.int (lcmpW (y60 - y29) (-1 : Int64)))]))
                by_cases c169_11 : (y60 - y29) = (-1 : Int64)
                · skip
                  refine own_st (fun t k => XS.ifNo X5.here hx rfl (hb hby at_169) rfl ((if0 _ _).trans (teq ((lw_eq _ _).2 c169_11)).2) k) ?_
                  show own_Go p e below G (T5.setTop (mkF m 172 #[.val (.long x0), .second, .val (.long x1), .second, .val (.long x2), .second, .val (.long x3), .second, .val (.int x4), .val (.long y14), .second, .val (.long y29), .second, .val (.long y60), .second, .val (.ref b1), .val (.ref b3), .val (.ref bx), .val (.int k0), .val (.int (1 : Int32)), .unset, .unset] []))
                  refine own_st (fun t k => XS.iconst X5.here hx rfl (hb hby at_172) k) ?_
                  show own_Go p e below G (T5.setTop (mkF m 173 #[.val (.long x0), .second, .val (.long x1), .second, .val (.long x2), .second, .val (.long x3), .second, .val (.int x4), .val (.long y14), .second, .val (.long y29), .second, .val (.long y60), .second, .val (.ref b1), .val (.ref b3), .val (.ref bx), .val (.int k0), .val (.int (1 : Int32)), .unset, .unset] [(.int (1 : Int32))]))
                  refine own_st (fun t k => XS.goto X5.here hx rfl (pc0 := 173) (pc' := 177) rfl (hb hby at_173) (by decide) (by decide) k) ?_
                  show own_Go p e below G (T5.setTop (mkF m 177 #[.val (.long x0), .second, .val (.long x1), .second, .val (.long x2), .second, .val (.long x3), .second, .val (.int x4), .val (.long y14), .second, .val (.long y29), .second, .val (.long y60), .second, .val (.ref b1), .val (.ref b3), .val (.ref bx), .val (.int k0), .val (.int (1 : Int32)), .unset, .unset] [(.int (1 : Int32))]))
                  refine own_st (fun t k => XS.istore X5.here hx rfl (hb hby at_177) rfl (l' := #[.val (.long x0), .second, .val (.long x1), .second, .val (.long x2), .second, .val (.long x3), .second, .val (.int x4), .val (.long y14), .second, .val (.long y29), .second, .val (.long y60), .second, .val (.ref b1), .val (.ref b3), .val (.ref bx), .val (.int k0), .val (.int (1 : Int32)), .val (.int (1 : Int32)), .unset]) rfl k) ?_
                  show own_Go p e below G (T5.setTop (mkF m 179 #[.val (.long x0), .second, .val (.long x1), .second, .val (.long x2), .second, .val (.long x3), .second, .val (.int x4), .val (.long y14), .second, .val (.long y29), .second, .val (.long y60), .second, .val (.ref b1), .val (.ref b3), .val (.ref bx), .val (.int k0), .val (.int (1 : Int32)), .val (.int (1 : Int32)), .unset] []))
                  refine own_st (fun t k => XS.iload X5.here hx rfl (hb hby at_179) rfl  k) ?_
                  show own_Go p e below G (T5.setTop (mkF m 181 #[.val (.long x0), .second, .val (.long x1), .second, .val (.long x2), .second, .val (.long x3), .second, .val (.int x4), .val (.long y14), .second, .val (.long y29), .second, .val (.long y60), .second, .val (.ref b1), .val (.ref b3), .val (.ref bx), .val (.int k0), .val (.int (1 : Int32)), .val (.int (1 : Int32)), .unset] [(.int (1 : Int32))]))
                  refine own_st (fun t k => XS.ifNo X5.here hx rfl (hb hby at_181) rfl ((if0 _ _).trans (feq (by decide)).1) k) ?_
                  show own_Go p e below G (T5.setTop (mkF m 184 #[.val (.long x0), .second, .val (.long x1), .second, .val (.long x2), .second, .val (.long x3), .second, .val (.int x4), .val (.long y14), .second, .val (.long y29), .second, .val (.long y60), .second, .val (.ref b1), .val (.ref b3), .val (.ref bx), .val (.int k0), .val (.int (1 : Int32)), .val (.int (1 : Int32)), .unset] []))
                  refine own_st (fun t k => XS.iload X5.here hx rfl (hb hby at_184) rfl  k) ?_
                  show own_Go p e below G (T5.setTop (mkF m 186 #[.val (.long x0), .second, .val (.long x1), .second, .val (.long x2), .second, .val (.long x3), .second, .val (.int x4), .val (.long y14), .second, .val (.long y29), .second, .val (.long y60), .second, .val (.ref b1), .val (.ref b3), .val (.ref bx), .val (.int k0), .val (.int (1 : Int32)), .val (.int (1 : Int32)), .unset] [(.int (1 : Int32))]))
                  refine own_st (fun t k => XS.goto X5.here hx rfl (pc0 := 186) (pc' := 214) rfl (hb hby at_186) (by decide) (by decide) k) ?_
                  show own_Go p e below G (T5.setTop (mkF m 214 #[.val (.long x0), .second, .val (.long x1), .second, .val (.long x2), .second, .val (.long x3), .second, .val (.int x4), .val (.long y14), .second, .val (.long y29), .second, .val (.long y60), .second, .val (.ref b1), .val (.ref b3), .val (.ref bx), .val (.int k0), .val (.int (1 : Int32)), .val (.int (1 : Int32)), .unset] [(.int (1 : Int32))]))
                  refine own_st (fun t k => XS.istore X5.here hx rfl (hb hby at_214) rfl (l' := #[.val (.long x0), .second, .val (.long x1), .second, .val (.long x2), .second, .val (.long x3), .second, .val (.int x4), .val (.long y14), .second, .val (.long y29), .second, .val (.long y60), .second, .val (.ref b1), .val (.ref b3), .val (.ref bx), .val (.int k0), .val (.int (1 : Int32)), .val (.int (1 : Int32)), .val (.int (1 : Int32))]) rfl k) ?_
                  show own_Go p e below G (T5.setTop (mkF m 216 #[.val (.long x0), .second, .val (.long x1), .second, .val (.long x2), .second, .val (.long x3), .second, .val (.int x4), .val (.long y14), .second, .val (.long y29), .second, .val (.long y60), .second, .val (.ref b1), .val (.ref b3), .val (.ref bx), .val (.int k0), .val (.int (1 : Int32)), .val (.int (1 : Int32)), .val (.int (1 : Int32))] []))
                  refine own_st (fun t k => XS.aload X5.here hx rfl (hb hby at_216) rfl rfl  k) ?_
                  show own_Go p e below G (T5.setTop (mkF m 218 #[.val (.long x0), .second, .val (.long x1), .second, .val (.long x2), .second, .val (.long x3), .second, .val (.int x4), .val (.long y14), .second, .val (.long y29), .second, .val (.long y60), .second, .val (.ref b1), .val (.ref b3), .val (.ref bx), .val (.int k0), .val (.int (1 : Int32)), .val (.int (1 : Int32)), .val (.int (1 : Int32))] [(.ref b1)]))
                  refine own_st (fun t k => XS.aload X5.here hx rfl (hb hby at_218) rfl rfl  k) ?_
                  show own_Go p e below G (T5.setTop (mkF m 220 #[.val (.long x0), .second, .val (.long x1), .second, .val (.long x2), .second, .val (.long x3), .second, .val (.int x4), .val (.long y14), .second, .val (.long y29), .second, .val (.long y60), .second, .val (.ref b1), .val (.ref b3), .val (.ref bx), .val (.int k0), .val (.int (1 : Int32)), .val (.int (1 : Int32)), .val (.int (1 : Int32))] [(.ref b3), (.ref b1)]))
                  obtain ⟨v12, T12, L12, X12, Q12, st12⟩ := own_callV X5 hx hZ (y := (⟨"com/example/pathweave/pathweave/Interval", "equals", "(Ljava/lang/Object;)Z"⟩ : MethodName)) (z := (⟨"com/example/pathweave/pathweave/Interval", "equals", "(Ljava/lang/Object;)Z"⟩ : MethodName)) hown (hw _ (List.mem_of_getElem? (i := 28) rfl)) (hw _ (List.mem_of_getElem? (i := 29) rfl)) (notFace_of_selects (args := #[]) (mvT hZ (hw _ (List.mem_of_getElem? (i := 31) rfl)))) (hw _ (List.mem_of_getElem? (i := 31) rfl)) (hw _ (List.mem_of_getElem? (i := 30) rfl)) (hw _ (List.mem_of_getElem? (i := 2) rfl)) (hw _ (List.mem_of_getElem? (i := 32) rfl)) (by decide) (W := 0) (rm6c l Z a0 hw b1 b3 (own_lo x0 y14) (own_hi x0 y14) (own_lo y29 y60) (own_hi y29 y60) T5.heap Eq_b3 Fl_b1 Fh_b1 Fl_b3 Fh_b3) (by decide) (by decide) rfl Eq_b1 (g := (mkF m 220 #[.val (.long x0), .second, .val (.long x1), .second, .val (.long x2), .second, .val (.long x3), .second, .val (.int x4), .val (.long y14), .second, .val (.long y29), .second, .val (.long y60), .second, .val (.ref b1), .val (.ref b3), .val (.ref bx), .val (.int k0), .val (.int (1 : Int32)), .val (.int (1 : Int32)), .val (.int (1 : Int32))] [(.ref b3), (.ref b1)])) rfl (by rw [hml]; rfl) (argsL := [(.ref b3)]) (rest := []) own_pd4 rfl rfl (by show 2 * 0 + _ ≤ _; exact Nat.le_of_eq rfl) (hb hby at_220) rfl (by decide) (by decide)
                  obtain ⟨rfl, rfl, e12⟩ := Q12
                  simp only [List.append_nil, Nat.add_zero] at X12
                  refine own_st st12 ?_
                  show own_Go p e below G (T12.setTop (mkF m 223 #[.val (.long x0), .second, .val (.long x1), .second, .val (.long x2), .second, .val (.long x3), .second, .val (.int x4), .val (.long y14), .second, .val (.long y29), .second, .val (.long y60), .second, .val (.ref b1), .val (.ref b3), .val (.ref bx), .val (.int k0), .val (.int (1 : Int32)), .val (.int (1 : Int32)), .val (.int (1 : Int32))] [(.int (own_iv (own_lo x0 y14) (own_hi x0 y14) (own_lo y29 y60) (own_hi y29 y60)))]))
                  refine own_st (fun t k => XS.iload X12.here hx rfl (hb hby at_223) rfl  k) ?_
                  show own_Go p e below G (T12.setTop (mkF m 225 #[.val (.long x0), .second, .val (.long x1), .second, .val (.long x2), .second, .val (.long x3), .second, .val (.int x4), .val (.long y14), .second, .val (.long y29), .second, .val (.long y60), .second, .val (.ref b1), .val (.ref b3), .val (.ref bx), .val (.int k0), .val (.int (1 : Int32)), .val (.int (1 : Int32)), .val (.int (1 : Int32))] [(.int (1 : Int32)), (.int (own_iv (own_lo x0 y14) (own_hi x0 y14) (own_lo y29 y60) (own_hi y29 y60)))]))
                  refine own_st (fun t k => XS.icmpNo X12.here hx rfl (hb hby at_225) rfl (teq (by rw [own_eqv, if_pos c150_10, if_pos c169_11])).2 k) ?_
                  show own_Go p e below G (T12.setTop (mkF m 228 #[.val (.long x0), .second, .val (.long x1), .second, .val (.long x2), .second, .val (.long x3), .second, .val (.int x4), .val (.long y14), .second, .val (.long y29), .second, .val (.long y60), .second, .val (.ref b1), .val (.ref b3), .val (.ref bx), .val (.int k0), .val (.int (1 : Int32)), .val (.int (1 : Int32)), .val (.int (1 : Int32))] []))
                  refine own_st (fun t k => XS.aload X12.here hx rfl (hb hby at_228) rfl rfl  k) ?_
                  show own_Go p e below G (T12.setTop (mkF m 230 #[.val (.long x0), .second, .val (.long x1), .second, .val (.long x2), .second, .val (.long x3), .second, .val (.int x4), .val (.long y14), .second, .val (.long y29), .second, .val (.long y60), .second, .val (.ref b1), .val (.ref b3), .val (.ref bx), .val (.int k0), .val (.int (1 : Int32)), .val (.int (1 : Int32)), .val (.int (1 : Int32))] [(.ref b3)]))
                  refine own_st (fun t k => XS.aload X12.here hx rfl (hb hby at_230) rfl rfl  k) ?_
                  show own_Go p e below G (T12.setTop (mkF m 232 #[.val (.long x0), .second, .val (.long x1), .second, .val (.long x2), .second, .val (.long x3), .second, .val (.int x4), .val (.long y14), .second, .val (.long y29), .second, .val (.long y60), .second, .val (.ref b1), .val (.ref b3), .val (.ref bx), .val (.int k0), .val (.int (1 : Int32)), .val (.int (1 : Int32)), .val (.int (1 : Int32))] [(.ref b1), (.ref b3)]))
                  obtain ⟨v13, T13, L13, X13, Q13, st13⟩ := own_callV X12 hx hZ (y := (⟨"com/example/pathweave/pathweave/Interval", "equals", "(Ljava/lang/Object;)Z"⟩ : MethodName)) (z := (⟨"com/example/pathweave/pathweave/Interval", "equals", "(Ljava/lang/Object;)Z"⟩ : MethodName)) hown (hw _ (List.mem_of_getElem? (i := 28) rfl)) (hw _ (List.mem_of_getElem? (i := 29) rfl)) (notFace_of_selects (args := #[]) (mvT hZ (hw _ (List.mem_of_getElem? (i := 31) rfl)))) (hw _ (List.mem_of_getElem? (i := 31) rfl)) (hw _ (List.mem_of_getElem? (i := 30) rfl)) (hw _ (List.mem_of_getElem? (i := 2) rfl)) (hw _ (List.mem_of_getElem? (i := 32) rfl)) (by decide) (W := 0) (rm6c l Z a0 hw b3 b1 (own_lo y29 y60) (own_hi y29 y60) (own_lo x0 y14) (own_hi x0 y14) T5.heap Eq_b1 Fl_b3 Fh_b3 Fl_b1 Fh_b1) (by decide) (by decide) e12 Eq_b3 (g := (mkF m 232 #[.val (.long x0), .second, .val (.long x1), .second, .val (.long x2), .second, .val (.long x3), .second, .val (.int x4), .val (.long y14), .second, .val (.long y29), .second, .val (.long y60), .second, .val (.ref b1), .val (.ref b3), .val (.ref bx), .val (.int k0), .val (.int (1 : Int32)), .val (.int (1 : Int32)), .val (.int (1 : Int32))] [(.ref b1), (.ref b3)])) rfl (by rw [hml]; rfl) (argsL := [(.ref b1)]) (rest := []) own_pd4 rfl rfl (by show 2 * 0 + _ ≤ _; exact Nat.le_of_eq rfl) (hb hby at_232) rfl (by decide) (by decide)
                  obtain ⟨rfl, rfl, e13⟩ := Q13
                  simp only [List.append_nil, Nat.add_zero] at X13
                  refine own_st st13 ?_
                  show own_Go p e below G (T13.setTop (mkF m 235 #[.val (.long x0), .second, .val (.long x1), .second, .val (.long x2), .second, .val (.long x3), .second, .val (.int x4), .val (.long y14), .second, .val (.long y29), .second, .val (.long y60), .second, .val (.ref b1), .val (.ref b3), .val (.ref bx), .val (.int k0), .val (.int (1 : Int32)), .val (.int (1 : Int32)), .val (.int (1 : Int32))] [(.int (own_iv (own_lo y29 y60) (own_hi y29 y60) (own_lo x0 y14) (own_hi x0 y14)))]))
                  refine own_st (fun t k => XS.iload X13.here hx rfl (hb hby at_235) rfl  k) ?_
                  show own_Go p e below G (T13.setTop (mkF m 237 #[.val (.long x0), .second, .val (.long x1), .second, .val (.long x2), .second, .val (.long x3), .second, .val (.int x4), .val (.long y14), .second, .val (.long y29), .second, .val (.long y60), .second, .val (.ref b1), .val (.ref b3), .val (.ref bx), .val (.int k0), .val (.int (1 : Int32)), .val (.int (1 : Int32)), .val (.int (1 : Int32))] [(.int (1 : Int32)), (.int (own_iv (own_lo y29 y60) (own_hi y29 y60) (own_lo x0 y14) (own_hi x0 y14)))]))
                  refine own_st (fun t k => XS.icmpNo X13.here hx rfl (hb hby at_237) rfl (teq (by rw [own_eqv', if_pos c150_10, if_pos c169_11])).2 k) ?_
                  show own_Go p e below G (T13.setTop (mkF m 240 #[.val (.long x0), .second, .val (.long x1), .second, .val (.long x2), .second, .val (.long x3), .second, .val (.int x4), .val (.long y14), .second, .val (.long y29), .second, .val (.long y60), .second, .val (.ref b1), .val (.ref b3), .val (.ref bx), .val (.int k0), .val (.int (1 : Int32)), .val (.int (1 : Int32)), .val (.int (1 : Int32))] []))
                  refine own_st (fun t k => XS.iconst X13.here hx rfl (hb hby at_240) k) ?_
                  show own_Go p e below G (T13.setTop (mkF m 241 #[.val (.long x0), .second, .val (.long x1), .second, .val (.long x2), .second, .val (.long x3), .second, .val (.int x4), .val (.long y14), .second, .val (.long y29), .second, .val (.long y60), .second, .val (.ref b1), .val (.ref b3), .val (.ref bx), .val (.int k0), .val (.int (1 : Int32)), .val (.int (1 : Int32)), .val (.int (1 : Int32))] [(.int (1 : Int32))]))
                  refine own_st (fun t k => XS.goto X13.here hx rfl (pc0 := 241) (pc' := 245) rfl (hb hby at_241) (by decide) (by decide) k) ?_
                  show own_Go p e below G (T13.setTop (mkF m 245 #[.val (.long x0), .second, .val (.long x1), .second, .val (.long x2), .second, .val (.long x3), .second, .val (.int x4), .val (.long y14), .second, .val (.long y29), .second, .val (.long y60), .second, .val (.ref b1), .val (.ref b3), .val (.ref bx), .val (.int k0), .val (.int (1 : Int32)), .val (.int (1 : Int32)), .val (.int (1 : Int32))] [(.int (1 : Int32))]))
                  rw [hG]
                  exact own_retZ X13 hx hlk (t := .boolean) hret (by simp) (hb hby at_245) ⟨rfl, N0⟩ (by decide) (by decide)
                · skip
                  refine own_st (fun t k => XS.ifYes X5.here hx rfl (pc0 := 169) (pc' := 176) rfl (hb hby at_169) rfl ((if0 _ _).trans (feq (fun q => c169_11 ((lw_eq _ _).1 q))).2) (by decide) (by decide) k) ?_
                  show own_Go p e below G (T5.setTop (mkF m 176 #[.val (.long x0), .second, .val (.long x1), .second, .val (.long x2), .second, .val (.long x3), .second, .val (.int x4), .val (.long y14), .second, .val (.long y29), .second, .val (.long y60), .second, .val (.ref b1), .val (.ref b3), .val (.ref bx), .val (.int k0), .val (.int (1 : Int32)), .unset, .unset] []))
                  refine own_st (fun t k => XS.iconst X5.here hx rfl (hb hby at_176) k) ?_
                  show own_Go p e below G (T5.setTop (mkF m 177 #[.val (.long x0), .second, .val (.long x1), .second, .val (.long x2), .second, .val (.long x3), .second, .val (.int x4), .val (.long y14), .second, .val (.long y29), .second, .val (.long y60), .second, .val (.ref b1), .val (.ref b3), .val (.ref bx), .val (.int k0), .val (.int (1 : Int32)), .unset, .unset] [(.int (0 : Int32))]))
                  refine own_st (fun t k => XS.istore X5.here hx rfl (hb hby at_177) rfl (l' := #[.val (.long x0), .second, .val (.long x1), .second, .val (.long x2), .second, .val (.long x3), .second, .val (.int x4), .val (.long y14), .second, .val (.long y29), .second, .val (.long y60), .second, .val (.ref b1), .val (.ref b3), .val (.ref bx), .val (.int k0), .val (.int (1 : Int32)), .val (.int (0 : Int32)), .unset]) rfl k) ?_
                  show own_Go p e below G (T5.setTop (mkF m 179 #[.val (.long x0), .second, .val (.long x1), .second, .val (.long x2), .second, .val (.long x3), .second, .val (.int x4), .val (.long y14), .second, .val (.long y29), .second, .val (.long y60), .second, .val (.ref b1), .val (.ref b3), .val (.ref bx), .val (.int k0), .val (.int (1 : Int32)), .val (.int (0 : Int32)), .unset] []))
                  refine own_st (fun t k => XS.iload X5.here hx rfl (hb hby at_179) rfl  k) ?_
                  show own_Go p e below G (T5.setTop (mkF m 181 #[.val (.long x0), .second, .val (.long x1), .second, .val (.long x2), .second, .val (.long x3), .second, .val (.int x4), .val (.long y14), .second, .val (.long y29), .second, .val (.long y60), .second, .val (.ref b1), .val (.ref b3), .val (.ref bx), .val (.int k0), .val (.int (1 : Int32)), .val (.int (0 : Int32)), .unset] [(.int (1 : Int32))]))
                  refine own_st (fun t k => XS.ifNo X5.here hx rfl (hb hby at_181) rfl ((if0 _ _).trans (feq (by decide)).1) k) ?_
                  show own_Go p e below G (T5.setTop (mkF m 184 #[.val (.long x0), .second, .val (.long x1), .second, .val (.long x2), .second, .val (.long x3), .second, .val (.int x4), .val (.long y14), .second, .val (.long y29), .second, .val (.long y60), .second, .val (.ref b1), .val (.ref b3), .val (.ref bx), .val (.int k0), .val (.int (1 : Int32)), .val (.int (0 : Int32)), .unset] []))
                  refine own_st (fun t k => XS.iload X5.here hx rfl (hb hby at_184) rfl  k) ?_
                  show own_Go p e below G (T5.setTop (mkF m 186 #[.val (.long x0), .second, .val (.long x1), .second, .val (.long x2), .second, .val (.long x3), .second, .val (.int x4), .val (.long y14), .second, .val (.long y29), .second, .val (.long y60), .second, .val (.ref b1), .val (.ref b3), .val (.ref bx), .val (.int k0), .val (.int (1 : Int32)), .val (.int (0 : Int32)), .unset] [(.int (0 : Int32))]))
                  refine own_st (fun t k => XS.goto X5.here hx rfl (pc0 := 186) (pc' := 214) rfl (hb hby at_186) (by decide) (by decide) k) ?_
                  show own_Go p e below G (T5.setTop (mkF m 214 #[.val (.long x0), .second, .val (.long x1), .second, .val (.long x2), .second, .val (.long x3), .second, .val (.int x4), .val (.long y14), .second, .val (.long y29), .second, .val (.long y60), .second, .val (.ref b1), .val (.ref b3), .val (.ref bx), .val (.int k0), .val (.int (1 : Int32)), .val (.int (0 : Int32)), .unset] [(.int (0 : Int32))]))
                  refine own_st (fun t k => XS.istore X5.here hx rfl (hb hby at_214) rfl (l' := #[.val (.long x0), .second, .val (.long x1), .second, .val (.long x2), .second, .val (.long x3), .second, .val (.int x4), .val (.long y14), .second, .val (.long y29), .second, .val (.long y60), .second, .val (.ref b1), .val (.ref b3), .val (.ref bx), .val (.int k0), .val (.int (1 : Int32)), .val (.int (0 : Int32)), .val (.int (0 : Int32))]) rfl k) ?_
                  show own_Go p e below G (T5.setTop (mkF m 216 #[.val (.long x0), .second, .val (.long x1), .second, .val (.long x2), .second, .val (.long x3), .second, .val (.int x4), .val (.long y14), .second, .val (.long y29), .second, .val (.long y60), .second, .val (.ref b1), .val (.ref b3), .val (.ref bx), .val (.int k0), .val (.int (1 : Int32)), .val (.int (0 : Int32)), .val (.int (0 : Int32))] []))
                  refine own_st (fun t k => XS.aload X5.here hx rfl (hb hby at_216) rfl rfl  k) ?_
                  show own_Go p e below G (T5.setTop (mkF m 218 #[.val (.long x0), .second, .val (.long x1), .second, .val (.long x2), .second, .val (.long x3), .second, .val (.int x4), .val (.long y14), .second, .val (.long y29), .second, .val (.long y60), .second, .val (.ref b1), .val (.ref b3), .val (.ref bx), .val (.int k0), .val (.int (1 : Int32)), .val (.int (0 : Int32)), .val (.int (0 : Int32))] [(.ref b1)]))
                  refine own_st (fun t k => XS.aload X5.here hx rfl (hb hby at_218) rfl rfl  k) ?_
                  show own_Go p e below G (T5.setTop (mkF m 220 #[.val (.long x0), .second, .val (.long x1), .second, .val (.long x2), .second, .val (.long x3), .second, .val (.int x4), .val (.long y14), .second, .val (.long y29), .second, .val (.long y60), .second, .val (.ref b1), .val (.ref b3), .val (.ref bx), .val (.int k0), .val (.int (1 : Int32)), .val (.int (0 : Int32)), .val (.int (0 : Int32))] [(.ref b3), (.ref b1)]))
                  obtain ⟨v14, T14, L14, X14, Q14, st14⟩ := own_callV X5 hx hZ (y := (⟨"com/example/pathweave/pathweave/Interval", "equals", "(Ljava/lang/Object;)Z"⟩ : MethodName)) (z := (⟨"com/example/pathweave/pathweave/Interval", "equals", "(Ljava/lang/Object;)Z"⟩ : MethodName)) hown (hw _ (List.mem_of_getElem? (i := 28) rfl)) (hw _ (List.mem_of_getElem? (i := 29) rfl)) (notFace_of_selects (args := #[]) (mvT hZ (hw _ (List.mem_of_getElem? (i := 31) rfl)))) (hw _ (List.mem_of_getElem? (i := 31) rfl)) (hw _ (List.mem_of_getElem? (i := 30) rfl)) (hw _ (List.mem_of_getElem? (i := 2) rfl)) (hw _ (List.mem_of_getElem? (i := 32) rfl)) (by decide) (W := 0) (rm6c l Z a0 hw b1 b3 (own_lo x0 y14) (own_hi x0 y14) (own_lo y29 y60) (own_hi y29 y60) T5.heap Eq_b3 Fl_b1 Fh_b1 Fl_b3 Fh_b3) (by decide) (by decide) rfl Eq_b1 (g := (mkF m 220 #[.val (.long x0), .second, .val (.long x1), .second, .val (.long x2), .second, .val (.long x3), .second, .val (.int x4), .val (.long y14), .second, .val (.long y29), .second, .val (.long y60), .second, .val (.ref b1), .val (.ref b3), .val (.ref bx), .val (.int k0), .val (.int (1 : Int32)), .val (.int (0 : Int32)), .val (.int (0 : Int32))] [(.ref b3), (.ref b1)])) rfl (by rw [hml]; rfl) (argsL := [(.ref b3)]) (rest := []) own_pd4 rfl rfl (by show 2 * 0 + _ ≤ _; exact Nat.le_of_eq rfl) (hb hby at_220) rfl (by decide) (by decide)
                  obtain ⟨rfl, rfl, e14⟩ := Q14
                  simp only [List.append_nil, Nat.add_zero] at X14
                  refine own_st st14 ?_
                  show own_Go p e below G (T14.setTop (mkF m 223 #[.val (.long x0), .second, .val (.long x1), .second, .val (.long x2), .second, .val (.long x3), .second, .val (.int x4), .val (.long y14), .second, .val (.long y29), .second, .val (.long y60), .second, .val (.ref b1), .val (.ref b3), .val (.ref bx), .val (.int k0), .val (.int (1 : Int32)), .val (.int (0 : Int32)), .val (.int (0 : Int32))] [(.int (own_iv (own_lo x0 y14) (own_hi x0 y14) (own_lo y29 y60) (own_hi y29 y60)))]))
                  refine own_st (fun t k => XS.iload X14.here hx rfl (hb hby at_223) rfl  k) ?_
                  show own_Go p e below G (T14.setTop (mkF m 225 #[.val (.long x0), .second, .val (.long x1), .second, .val (.long x2), .second, .val (.long x3), .second, .val (.int x4), .val (.long y14), .second, .val (.long y29), .second, .val (.long y60), .second, .val (.ref b1), .val (.ref b3), .val (.ref bx), .val (.int k0), .val (.int (1 : Int32)), .val (.int (0 : Int32)), .val (.int (0 : Int32))] [(.int (0 : Int32)), (.int (own_iv (own_lo x0 y14) (own_hi x0 y14) (own_lo y29 y60) (own_hi y29 y60)))]))
                  refine own_st (fun t k => XS.icmpNo X14.here hx rfl (hb hby at_225) rfl (teq (by rw [own_eqv, if_pos c150_10, if_neg c169_11])).2 k) ?_
                  show own_Go p e below G (T14.setTop (mkF m 228 #[.val (.long x0), .second, .val (.long x1), .second, .val (.long x2), .second, .val (.long x3), .second, .val (.int x4), .val (.long y14), .second, .val (.long y29), .second, .val (.long y60), .second, .val (.ref b1), .val (.ref b3), .val (.ref bx), .val (.int k0), .val (.int (1 : Int32)), .val (.int (0 : Int32)), .val (.int (0 : Int32))] []))
                  refine own_st (fun t k => XS.aload X14.here hx rfl (hb hby at_228) rfl rfl  k) ?_
                  show own_Go p e below G (T14.setTop (mkF m 230 #[.val (.long x0), .second, .val (.long x1), .second, .val (.long x2), .second, .val (.long x3), .second, .val (.int x4), .val (.long y14), .second, .val (.long y29), .second, .val (.long y60), .second, .val (.ref b1), .val (.ref b3), .val (.ref bx), .val (.int k0), .val (.int (1 : Int32)), .val (.int (0 : Int32)), .val (.int (0 : Int32))] [(.ref b3)]))
                  refine own_st (fun t k => XS.aload X14.here hx rfl (hb hby at_230) rfl rfl  k) ?_
                  show own_Go p e below G (T14.setTop (mkF m 232 #[.val (.long x0), .second, .val (.long x1), .second, .val (.long x2), .second, .val (.long x3), .second, .val (.int x4), .val (.long y14), .second, .val (.long y29), .second, .val (.long y60), .second, .val (.ref b1), .val (.ref b3), .val (.ref bx), .val (.int k0), .val (.int (1 : Int32)), .val (.int (0 : Int32)), .val (.int (0 : Int32))] [(.ref b1), (.ref b3)]))
                  obtain ⟨v15, T15, L15, X15, Q15, st15⟩ := own_callV X14 hx hZ (y := (⟨"com/example/pathweave/pathweave/Interval", "equals", "(Ljava/lang/Object;)Z"⟩ : MethodName)) (z := (⟨"com/example/pathweave/pathweave/Interval", "equals", "(Ljava/lang/Object;)Z"⟩ : MethodName)) hown (hw _ (List.mem_of_getElem? (i := 28) rfl)) (hw _ (List.mem_of_getElem? (i := 29) rfl)) (notFace_of_selects (args := #[]) (mvT hZ (hw _ (List.mem_of_getElem? (i := 31) rfl)))) (hw _ (List.mem_of_getElem? (i := 31) rfl)) (hw _ (List.mem_of_getElem? (i := 30) rfl)) (hw _ (List.mem_of_getElem? (i := 2) rfl)) (hw _ (List.mem_of_getElem? (i := 32) rfl)) (by decide) (W := 0) (rm6c l Z a0 hw b3 b1 (own_lo y29 y60) (own_hi y29 y60) (own_lo x0 y14) (own_hi x0 y14) T5.heap Eq_b1 Fl_b3 Fh_b3 Fl_b1 Fh_b1) (by decide) (by decide) e14 Eq_b3 (g := (mkF m 232 #[.val (.long x0), .second, .val (.long x1), .second, .val (.long x2), .second, .val (.long x3), .second, .val (.int x4), .val (.long y14), .second, .val (.long y29), .second, .val (.long y60), .second, .val (.ref b1), .val (.ref b3), .val (.ref bx), .val (.int k0), .val (.int (1 : Int32)), .val (.int (0 : Int32)), .val (.int (0 : Int32))] [(.ref b1), (.ref b3)])) rfl (by rw [hml]; rfl) (argsL := [(.ref b1)]) (rest := []) own_pd4 rfl rfl (by show 2 * 0 + _ ≤ _; exact Nat.le_of_eq rfl) (hb hby at_232) rfl (by decide) (by decide)
                  obtain ⟨rfl, rfl, e15⟩ := Q15
                  simp only [List.append_nil, Nat.add_zero] at X15
                  refine own_st st15 ?_
                  show own_Go p e below G (T15.setTop (mkF m 235 #[.val (.long x0), .second, .val (.long x1), .second, .val (.long x2), .second, .val (.long x3), .second, .val (.int x4), .val (.long y14), .second, .val (.long y29), .second, .val (.long y60), .second, .val (.ref b1), .val (.ref b3), .val (.ref bx), .val (.int k0), .val (.int (1 : Int32)), .val (.int (0 : Int32)), .val (.int (0 : Int32))] [(.int (own_iv (own_lo y29 y60) (own_hi y29 y60) (own_lo x0 y14) (own_hi x0 y14)))]))
                  refine own_st (fun t k => XS.iload X15.here hx rfl (hb hby at_235) rfl  k) ?_
                  show own_Go p e below G (T15.setTop (mkF m 237 #[.val (.long x0), .second, .val (.long x1), .second, .val (.long x2), .second, .val (.long x3), .second, .val (.int x4), .val (.long y14), .second, .val (.long y29), .second, .val (.long y60), .second, .val (.ref b1), .val (.ref b3), .val (.ref bx), .val (.int k0), .val (.int (1 : Int32)), .val (.int (0 : Int32)), .val (.int (0 : Int32))] [(.int (0 : Int32)), (.int (own_iv (own_lo y29 y60) (own_hi y29 y60) (own_lo x0 y14) (own_hi x0 y14)))]))
                  refine own_st (fun t k => XS.icmpNo X15.here hx rfl (hb hby at_237) rfl (teq (by rw [own_eqv', if_pos c150_10, if_neg c169_11])).2 k) ?_
                  show own_Go p e below G (T15.setTop (mkF m 240 #[.val (.long x0), .second, .val (.long x1), .second, .val (.long x2), .second, .val (.long x3), .second, .val (.int x4), .val (.long y14), .second, .val (.long y29), .second, .val (.long y60), .second, .val (.ref b1), .val (.ref b3), .val (.ref bx), .val (.int k0), .val (.int (1 : Int32)), .val (.int (0 : Int32)), .val (.int (0 : Int32))] []))
                  refine own_st (fun t k => XS.iconst X15.here hx rfl (hb hby at_240) k) ?_
                  show own_Go p e below G (T15.setTop (mkF m 241 #[.val (.long x0), .second, .val (.long x1), .second, .val (.long x2), .second, .val (.long x3), .second, .val (.int x4), .val (.long y14), .second, .val (.long y29), .second, .val (.long y60), .second, .val (.ref b1), .val (.ref b3), .val (.ref bx), .val (.int k0), .val (.int (1 : Int32)), .val (.int (0 : Int32)), .val (.int (0 : Int32))] [(.int (1 : Int32))]))
                  refine own_st (fun t k => XS.goto X15.here hx rfl (pc0 := 241) (pc' := 245) rfl (hb hby at_241) (by decide) (by decide) k) ?_
                  show own_Go p e below G (T15.setTop (mkF m 245 #[.val (.long x0), .second, .val (.long x1), .second, .val (.long x2), .second, .val (.long x3), .second, .val (.int x4), .val (.long y14), .second, .val (.long y29), .second, .val (.long y60), .second, .val (.ref b1), .val (.ref b3), .val (.ref bx), .val (.int k0), .val (.int (1 : Int32)), .val (.int (0 : Int32)), .val (.int (0 : Int32))] [(.int (1 : Int32))]))
                  rw [hG]
                  exact own_retZ X15 hx hlk (t := .boolean) hret (by simp) (hb hby at_245) ⟨rfl, N0⟩ (by decide) (by decide)
              · skip
                refine own_st (fun t k => XS.ifYes X5.here hx rfl (pc0 := 150) (pc' := 157) rfl (hb hby at_150) rfl ((if0 _ _).trans (feq (fun q => c150_10 ((lw_eq _ _).1 q))).2) (by decide) (by decide) k) ?_
                show own_Go p e below G (T5.setTop (mkF m 157 #[.val (.long x0), .second, .val (.long x1), .second, .val (.long x2), .second, .val (.long x3), .second, .val (.int x4), .val (.long y14), .second, .val (.long y29), .second, .val (.long y60), .second, .val (.ref b1), .val (.ref b3), .val (.ref bx), .val (.int k0), .unset, .unset, .unset] []))
                refine own_st (fun t k => XS.iconst X5.here hx rfl (hb hby at_157) k) ?_
                show own_Go p e below G (T5.setTop (mkF m 158 #[.val (.long x0), .second, .val (.long x1), .second, .val (.long x2), .second, .val (.long x3), .second, .val (.int x4), .val (.long y14), .second, .val (.long y29), .second, .val (.long y60), .second, .val (.ref b1), .val (.ref b3), .val (.ref bx), .val (.int k0), .unset, .unset, .unset] [(.int (0 : Int32))]))
                refine own_st (fun t k => XS.istore X5.here hx rfl (hb hby at_158) rfl (l' := #[.val (.long x0), .second, .val (.long x1), .second, .val (.long x2), .second, .val (.long x3), .second, .val (.int x4), .val (.long y14), .second, .val (.long y29), .second, .val (.long y60), .second, .val (.ref b1), .val (.ref b3), .val (.ref bx), .val (.int k0), .val (.int (0 : Int32)), .unset, .unset]) rfl k) ?_
                show own_Go p e below G (T5.setTop (mkF m 160 #[.val (.long x0), .second, .val (.long x1), .second, .val (.long x2), .second, .val (.long x3), .second, .val (.int x4), .val (.long y14), .second, .val (.long y29), .second, .val (.long y60), .second, .val (.ref b1), .val (.ref b3), .val (.ref bx), .val (.int k0), .val (.int (0 : Int32)), .unset, .unset] []))
                refine own_st (fun t k => XS.lload X5.here hx rfl (hb hby at_160) rfl  k) ?_
                show own_Go p e below G (T5.setTop (mkF m 162 #[.val (.long x0), .second, .val (.long x1), .second, .val (.long x2), .second, .val (.long x3), .second, .val (.int x4), .val (.long y14), .second, .val (.long y29), .second, .val (.long y60), .second, .val (.ref b1), .val (.ref b3), .val (.ref bx), .val (.int k0), .val (.int (0 : Int32)), .unset, .unset] [(.long y60)]))
                refine own_st (fun t k => XS.lload X5.here hx rfl (hb hby at_162) rfl  k) ?_
                show own_Go p e below G (T5.setTop (mkF m 164 #[.val (.long x0), .second, .val (.long x1), .second, .val (.long x2), .second, .val (.long x3), .second, .val (.int x4), .val (.long y14), .second, .val (.long y29), .second, .val (.long y60), .second, .val (.ref b1), .val (.ref b3), .val (.ref bx), .val (.int k0), .val (.int (0 : Int32)), .unset, .unset] [(.long y29), (.long y60)]))
                refine own_st (fun t k => XS.lsub X5.here hx rfl (hb hby at_164) rfl k) ?_
                show own_Go p e below G (T5.setTop (mkF m 165 #[.val (.long x0), .second, .val (.long x1), .second, .val (.long x2), .second, .val (.long x3), .second, .val (.int x4), .val (.long y14), .second, .val (.long y29), .second, .val (.long y60), .second, .val (.ref b1), .val (.ref b3), .val (.ref bx), .val (.int k0), .val (.int (0 : Int32)), .unset, .unset] [(.long (y60 - y29))]))
                refine own_st (fun t k => X5.ldc2Long hx hown (mvT hZ (hw _ (List.mem_of_getElem? (i := 27) rfl))) (g := (mkF m 165 #[.val (.long x0), .second, .val (.long x1), .second, .val (.long x2), .second, .val (.long x3), .second, .val (.int x4), .val (.long y14), .second, .val (.long y29), .second, .val (.long y60), .second, .val (.ref b1), .val (.ref b3), .val (.ref bx), .val (.int k0), .val (.int (0 : Int32)), .unset, .unset] [(.long (y60 - y29))])) rfl (hb hby at_165) t k) ?_
                show own_Go p e below G (T5.setTop (mkF m 168 #[.val (.long x0), .second, .val (.long x1), .second, .val (.long x2), .second, .val (.long x3), .second, .val (.int x4), .val (.long y14), .second, .val (.long y29), .second, .val (.long y60), .second, .val (.ref b1), .val (.ref b3), .val (.ref bx), .val (.int k0), .val (.int (0 : Int32)), .unset, .unset] [(.long (-1 : Int64)), (.long (y60 - y29))]))
                refine own_st (fun t k => XS.lcmp X5.here hx rfl (hb hby at_168) rfl k) ?_
                show own_Go p e below G (T5.setTop (mkF m 169 #[.val (.long x0), .second, .val (.long x1), .second, .val (.long x2), .second, .val (.long x3), .second, .val (.int x4), .val (.long y14), .second, .val (.long y29), .second, .val (.long y60), .second, .val (.ref b1), .val (.ref b3), .val (.ref bx), .val (.int k0), .val (.int (0 : Int32)), .unset, .unset] [(.int (lcmpW (y60 - y29) (-1 : Int64)))]))
                by_cases c169_16 : (y60 - y29) = (-1 : Int64)
                · skip
                  refine own_st (fun t k => XS.ifNo X5.here hx rfl (hb hby at_169) rfl ((if0 _ _).trans (teq ((lw_eq _ _).2 c169_16)).2) k) ?_
                  show own_Go p e below G (T5.setTop (mkF m 172 #[.val (.long x0), .second, .val (.long x1), .second, .val (.long x2), .second, .val (.long x3), .second, .val (.int x4), .val (.long y14), .second, .val (.long y29), .second, .val (.long y60), .second, .val (.ref b1), .val (.ref b3), .val (.ref bx), .val (.int k0), .val (.int (0 : Int32)), .unset, .unset] []))
                  refine own_st (fun t k => XS.iconst X5.here hx rfl (hb hby at_172) k) ?_
                  show own_Go p e below G (T5.setTop (mkF m 173 #[.val (.long x0), .second, .val (.long x1), .second, .val (.long x2), .second, .val (.long x3), .second, .val (.int x4), .val (.long y14), .second, .val (.long y29), .second, .val (.long y60), .second, .val (.ref b1), .val (.ref b3), .val (.ref bx), .val (.int k0), .val (.int (0 : Int32)), .unset, .unset] [(.int (1 : Int32))]))
                  refine own_st (fun t k => XS.goto X5.here hx rfl (pc0 := 173) (pc' := 177) rfl (hb hby at_173) (by decide) (by decide) k) ?_
                  show own_Go p e below G (T5.setTop (mkF m 177 #[.val (.long x0), .second, .val (.long x1), .second, .val (.long x2), .second, .val (.long x3), .second, .val (.int x4), .val (.long y14), .second, .val (.long y29), .second, .val (.long y60), .second, .val (.ref b1), .val (.ref b3), .val (.ref bx), .val (.int k0), .val (.int (0 : Int32)), .unset, .unset] [(.int (1 : Int32))]))
                  refine own_st (fun t k => XS.istore X5.here hx rfl (hb hby at_177) rfl (l' := #[.val (.long x0), .second, .val (.long x1), .second, .val (.long x2), .second, .val (.long x3), .second, .val (.int x4), .val (.long y14), .second, .val (.long y29), .second, .val (.long y60), .second, .val (.ref b1), .val (.ref b3), .val (.ref bx), .val (.int k0), .val (.int (0 : Int32)), .val (.int (1 : Int32)), .unset]) rfl k) ?_
                  show own_Go p e below G (T5.setTop (mkF m 179 #[.val (.long x0), .second, .val (.long x1), .second, .val (.long x2), .second, .val (.long x3), .second, .val (.int x4), .val (.long y14), .second, .val (.long y29), .second, .val (.long y60), .second, .val (.ref b1), .val (.ref b3), .val (.ref bx), .val (.int k0), .val (.int (0 : Int32)), .val (.int (1 : Int32)), .unset] []))
                  refine own_st (fun t k => XS.iload X5.here hx rfl (hb hby at_179) rfl  k) ?_
                  show own_Go p e below G (T5.setTop (mkF m 181 #[.val (.long x0), .second, .val (.long x1), .second, .val (.long x2), .second, .val (.long x3), .second, .val (.int x4), .val (.long y14), .second, .val (.long y29), .second, .val (.long y60), .second, .val (.ref b1), .val (.ref b3), .val (.ref bx), .val (.int k0), .val (.int (0 : Int32)), .val (.int (1 : Int32)), .unset] [(.int (0 : Int32))]))
                  refine own_st (fun t k => XS.ifYes X5.here hx rfl (pc0 := 181) (pc' := 189) rfl (hb hby at_181) rfl ((if0 _ _).trans (teq (by decide)).1) (by decide) (by decide) k) ?_
                  show own_Go p e below G (T5.setTop (mkF m 189 #[.val (.long x0), .second, .val (.long x1), .second, .val (.long x2), .second, .val (.long x3), .second, .val (.int x4), .val (.long y14), .second, .val (.long y29), .second, .val (.long y60), .second, .val (.ref b1), .val (.ref b3), .val (.ref bx), .val (.int k0), .val (.int (0 : Int32)), .val (.int (1 : Int32)), .unset] []))
                  refine own_st (fun t k => XS.iload X5.here hx rfl (hb hby at_189) rfl  k) ?_
                  show own_Go p e below G (T5.setTop (mkF m 191 #[.val (.long x0), .second, .val (.long x1), .second, .val (.long x2), .second, .val (.long x3), .second, .val (.int x4), .val (.long y14), .second, .val (.long y29), .second, .val (.long y60), .second, .val (.ref b1), .val (.ref b3), .val (.ref bx), .val (.int k0), .val (.int (0 : Int32)), .val (.int (1 : Int32)), .unset] [(.int (1 : Int32))]))
                  refine own_st (fun t k => XS.ifYes X5.here hx rfl (pc0 := 191) (pc' := 213) rfl (hb hby at_191) rfl ((if0 _ _).trans (feq (by decide)).2) (by decide) (by decide) k) ?_
                  show own_Go p e below G (T5.setTop (mkF m 213 #[.val (.long x0), .second, .val (.long x1), .second, .val (.long x2), .second, .val (.long x3), .second, .val (.int x4), .val (.long y14), .second, .val (.long y29), .second, .val (.long y60), .second, .val (.ref b1), .val (.ref b3), .val (.ref bx), .val (.int k0), .val (.int (0 : Int32)), .val (.int (1 : Int32)), .unset] []))
                  refine own_st (fun t k => XS.iconst X5.here hx rfl (hb hby at_213) k) ?_
                  show own_Go p e below G (T5.setTop (mkF m 214 #[.val (.long x0), .second, .val (.long x1), .second, .val (.long x2), .second, .val (.long x3), .second, .val (.int x4), .val (.long y14), .second, .val (.long y29), .second, .val (.long y60), .second, .val (.ref b1), .val (.ref b3), .val (.ref bx), .val (.int k0), .val (.int (0 : Int32)), .val (.int (1 : Int32)), .unset] [(.int (0 : Int32))]))
                  refine own_st (fun t k => XS.istore X5.here hx rfl (hb hby at_214) rfl (l' := #[.val (.long x0), .second, .val (.long x1), .second, .val (.long x2), .second, .val (.long x3), .second, .val (.int x4), .val (.long y14), .second, .val (.long y29), .second, .val (.long y60), .second, .val (.ref b1), .val (.ref b3), .val (.ref bx), .val (.int k0), .val (.int (0 : Int32)), .val (.int (1 : Int32)), .val (.int (0 : Int32))]) rfl k) ?_
                  show own_Go p e below G (T5.setTop (mkF m 216 #[.val (.long x0), .second, .val (.long x1), .second, .val (.long x2), .second, .val (.long x3), .second, .val (.int x4), .val (.long y14), .second, .val (.long y29), .second, .val (.long y60), .second, .val (.ref b1), .val (.ref b3), .val (.ref bx), .val (.int k0), .val (.int (0 : Int32)), .val (.int (1 : Int32)), .val (.int (0 : Int32))] []))
                  refine own_st (fun t k => XS.aload X5.here hx rfl (hb hby at_216) rfl rfl  k) ?_
                  show own_Go p e below G (T5.setTop (mkF m 218 #[.val (.long x0), .second, .val (.long x1), .second, .val (.long x2), .second, .val (.long x3), .second, .val (.int x4), .val (.long y14), .second, .val (.long y29), .second, .val (.long y60), .second, .val (.ref b1), .val (.ref b3), .val (.ref bx), .val (.int k0), .val (.int (0 : Int32)), .val (.int (1 : Int32)), .val (.int (0 : Int32))] [(.ref b1)]))
                  refine own_st (fun t k => XS.aload X5.here hx rfl (hb hby at_218) rfl rfl  k) ?_
                  show own_Go p e below G (T5.setTop (mkF m 220 #[.val (.long x0), .second, .val (.long x1), .second, .val (.long x2), .second, .val (.long x3), .second, .val (.int x4), .val (.long y14), .second, .val (.long y29), .second, .val (.long y60), .second, .val (.ref b1), .val (.ref b3), .val (.ref bx), .val (.int k0), .val (.int (0 : Int32)), .val (.int (1 : Int32)), .val (.int (0 : Int32))] [(.ref b3), (.ref b1)]))
                  obtain ⟨v17, T17, L17, X17, Q17, st17⟩ := own_callV X5 hx hZ (y := (⟨"com/example/pathweave/pathweave/Interval", "equals", "(Ljava/lang/Object;)Z"⟩ : MethodName)) (z := (⟨"com/example/pathweave/pathweave/Interval", "equals", "(Ljava/lang/Object;)Z"⟩ : MethodName)) hown (hw _ (List.mem_of_getElem? (i := 28) rfl)) (hw _ (List.mem_of_getElem? (i := 29) rfl)) (notFace_of_selects (args := #[]) (mvT hZ (hw _ (List.mem_of_getElem? (i := 31) rfl)))) (hw _ (List.mem_of_getElem? (i := 31) rfl)) (hw _ (List.mem_of_getElem? (i := 30) rfl)) (hw _ (List.mem_of_getElem? (i := 2) rfl)) (hw _ (List.mem_of_getElem? (i := 32) rfl)) (by decide) (W := 0) (rm6c l Z a0 hw b1 b3 (own_lo x0 y14) (own_hi x0 y14) (own_lo y29 y60) (own_hi y29 y60) T5.heap Eq_b3 Fl_b1 Fh_b1 Fl_b3 Fh_b3) (by decide) (by decide) rfl Eq_b1 (g := (mkF m 220 #[.val (.long x0), .second, .val (.long x1), .second, .val (.long x2), .second, .val (.long x3), .second, .val (.int x4), .val (.long y14), .second, .val (.long y29), .second, .val (.long y60), .second, .val (.ref b1), .val (.ref b3), .val (.ref bx), .val (.int k0), .val (.int (0 : Int32)), .val (.int (1 : Int32)), .val (.int (0 : Int32))] [(.ref b3), (.ref b1)])) rfl (by rw [hml]; rfl) (argsL := [(.ref b3)]) (rest := []) own_pd4 rfl rfl (by show 2 * 0 + _ ≤ _; exact Nat.le_of_eq rfl) (hb hby at_220) rfl (by decide) (by decide)
                  obtain ⟨rfl, rfl, e17⟩ := Q17
                  simp only [List.append_nil, Nat.add_zero] at X17
                  refine own_st st17 ?_
                  show own_Go p e below G (T17.setTop (mkF m 223 #[.val (.long x0), .second, .val (.long x1), .second, .val (.long x2), .second, .val (.long x3), .second, .val (.int x4), .val (.long y14), .second, .val (.long y29), .second, .val (.long y60), .second, .val (.ref b1), .val (.ref b3), .val (.ref bx), .val (.int k0), .val (.int (0 : Int32)), .val (.int (1 : Int32)), .val (.int (0 : Int32))] [(.int (own_iv (own_lo x0 y14) (own_hi x0 y14) (own_lo y29 y60) (own_hi y29 y60)))]))
                  refine own_st (fun t k => XS.iload X17.here hx rfl (hb hby at_223) rfl  k) ?_
                  show own_Go p e below G (T17.setTop (mkF m 225 #[.val (.long x0), .second, .val (.long x1), .second, .val (.long x2), .second, .val (.long x3), .second, .val (.int x4), .val (.long y14), .second, .val (.long y29), .second, .val (.long y60), .second, .val (.ref b1), .val (.ref b3), .val (.ref bx), .val (.int k0), .val (.int (0 : Int32)), .val (.int (1 : Int32)), .val (.int (0 : Int32))] [(.int (0 : Int32)), (.int (own_iv (own_lo x0 y14) (own_hi x0 y14) (own_lo y29 y60) (own_hi y29 y60)))]))
                  refine own_st (fun t k => XS.icmpNo X17.here hx rfl (hb hby at_225) rfl (teq (by rw [own_eqv, if_neg c150_10, if_pos c169_16])).2 k) ?_
                  show own_Go p e below G (T17.setTop (mkF m 228 #[.val (.long x0), .second, .val (.long x1), .second, .val (.long x2), .second, .val (.long x3), .second, .val (.int x4), .val (.long y14), .second, .val (.long y29), .second, .val (.long y60), .second, .val (.ref b1), .val (.ref b3), .val (.ref bx), .val (.int k0), .val (.int (0 : Int32)), .val (.int (1 : Int32)), .val (.int (0 : Int32))] []))
                  refine own_st (fun t k => XS.aload X17.here hx rfl (hb hby at_228) rfl rfl  k) ?_
                  show own_Go p e below G (T17.setTop (mkF m 230 #[.val (.long x0), .second, .val (.long x1), .second, .val (.long x2), .second, .val (.long x3), .second, .val (.int x4), .val (.long y14), .second, .val (.long y29), .second, .val (.long y60), .second, .val (.ref b1), .val (.ref b3), .val (.ref bx), .val (.int k0), .val (.int (0 : Int32)), .val (.int (1 : Int32)), .val (.int (0 : Int32))] [(.ref b3)]))
                  refine own_st (fun t k => XS.aload X17.here hx rfl (hb hby at_230) rfl rfl  k) ?_
                  show own_Go p e below G (T17.setTop (mkF m 232 #[.val (.long x0), .second, .val (.long x1), .second, .val (.long x2), .second, .val (.long x3), .second, .val (.int x4), .val (.long y14), .second, .val (.long y29), .second, .val (.long y60), .second, .val (.ref b1), .val (.ref b3), .val (.ref bx), .val (.int k0), .val (.int (0 : Int32)), .val (.int (1 : Int32)), .val (.int (0 : Int32))] [(.ref b1), (.ref b3)]))
                  obtain ⟨v18, T18, L18, X18, Q18, st18⟩ := own_callV X17 hx hZ (y := (⟨"com/example/pathweave/pathweave/Interval", "equals", "(Ljava/lang/Object;)Z"⟩ : MethodName)) (z := (⟨"com/example/pathweave/pathweave/Interval", "equals", "(Ljava/lang/Object;)Z"⟩ : MethodName)) hown (hw _ (List.mem_of_getElem? (i := 28) rfl)) (hw _ (List.mem_of_getElem? (i := 29) rfl)) (notFace_of_selects (args := #[]) (mvT hZ (hw _ (List.mem_of_getElem? (i := 31) rfl)))) (hw _ (List.mem_of_getElem? (i := 31) rfl)) (hw _ (List.mem_of_getElem? (i := 30) rfl)) (hw _ (List.mem_of_getElem? (i := 2) rfl)) (hw _ (List.mem_of_getElem? (i := 32) rfl)) (by decide) (W := 0) (rm6c l Z a0 hw b3 b1 (own_lo y29 y60) (own_hi y29 y60) (own_lo x0 y14) (own_hi x0 y14) T5.heap Eq_b1 Fl_b3 Fh_b3 Fl_b1 Fh_b1) (by decide) (by decide) e17 Eq_b3 (g := (mkF m 232 #[.val (.long x0), .second, .val (.long x1), .second, .val (.long x2), .second, .val (.long x3), .second, .val (.int x4), .val (.long y14), .second, .val (.long y29), .second, .val (.long y60), .second, .val (.ref b1), .val (.ref b3), .val (.ref bx), .val (.int k0), .val (.int (0 : Int32)), .val (.int (1 : Int32)), .val (.int (0 : Int32))] [(.ref b1), (.ref b3)])) rfl (by rw [hml]; rfl) (argsL := [(.ref b1)]) (rest := []) own_pd4 rfl rfl (by show 2 * 0 + _ ≤ _; exact Nat.le_of_eq rfl) (hb hby at_232) rfl (by decide) (by decide)
                  obtain ⟨rfl, rfl, e18⟩ := Q18
                  simp only [List.append_nil, Nat.add_zero] at X18
                  refine own_st st18 ?_
                  show own_Go p e below G (T18.setTop (mkF m 235 #[.val (.long x0), .second, .val (.long x1), .second, .val (.long x2), .second, .val (.long x3), .second, .val (.int x4), .val (.long y14), .second, .val (.long y29), .second, .val (.long y60), .second, .val (.ref b1), .val (.ref b3), .val (.ref bx), .val (.int k0), .val (.int (0 : Int32)), .val (.int (1 : Int32)), .val (.int (0 : Int32))] [(.int (own_iv (own_lo y29 y60) (own_hi y29 y60) (own_lo x0 y14) (own_hi x0 y14)))]))
                  refine own_st (fun t k => XS.iload X18.here hx rfl (hb hby at_235) rfl  k) ?_
                  show own_Go p e below G (T18.setTop (mkF m 237 #[.val (.long x0), .second, .val (.long x1), .second, .val (.long x2), .second, .val (.long x3), .second, .val (.int x4), .val (.long y14), .second, .val (.long y29), .second, .val (.long y60), .second, .val (.ref b1), .val (.ref b3), .val (.ref bx), .val (.int k0), .val (.int (0 : Int32)), .val (.int (1 : Int32)), .val (.int (0 : Int32))] [(.int (0 : Int32)), (.int (own_iv (own_lo y29 y60) (own_hi y29 y60) (own_lo x0 y14) (own_hi x0 y14)))]))
                  refine own_st (fun t k => XS.icmpNo X18.here hx rfl (hb hby at_237) rfl (teq (by rw [own_eqv', if_neg c150_10, if_pos c169_16])).2 k) ?_
                  show own_Go p e below G (T18.setTop (mkF m 240 #[.val (.long x0), .second, .val (.long x1), .second, .val (.long x2), .second, .val (.long x3), .second, .val (.int x4), .val (.long y14), .second, .val (.long y29), .second, .val (.long y60), .second, .val (.ref b1), .val (.ref b3), .val (.ref bx), .val (.int k0), .val (.int (0 : Int32)), .val (.int (1 : Int32)), .val (.int (0 : Int32))] []))
                  refine own_st (fun t k => XS.iconst X18.here hx rfl (hb hby at_240) k) ?_
                  show own_Go p e below G (T18.setTop (mkF m 241 #[.val (.long x0), .second, .val (.long x1), .second, .val (.long x2), .second, .val (.long x3), .second, .val (.int x4), .val (.long y14), .second, .val (.long y29), .second, .val (.long y60), .second, .val (.ref b1), .val (.ref b3), .val (.ref bx), .val (.int k0), .val (.int (0 : Int32)), .val (.int (1 : Int32)), .val (.int (0 : Int32))] [(.int (1 : Int32))]))
                  refine own_st (fun t k => XS.goto X18.here hx rfl (pc0 := 241) (pc' := 245) rfl (hb hby at_241) (by decide) (by decide) k) ?_
                  show own_Go p e below G (T18.setTop (mkF m 245 #[.val (.long x0), .second, .val (.long x1), .second, .val (.long x2), .second, .val (.long x3), .second, .val (.int x4), .val (.long y14), .second, .val (.long y29), .second, .val (.long y60), .second, .val (.ref b1), .val (.ref b3), .val (.ref bx), .val (.int k0), .val (.int (0 : Int32)), .val (.int (1 : Int32)), .val (.int (0 : Int32))] [(.int (1 : Int32))]))
                  rw [hG]
                  exact own_retZ X18 hx hlk (t := .boolean) hret (by simp) (hb hby at_245) ⟨rfl, N0⟩ (by decide) (by decide)
                · skip
                  refine own_st (fun t k => XS.ifYes X5.here hx rfl (pc0 := 169) (pc' := 176) rfl (hb hby at_169) rfl ((if0 _ _).trans (feq (fun q => c169_16 ((lw_eq _ _).1 q))).2) (by decide) (by decide) k) ?_
                  show own_Go p e below G (T5.setTop (mkF m 176 #[.val (.long x0), .second, .val (.long x1), .second, .val (.long x2), .second, .val (.long x3), .second, .val (.int x4), .val (.long y14), .second, .val (.long y29), .second, .val (.long y60), .second, .val (.ref b1), .val (.ref b3), .val (.ref bx), .val (.int k0), .val (.int (0 : Int32)), .unset, .unset] []))
                  refine own_st (fun t k => XS.iconst X5.here hx rfl (hb hby at_176) k) ?_
                  show own_Go p e below G (T5.setTop (mkF m 177 #[.val (.long x0), .second, .val (.long x1), .second, .val (.long x2), .second, .val (.long x3), .second, .val (.int x4), .val (.long y14), .second, .val (.long y29), .second, .val (.long y60), .second, .val (.ref b1), .val (.ref b3), .val (.ref bx), .val (.int k0), .val (.int (0 : Int32)), .unset, .unset] [(.int (0 : Int32))]))
                  refine own_st (fun t k => XS.istore X5.here hx rfl (hb hby at_177) rfl (l' := #[.val (.long x0), .second, .val (.long x1), .second, .val (.long x2), .second, .val (.long x3), .second, .val (.int x4), .val (.long y14), .second, .val (.long y29), .second, .val (.long y60), .second, .val (.ref b1), .val (.ref b3), .val (.ref bx), .val (.int k0), .val (.int (0 : Int32)), .val (.int (0 : Int32)), .unset]) rfl k) ?_
                  show own_Go p e below G (T5.setTop (mkF m 179 #[.val (.long x0), .second, .val (.long x1), .second, .val (.long x2), .second, .val (.long x3), .second, .val (.int x4), .val (.long y14), .second, .val (.long y29), .second, .val (.long y60), .second, .val (.ref b1), .val (.ref b3), .val (.ref bx), .val (.int k0), .val (.int (0 : Int32)), .val (.int (0 : Int32)), .unset] []))
                  refine own_st (fun t k => XS.iload X5.here hx rfl (hb hby at_179) rfl  k) ?_
                  show own_Go p e below G (T5.setTop (mkF m 181 #[.val (.long x0), .second, .val (.long x1), .second, .val (.long x2), .second, .val (.long x3), .second, .val (.int x4), .val (.long y14), .second, .val (.long y29), .second, .val (.long y60), .second, .val (.ref b1), .val (.ref b3), .val (.ref bx), .val (.int k0), .val (.int (0 : Int32)), .val (.int (0 : Int32)), .unset] [(.int (0 : Int32))]))
                  refine own_st (fun t k => XS.ifYes X5.here hx rfl (pc0 := 181) (pc' := 189) rfl (hb hby at_181) rfl ((if0 _ _).trans (teq (by decide)).1) (by decide) (by decide) k) ?_
                  show own_Go p e below G (T5.setTop (mkF m 189 #[.val (.long x0), .second, .val (.long x1), .second, .val (.long x2), .second, .val (.long x3), .second, .val (.int x4), .val (.long y14), .second, .val (.long y29), .second, .val (.long y60), .second, .val (.ref b1), .val (.ref b3), .val (.ref bx), .val (.int k0), .val (.int (0 : Int32)), .val (.int (0 : Int32)), .unset] []))
                  refine own_st (fun t k => XS.iload X5.here hx rfl (hb hby at_189) rfl  k) ?_
                  show own_Go p e below G (T5.setTop (mkF m 191 #[.val (.long x0), .second, .val (.long x1), .second, .val (.long x2), .second, .val (.long x3), .second, .val (.int x4), .val (.long y14), .second, .val (.long y29), .second, .val (.long y60), .second, .val (.ref b1), .val (.ref b3), .val (.ref bx), .val (.int k0), .val (.int (0 : Int32)), .val (.int (0 : Int32)), .unset] [(.int (0 : Int32))]))
                  refine own_st (fun t k => XS.ifNo X5.here hx rfl (hb hby at_191) rfl ((if0 _ _).trans (teq (by decide)).2) k) ?_
                  show own_Go p e below G (T5.setTop (mkF m 194 #[.val (.long x0), .second, .val (.long x1), .second, .val (.long x2), .second, .val (.long x3), .second, .val (.int x4), .val (.long y14), .second, .val (.long y29), .second, .val (.long y60), .second, .val (.ref b1), .val (.ref b3), .val (.ref bx), .val (.int k0), .val (.int (0 : Int32)), .val (.int (0 : Int32)), .unset] []))
                  refine own_st (fun t k => XS.lloadN X5.here hx rfl (hb hby at_194) rfl  k) ?_
                  show own_Go p e below G (T5.setTop (mkF m 195 #[.val (.long x0), .second, .val (.long x1), .second, .val (.long x2), .second, .val (.long x3), .second, .val (.int x4), .val (.long y14), .second, .val (.long y29), .second, .val (.long y60), .second, .val (.ref b1), .val (.ref b3), .val (.ref bx), .val (.int k0), .val (.int (0 : Int32)), .val (.int (0 : Int32)), .unset] [(.long x0)]))
                  refine own_st (fun t k => XS.lload X5.here hx rfl (hb hby at_195) rfl  k) ?_
                  show own_Go p e below G (T5.setTop (mkF m 197 #[.val (.long x0), .second, .val (.long x1), .second, .val (.long x2), .second, .val (.long x3), .second, .val (.int x4), .val (.long y14), .second, .val (.long y29), .second, .val (.long y60), .second, .val (.ref b1), .val (.ref b3), .val (.ref bx), .val (.int k0), .val (.int (0 : Int32)), .val (.int (0 : Int32)), .unset] [(.long y29), (.long x0)]))
                  refine own_st (fun t k => XS.lcmp X5.here hx rfl (hb hby at_197) rfl k) ?_
                  show own_Go p e below G (T5.setTop (mkF m 198 #[.val (.long x0), .second, .val (.long x1), .second, .val (.long x2), .second, .val (.long x3), .second, .val (.int x4), .val (.long y14), .second, .val (.long y29), .second, .val (.long y60), .second, .val (.ref b1), .val (.ref b3), .val (.ref bx), .val (.int k0), .val (.int (0 : Int32)), .val (.int (0 : Int32)), .unset] [(.int (lcmpW x0 y29))]))
                  by_cases c198_19 : x0 = y29
                  · skip
                    refine own_st (fun t k => XS.ifNo X5.here hx rfl (hb hby at_198) rfl ((if0 _ _).trans (teq ((lw_eq _ _).2 c198_19)).2) k) ?_
                    show own_Go p e below G (T5.setTop (mkF m 201 #[.val (.long x0), .second, .val (.long x1), .second, .val (.long x2), .second, .val (.long x3), .second, .val (.int x4), .val (.long y14), .second, .val (.long y29), .second, .val (.long y60), .second, .val (.ref b1), .val (.ref b3), .val (.ref bx), .val (.int k0), .val (.int (0 : Int32)), .val (.int (0 : Int32)), .unset] []))
                    refine own_st (fun t k => XS.lload X5.here hx rfl (hb hby at_201) rfl  k) ?_
                    show own_Go p e below G (T5.setTop (mkF m 203 #[.val (.long x0), .second, .val (.long x1), .second, .val (.long x2), .second, .val (.long x3), .second, .val (.int x4), .val (.long y14), .second, .val (.long y29), .second, .val (.long y60), .second, .val (.ref b1), .val (.ref b3), .val (.ref bx), .val (.int k0), .val (.int (0 : Int32)), .val (.int (0 : Int32)), .unset] [(.long y14)]))
                    refine own_st (fun t k => XS.lload X5.here hx rfl (hb hby at_203) rfl  k) ?_
                    show own_Go p e below G (T5.setTop (mkF m 205 #[.val (.long x0), .second, .val (.long x1), .second, .val (.long x2), .second, .val (.long x3), .second, .val (.int x4), .val (.long y14), .second, .val (.long y29), .second, .val (.long y60), .second, .val (.ref b1), .val (.ref b3), .val (.ref bx), .val (.int k0), .val (.int (0 : Int32)), .val (.int (0 : Int32)), .unset] [(.long y60), (.long y14)]))
                    refine own_st (fun t k => XS.lcmp X5.here hx rfl (hb hby at_205) rfl k) ?_
                    show own_Go p e below G (T5.setTop (mkF m 206 #[.val (.long x0), .second, .val (.long x1), .second, .val (.long x2), .second, .val (.long x3), .second, .val (.int x4), .val (.long y14), .second, .val (.long y29), .second, .val (.long y60), .second, .val (.ref b1), .val (.ref b3), .val (.ref bx), .val (.int k0), .val (.int (0 : Int32)), .val (.int (0 : Int32)), .unset] [(.int (lcmpW y14 y60))]))
                    by_cases c206_20 : y14 = y60
                    · skip
                      refine own_st (fun t k => XS.ifNo X5.here hx rfl (hb hby at_206) rfl ((if0 _ _).trans (teq ((lw_eq _ _).2 c206_20)).2) k) ?_
                      show own_Go p e below G (T5.setTop (mkF m 209 #[.val (.long x0), .second, .val (.long x1), .second, .val (.long x2), .second, .val (.long x3), .second, .val (.int x4), .val (.long y14), .second, .val (.long y29), .second, .val (.long y60), .second, .val (.ref b1), .val (.ref b3), .val (.ref bx), .val (.int k0), .val (.int (0 : Int32)), .val (.int (0 : Int32)), .unset] []))
                      refine own_st (fun t k => XS.iconst X5.here hx rfl (hb hby at_209) k) ?_
                      show own_Go p e below G (T5.setTop (mkF m 210 #[.val (.long x0), .second, .val (.long x1), .second, .val (.long x2), .second, .val (.long x3), .second, .val (.int x4), .val (.long y14), .second, .val (.long y29), .second, .val (.long y60), .second, .val (.ref b1), .val (.ref b3), .val (.ref bx), .val (.int k0), .val (.int (0 : Int32)), .val (.int (0 : Int32)), .unset] [(.int (1 : Int32))]))
                      refine own_st (fun t k => XS.goto X5.here hx rfl (pc0 := 210) (pc' := 214) rfl (hb hby at_210) (by decide) (by decide) k) ?_
                      show own_Go p e below G (T5.setTop (mkF m 214 #[.val (.long x0), .second, .val (.long x1), .second, .val (.long x2), .second, .val (.long x3), .second, .val (.int x4), .val (.long y14), .second, .val (.long y29), .second, .val (.long y60), .second, .val (.ref b1), .val (.ref b3), .val (.ref bx), .val (.int k0), .val (.int (0 : Int32)), .val (.int (0 : Int32)), .unset] [(.int (1 : Int32))]))
                      refine own_st (fun t k => XS.istore X5.here hx rfl (hb hby at_214) rfl (l' := #[.val (.long x0), .second, .val (.long x1), .second, .val (.long x2), .second, .val (.long x3), .second, .val (.int x4), .val (.long y14), .second, .val (.long y29), .second, .val (.long y60), .second, .val (.ref b1), .val (.ref b3), .val (.ref bx), .val (.int k0), .val (.int (0 : Int32)), .val (.int (0 : Int32)), .val (.int (1 : Int32))]) rfl k) ?_
                      show own_Go p e below G (T5.setTop (mkF m 216 #[.val (.long x0), .second, .val (.long x1), .second, .val (.long x2), .second, .val (.long x3), .second, .val (.int x4), .val (.long y14), .second, .val (.long y29), .second, .val (.long y60), .second, .val (.ref b1), .val (.ref b3), .val (.ref bx), .val (.int k0), .val (.int (0 : Int32)), .val (.int (0 : Int32)), .val (.int (1 : Int32))] []))
                      refine own_st (fun t k => XS.aload X5.here hx rfl (hb hby at_216) rfl rfl  k) ?_
                      show own_Go p e below G (T5.setTop (mkF m 218 #[.val (.long x0), .second, .val (.long x1), .second, .val (.long x2), .second, .val (.long x3), .second, .val (.int x4), .val (.long y14), .second, .val (.long y29), .second, .val (.long y60), .second, .val (.ref b1), .val (.ref b3), .val (.ref bx), .val (.int k0), .val (.int (0 : Int32)), .val (.int (0 : Int32)), .val (.int (1 : Int32))] [(.ref b1)]))
                      refine own_st (fun t k => XS.aload X5.here hx rfl (hb hby at_218) rfl rfl  k) ?_
                      show own_Go p e below G (T5.setTop (mkF m 220 #[.val (.long x0), .second, .val (.long x1), .second, .val (.long x2), .second, .val (.long x3), .second, .val (.int x4), .val (.long y14), .second, .val (.long y29), .second, .val (.long y60), .second, .val (.ref b1), .val (.ref b3), .val (.ref bx), .val (.int k0), .val (.int (0 : Int32)), .val (.int (0 : Int32)), .val (.int (1 : Int32))] [(.ref b3), (.ref b1)]))
                      obtain ⟨v21, T21, L21, X21, Q21, st21⟩ := own_callV X5 hx hZ (y := (⟨"com/example/pathweave/pathweave/Interval", "equals", "(Ljava/lang/Object;)Z"⟩ : MethodName)) (z := (⟨"com/example/pathweave/pathweave/Interval", "equals", "(Ljava/lang/Object;)Z"⟩ : MethodName)) hown (hw _ (List.mem_of_getElem? (i := 28) rfl)) (hw _ (List.mem_of_getElem? (i := 29) rfl)) (notFace_of_selects (args := #[]) (mvT hZ (hw _ (List.mem_of_getElem? (i := 31) rfl)))) (hw _ (List.mem_of_getElem? (i := 31) rfl)) (hw _ (List.mem_of_getElem? (i := 30) rfl)) (hw _ (List.mem_of_getElem? (i := 2) rfl)) (hw _ (List.mem_of_getElem? (i := 32) rfl)) (by decide) (W := 0) (rm6c l Z a0 hw b1 b3 (own_lo x0 y14) (own_hi x0 y14) (own_lo y29 y60) (own_hi y29 y60) T5.heap Eq_b3 Fl_b1 Fh_b1 Fl_b3 Fh_b3) (by decide) (by decide) rfl Eq_b1 (g := (mkF m 220 #[.val (.long x0), .second, .val (.long x1), .second, .val (.long x2), .second, .val (.long x3), .second, .val (.int x4), .val (.long y14), .second, .val (.long y29), .second, .val (.long y60), .second, .val (.ref b1), .val (.ref b3), .val (.ref bx), .val (.int k0), .val (.int (0 : Int32)), .val (.int (0 : Int32)), .val (.int (1 : Int32))] [(.ref b3), (.ref b1)])) rfl (by rw [hml]; rfl) (argsL := [(.ref b3)]) (rest := []) own_pd4 rfl rfl (by show 2 * 0 + _ ≤ _; exact Nat.le_of_eq rfl) (hb hby at_220) rfl (by decide) (by decide)
                      obtain ⟨rfl, rfl, e21⟩ := Q21
                      simp only [List.append_nil, Nat.add_zero] at X21
                      refine own_st st21 ?_
                      show own_Go p e below G (T21.setTop (mkF m 223 #[.val (.long x0), .second, .val (.long x1), .second, .val (.long x2), .second, .val (.long x3), .second, .val (.int x4), .val (.long y14), .second, .val (.long y29), .second, .val (.long y60), .second, .val (.ref b1), .val (.ref b3), .val (.ref bx), .val (.int k0), .val (.int (0 : Int32)), .val (.int (0 : Int32)), .val (.int (1 : Int32))] [(.int (own_iv (own_lo x0 y14) (own_hi x0 y14) (own_lo y29 y60) (own_hi y29 y60)))]))
                      refine own_st (fun t k => XS.iload X21.here hx rfl (hb hby at_223) rfl  k) ?_
                      show own_Go p e below G (T21.setTop (mkF m 225 #[.val (.long x0), .second, .val (.long x1), .second, .val (.long x2), .second, .val (.long x3), .second, .val (.int x4), .val (.long y14), .second, .val (.long y29), .second, .val (.long y60), .second, .val (.ref b1), .val (.ref b3), .val (.ref bx), .val (.int k0), .val (.int (0 : Int32)), .val (.int (0 : Int32)), .val (.int (1 : Int32))] [(.int (1 : Int32)), (.int (own_iv (own_lo x0 y14) (own_hi x0 y14) (own_lo y29 y60) (own_hi y29 y60)))]))
                      refine own_st (fun t k => XS.icmpNo X21.here hx rfl (hb hby at_225) rfl (teq (by rw [own_eqv, if_neg c150_10, if_neg c169_16, if_pos ⟨c198_19, c206_20⟩])).2 k) ?_
                      show own_Go p e below G (T21.setTop (mkF m 228 #[.val (.long x0), .second, .val (.long x1), .second, .val (.long x2), .second, .val (.long x3), .second, .val (.int x4), .val (.long y14), .second, .val (.long y29), .second, .val (.long y60), .second, .val (.ref b1), .val (.ref b3), .val (.ref bx), .val (.int k0), .val (.int (0 : Int32)), .val (.int (0 : Int32)), .val (.int (1 : Int32))] []))
                      refine own_st (fun t k => XS.aload X21.here hx rfl (hb hby at_228) rfl rfl  k) ?_
                      show own_Go p e below G (T21.setTop (mkF m 230 #[.val (.long x0), .second, .val (.long x1), .second, .val (.long x2), .second, .val (.long x3), .second, .val (.int x4), .val (.long y14), .second, .val (.long y29), .second, .val (.long y60), .second, .val (.ref b1), .val (.ref b3), .val (.ref bx), .val (.int k0), .val (.int (0 : Int32)), .val (.int (0 : Int32)), .val (.int (1 : Int32))] [(.ref b3)]))
                      refine own_st (fun t k => XS.aload X21.here hx rfl (hb hby at_230) rfl rfl  k) ?_
                      show own_Go p e below G (T21.setTop (mkF m 232 #[.val (.long x0), .second, .val (.long x1), .second, .val (.long x2), .second, .val (.long x3), .second, .val (.int x4), .val (.long y14), .second, .val (.long y29), .second, .val (.long y60), .second, .val (.ref b1), .val (.ref b3), .val (.ref bx), .val (.int k0), .val (.int (0 : Int32)), .val (.int (0 : Int32)), .val (.int (1 : Int32))] [(.ref b1), (.ref b3)]))
                      obtain ⟨v22, T22, L22, X22, Q22, st22⟩ := own_callV X21 hx hZ (y := (⟨"com/example/pathweave/pathweave/Interval", "equals", "(Ljava/lang/Object;)Z"⟩ : MethodName)) (z := (⟨"com/example/pathweave/pathweave/Interval", "equals", "(Ljava/lang/Object;)Z"⟩ : MethodName)) hown (hw _ (List.mem_of_getElem? (i := 28) rfl)) (hw _ (List.mem_of_getElem? (i := 29) rfl)) (notFace_of_selects (args := #[]) (mvT hZ (hw _ (List.mem_of_getElem? (i := 31) rfl)))) (hw _ (List.mem_of_getElem? (i := 31) rfl)) (hw _ (List.mem_of_getElem? (i := 30) rfl)) (hw _ (List.mem_of_getElem? (i := 2) rfl)) (hw _ (List.mem_of_getElem? (i := 32) rfl)) (by decide) (W := 0) (rm6c l Z a0 hw b3 b1 (own_lo y29 y60) (own_hi y29 y60) (own_lo x0 y14) (own_hi x0 y14) T5.heap Eq_b1 Fl_b3 Fh_b3 Fl_b1 Fh_b1) (by decide) (by decide) e21 Eq_b3 (g := (mkF m 232 #[.val (.long x0), .second, .val (.long x1), .second, .val (.long x2), .second, .val (.long x3), .second, .val (.int x4), .val (.long y14), .second, .val (.long y29), .second, .val (.long y60), .second, .val (.ref b1), .val (.ref b3), .val (.ref bx), .val (.int k0), .val (.int (0 : Int32)), .val (.int (0 : Int32)), .val (.int (1 : Int32))] [(.ref b1), (.ref b3)])) rfl (by rw [hml]; rfl) (argsL := [(.ref b1)]) (rest := []) own_pd4 rfl rfl (by show 2 * 0 + _ ≤ _; exact Nat.le_of_eq rfl) (hb hby at_232) rfl (by decide) (by decide)
                      obtain ⟨rfl, rfl, e22⟩ := Q22
                      simp only [List.append_nil, Nat.add_zero] at X22
                      refine own_st st22 ?_
                      show own_Go p e below G (T22.setTop (mkF m 235 #[.val (.long x0), .second, .val (.long x1), .second, .val (.long x2), .second, .val (.long x3), .second, .val (.int x4), .val (.long y14), .second, .val (.long y29), .second, .val (.long y60), .second, .val (.ref b1), .val (.ref b3), .val (.ref bx), .val (.int k0), .val (.int (0 : Int32)), .val (.int (0 : Int32)), .val (.int (1 : Int32))] [(.int (own_iv (own_lo y29 y60) (own_hi y29 y60) (own_lo x0 y14) (own_hi x0 y14)))]))
                      refine own_st (fun t k => XS.iload X22.here hx rfl (hb hby at_235) rfl  k) ?_
                      show own_Go p e below G (T22.setTop (mkF m 237 #[.val (.long x0), .second, .val (.long x1), .second, .val (.long x2), .second, .val (.long x3), .second, .val (.int x4), .val (.long y14), .second, .val (.long y29), .second, .val (.long y60), .second, .val (.ref b1), .val (.ref b3), .val (.ref bx), .val (.int k0), .val (.int (0 : Int32)), .val (.int (0 : Int32)), .val (.int (1 : Int32))] [(.int (1 : Int32)), (.int (own_iv (own_lo y29 y60) (own_hi y29 y60) (own_lo x0 y14) (own_hi x0 y14)))]))
                      refine own_st (fun t k => XS.icmpNo X22.here hx rfl (hb hby at_237) rfl (teq (by rw [own_eqv', if_neg c150_10, if_neg c169_16, if_pos ⟨c198_19, c206_20⟩])).2 k) ?_
                      show own_Go p e below G (T22.setTop (mkF m 240 #[.val (.long x0), .second, .val (.long x1), .second, .val (.long x2), .second, .val (.long x3), .second, .val (.int x4), .val (.long y14), .second, .val (.long y29), .second, .val (.long y60), .second, .val (.ref b1), .val (.ref b3), .val (.ref bx), .val (.int k0), .val (.int (0 : Int32)), .val (.int (0 : Int32)), .val (.int (1 : Int32))] []))
                      refine own_st (fun t k => XS.iconst X22.here hx rfl (hb hby at_240) k) ?_
                      show own_Go p e below G (T22.setTop (mkF m 241 #[.val (.long x0), .second, .val (.long x1), .second, .val (.long x2), .second, .val (.long x3), .second, .val (.int x4), .val (.long y14), .second, .val (.long y29), .second, .val (.long y60), .second, .val (.ref b1), .val (.ref b3), .val (.ref bx), .val (.int k0), .val (.int (0 : Int32)), .val (.int (0 : Int32)), .val (.int (1 : Int32))] [(.int (1 : Int32))]))
                      refine own_st (fun t k => XS.goto X22.here hx rfl (pc0 := 241) (pc' := 245) rfl (hb hby at_241) (by decide) (by decide) k) ?_
                      show own_Go p e below G (T22.setTop (mkF m 245 #[.val (.long x0), .second, .val (.long x1), .second, .val (.long x2), .second, .val (.long x3), .second, .val (.int x4), .val (.long y14), .second, .val (.long y29), .second, .val (.long y60), .second, .val (.ref b1), .val (.ref b3), .val (.ref bx), .val (.int k0), .val (.int (0 : Int32)), .val (.int (0 : Int32)), .val (.int (1 : Int32))] [(.int (1 : Int32))]))
                      rw [hG]
                      exact own_retZ X22 hx hlk (t := .boolean) hret (by simp) (hb hby at_245) ⟨rfl, N0⟩ (by decide) (by decide)
                    · skip
                      refine own_st (fun t k => XS.ifYes X5.here hx rfl (pc0 := 206) (pc' := 213) rfl (hb hby at_206) rfl ((if0 _ _).trans (feq (fun q => c206_20 ((lw_eq _ _).1 q))).2) (by decide) (by decide) k) ?_
                      show own_Go p e below G (T5.setTop (mkF m 213 #[.val (.long x0), .second, .val (.long x1), .second, .val (.long x2), .second, .val (.long x3), .second, .val (.int x4), .val (.long y14), .second, .val (.long y29), .second, .val (.long y60), .second, .val (.ref b1), .val (.ref b3), .val (.ref bx), .val (.int k0), .val (.int (0 : Int32)), .val (.int (0 : Int32)), .unset] []))
                      refine own_st (fun t k => XS.iconst X5.here hx rfl (hb hby at_213) k) ?_
                      show own_Go p e below G (T5.setTop (mkF m 214 #[.val (.long x0), .second, .val (.long x1), .second, .val (.long x2), .second, .val (.long x3), .second, .val (.int x4), .val (.long y14), .second, .val (.long y29), .second, .val (.long y60), .second, .val (.ref b1), .val (.ref b3), .val (.ref bx), .val (.int k0), .val (.int (0 : Int32)), .val (.int (0 : Int32)), .unset] [(.int (0 : Int32))]))
                      refine own_st (fun t k => XS.istore X5.here hx rfl (hb hby at_214) rfl (l' := #[.val (.long x0), .second, .val (.long x1), .second, .val (.long x2), .second, .val (.long x3), .second, .val (.int x4), .val (.long y14), .second, .val (.long y29), .second, .val (.long y60), .second, .val (.ref b1), .val (.ref b3), .val (.ref bx), .val (.int k0), .val (.int (0 : Int32)), .val (.int (0 : Int32)), .val (.int (0 : Int32))]) rfl k) ?_
                      show own_Go p e below G (T5.setTop (mkF m 216 #[.val (.long x0), .second, .val (.long x1), .second, .val (.long x2), .second, .val (.long x3), .second, .val (.int x4), .val (.long y14), .second, .val (.long y29), .second, .val (.long y60), .second, .val (.ref b1), .val (.ref b3), .val (.ref bx), .val (.int k0), .val (.int (0 : Int32)), .val (.int (0 : Int32)), .val (.int (0 : Int32))] []))
                      refine own_st (fun t k => XS.aload X5.here hx rfl (hb hby at_216) rfl rfl  k) ?_
                      show own_Go p e below G (T5.setTop (mkF m 218 #[.val (.long x0), .second, .val (.long x1), .second, .val (.long x2), .second, .val (.long x3), .second, .val (.int x4), .val (.long y14), .second, .val (.long y29), .second, .val (.long y60), .second, .val (.ref b1), .val (.ref b3), .val (.ref bx), .val (.int k0), .val (.int (0 : Int32)), .val (.int (0 : Int32)), .val (.int (0 : Int32))] [(.ref b1)]))
                      refine own_st (fun t k => XS.aload X5.here hx rfl (hb hby at_218) rfl rfl  k) ?_
                      show own_Go p e below G (T5.setTop (mkF m 220 #[.val (.long x0), .second, .val (.long x1), .second, .val (.long x2), .second, .val (.long x3), .second, .val (.int x4), .val (.long y14), .second, .val (.long y29), .second, .val (.long y60), .second, .val (.ref b1), .val (.ref b3), .val (.ref bx), .val (.int k0), .val (.int (0 : Int32)), .val (.int (0 : Int32)), .val (.int (0 : Int32))] [(.ref b3), (.ref b1)]))
                      obtain ⟨v23, T23, L23, X23, Q23, st23⟩ := own_callV X5 hx hZ (y := (⟨"com/example/pathweave/pathweave/Interval", "equals", "(Ljava/lang/Object;)Z"⟩ : MethodName)) (z := (⟨"com/example/pathweave/pathweave/Interval", "equals", "(Ljava/lang/Object;)Z"⟩ : MethodName)) hown (hw _ (List.mem_of_getElem? (i := 28) rfl)) (hw _ (List.mem_of_getElem? (i := 29) rfl)) (notFace_of_selects (args := #[]) (mvT hZ (hw _ (List.mem_of_getElem? (i := 31) rfl)))) (hw _ (List.mem_of_getElem? (i := 31) rfl)) (hw _ (List.mem_of_getElem? (i := 30) rfl)) (hw _ (List.mem_of_getElem? (i := 2) rfl)) (hw _ (List.mem_of_getElem? (i := 32) rfl)) (by decide) (W := 0) (rm6c l Z a0 hw b1 b3 (own_lo x0 y14) (own_hi x0 y14) (own_lo y29 y60) (own_hi y29 y60) T5.heap Eq_b3 Fl_b1 Fh_b1 Fl_b3 Fh_b3) (by decide) (by decide) rfl Eq_b1 (g := (mkF m 220 #[.val (.long x0), .second, .val (.long x1), .second, .val (.long x2), .second, .val (.long x3), .second, .val (.int x4), .val (.long y14), .second, .val (.long y29), .second, .val (.long y60), .second, .val (.ref b1), .val (.ref b3), .val (.ref bx), .val (.int k0), .val (.int (0 : Int32)), .val (.int (0 : Int32)), .val (.int (0 : Int32))] [(.ref b3), (.ref b1)])) rfl (by rw [hml]; rfl) (argsL := [(.ref b3)]) (rest := []) own_pd4 rfl rfl (by show 2 * 0 + _ ≤ _; exact Nat.le_of_eq rfl) (hb hby at_220) rfl (by decide) (by decide)
                      obtain ⟨rfl, rfl, e23⟩ := Q23
                      simp only [List.append_nil, Nat.add_zero] at X23
                      refine own_st st23 ?_
                      show own_Go p e below G (T23.setTop (mkF m 223 #[.val (.long x0), .second, .val (.long x1), .second, .val (.long x2), .second, .val (.long x3), .second, .val (.int x4), .val (.long y14), .second, .val (.long y29), .second, .val (.long y60), .second, .val (.ref b1), .val (.ref b3), .val (.ref bx), .val (.int k0), .val (.int (0 : Int32)), .val (.int (0 : Int32)), .val (.int (0 : Int32))] [(.int (own_iv (own_lo x0 y14) (own_hi x0 y14) (own_lo y29 y60) (own_hi y29 y60)))]))
                      refine own_st (fun t k => XS.iload X23.here hx rfl (hb hby at_223) rfl  k) ?_
                      show own_Go p e below G (T23.setTop (mkF m 225 #[.val (.long x0), .second, .val (.long x1), .second, .val (.long x2), .second, .val (.long x3), .second, .val (.int x4), .val (.long y14), .second, .val (.long y29), .second, .val (.long y60), .second, .val (.ref b1), .val (.ref b3), .val (.ref bx), .val (.int k0), .val (.int (0 : Int32)), .val (.int (0 : Int32)), .val (.int (0 : Int32))] [(.int (0 : Int32)), (.int (own_iv (own_lo x0 y14) (own_hi x0 y14) (own_lo y29 y60) (own_hi y29 y60)))]))
                      refine own_st (fun t k => XS.icmpNo X23.here hx rfl (hb hby at_225) rfl (teq (by rw [own_eqv, if_neg c150_10, if_neg c169_16, if_neg (fun q => c206_20 q.2)])).2 k) ?_
                      show own_Go p e below G (T23.setTop (mkF m 228 #[.val (.long x0), .second, .val (.long x1), .second, .val (.long x2), .second, .val (.long x3), .second, .val (.int x4), .val (.long y14), .second, .val (.long y29), .second, .val (.long y60), .second, .val (.ref b1), .val (.ref b3), .val (.ref bx), .val (.int k0), .val (.int (0 : Int32)), .val (.int (0 : Int32)), .val (.int (0 : Int32))] []))
                      refine own_st (fun t k => XS.aload X23.here hx rfl (hb hby at_228) rfl rfl  k) ?_
                      show own_Go p e below G (T23.setTop (mkF m 230 #[.val (.long x0), .second, .val (.long x1), .second, .val (.long x2), .second, .val (.long x3), .second, .val (.int x4), .val (.long y14), .second, .val (.long y29), .second, .val (.long y60), .second, .val (.ref b1), .val (.ref b3), .val (.ref bx), .val (.int k0), .val (.int (0 : Int32)), .val (.int (0 : Int32)), .val (.int (0 : Int32))] [(.ref b3)]))
                      refine own_st (fun t k => XS.aload X23.here hx rfl (hb hby at_230) rfl rfl  k) ?_
                      show own_Go p e below G (T23.setTop (mkF m 232 #[.val (.long x0), .second, .val (.long x1), .second, .val (.long x2), .second, .val (.long x3), .second, .val (.int x4), .val (.long y14), .second, .val (.long y29), .second, .val (.long y60), .second, .val (.ref b1), .val (.ref b3), .val (.ref bx), .val (.int k0), .val (.int (0 : Int32)), .val (.int (0 : Int32)), .val (.int (0 : Int32))] [(.ref b1), (.ref b3)]))
                      obtain ⟨v24, T24, L24, X24, Q24, st24⟩ := own_callV X23 hx hZ (y := (⟨"com/example/pathweave/pathweave/Interval", "equals", "(Ljava/lang/Object;)Z"⟩ : MethodName)) (z := (⟨"com/example/pathweave/pathweave/Interval", "equals", "(Ljava/lang/Object;)Z"⟩ : MethodName)) hown (hw _ (List.mem_of_getElem? (i := 28) rfl)) (hw _ (List.mem_of_getElem? (i := 29) rfl)) (notFace_of_selects (args := #[]) (mvT hZ (hw _ (List.mem_of_getElem? (i := 31) rfl)))) (hw _ (List.mem_of_getElem? (i := 31) rfl)) (hw _ (List.mem_of_getElem? (i := 30) rfl)) (hw _ (List.mem_of_getElem? (i := 2) rfl)) (hw _ (List.mem_of_getElem? (i := 32) rfl)) (by decide) (W := 0) (rm6c l Z a0 hw b3 b1 (own_lo y29 y60) (own_hi y29 y60) (own_lo x0 y14) (own_hi x0 y14) T5.heap Eq_b1 Fl_b3 Fh_b3 Fl_b1 Fh_b1) (by decide) (by decide) e23 Eq_b3 (g := (mkF m 232 #[.val (.long x0), .second, .val (.long x1), .second, .val (.long x2), .second, .val (.long x3), .second, .val (.int x4), .val (.long y14), .second, .val (.long y29), .second, .val (.long y60), .second, .val (.ref b1), .val (.ref b3), .val (.ref bx), .val (.int k0), .val (.int (0 : Int32)), .val (.int (0 : Int32)), .val (.int (0 : Int32))] [(.ref b1), (.ref b3)])) rfl (by rw [hml]; rfl) (argsL := [(.ref b1)]) (rest := []) own_pd4 rfl rfl (by show 2 * 0 + _ ≤ _; exact Nat.le_of_eq rfl) (hb hby at_232) rfl (by decide) (by decide)
                      obtain ⟨rfl, rfl, e24⟩ := Q24
                      simp only [List.append_nil, Nat.add_zero] at X24
                      refine own_st st24 ?_
                      show own_Go p e below G (T24.setTop (mkF m 235 #[.val (.long x0), .second, .val (.long x1), .second, .val (.long x2), .second, .val (.long x3), .second, .val (.int x4), .val (.long y14), .second, .val (.long y29), .second, .val (.long y60), .second, .val (.ref b1), .val (.ref b3), .val (.ref bx), .val (.int k0), .val (.int (0 : Int32)), .val (.int (0 : Int32)), .val (.int (0 : Int32))] [(.int (own_iv (own_lo y29 y60) (own_hi y29 y60) (own_lo x0 y14) (own_hi x0 y14)))]))
                      refine own_st (fun t k => XS.iload X24.here hx rfl (hb hby at_235) rfl  k) ?_
                      show own_Go p e below G (T24.setTop (mkF m 237 #[.val (.long x0), .second, .val (.long x1), .second, .val (.long x2), .second, .val (.long x3), .second, .val (.int x4), .val (.long y14), .second, .val (.long y29), .second, .val (.long y60), .second, .val (.ref b1), .val (.ref b3), .val (.ref bx), .val (.int k0), .val (.int (0 : Int32)), .val (.int (0 : Int32)), .val (.int (0 : Int32))] [(.int (0 : Int32)), (.int (own_iv (own_lo y29 y60) (own_hi y29 y60) (own_lo x0 y14) (own_hi x0 y14)))]))
                      refine own_st (fun t k => XS.icmpNo X24.here hx rfl (hb hby at_237) rfl (teq (by rw [own_eqv', if_neg c150_10, if_neg c169_16, if_neg (fun q => c206_20 q.2)])).2 k) ?_
                      show own_Go p e below G (T24.setTop (mkF m 240 #[.val (.long x0), .second, .val (.long x1), .second, .val (.long x2), .second, .val (.long x3), .second, .val (.int x4), .val (.long y14), .second, .val (.long y29), .second, .val (.long y60), .second, .val (.ref b1), .val (.ref b3), .val (.ref bx), .val (.int k0), .val (.int (0 : Int32)), .val (.int (0 : Int32)), .val (.int (0 : Int32))] []))
                      refine own_st (fun t k => XS.iconst X24.here hx rfl (hb hby at_240) k) ?_
                      show own_Go p e below G (T24.setTop (mkF m 241 #[.val (.long x0), .second, .val (.long x1), .second, .val (.long x2), .second, .val (.long x3), .second, .val (.int x4), .val (.long y14), .second, .val (.long y29), .second, .val (.long y60), .second, .val (.ref b1), .val (.ref b3), .val (.ref bx), .val (.int k0), .val (.int (0 : Int32)), .val (.int (0 : Int32)), .val (.int (0 : Int32))] [(.int (1 : Int32))]))
                      refine own_st (fun t k => XS.goto X24.here hx rfl (pc0 := 241) (pc' := 245) rfl (hb hby at_241) (by decide) (by decide) k) ?_
                      show own_Go p e below G (T24.setTop (mkF m 245 #[.val (.long x0), .second, .val (.long x1), .second, .val (.long x2), .second, .val (.long x3), .second, .val (.int x4), .val (.long y14), .second, .val (.long y29), .second, .val (.long y60), .second, .val (.ref b1), .val (.ref b3), .val (.ref bx), .val (.int k0), .val (.int (0 : Int32)), .val (.int (0 : Int32)), .val (.int (0 : Int32))] [(.int (1 : Int32))]))
                      rw [hG]
                      exact own_retZ X24 hx hlk (t := .boolean) hret (by simp) (hb hby at_245) ⟨rfl, N0⟩ (by decide) (by decide)
                  · skip
                    refine own_st (fun t k => XS.ifYes X5.here hx rfl (pc0 := 198) (pc' := 213) rfl (hb hby at_198) rfl ((if0 _ _).trans (feq (fun q => c198_19 ((lw_eq _ _).1 q))).2) (by decide) (by decide) k) ?_
                    show own_Go p e below G (T5.setTop (mkF m 213 #[.val (.long x0), .second, .val (.long x1), .second, .val (.long x2), .second, .val (.long x3), .second, .val (.int x4), .val (.long y14), .second, .val (.long y29), .second, .val (.long y60), .second, .val (.ref b1), .val (.ref b3), .val (.ref bx), .val (.int k0), .val (.int (0 : Int32)), .val (.int (0 : Int32)), .unset] []))
                    refine own_st (fun t k => XS.iconst X5.here hx rfl (hb hby at_213) k) ?_
                    show own_Go p e below G (T5.setTop (mkF m 214 #[.val (.long x0), .second, .val (.long x1), .second, .val (.long x2), .second, .val (.long x3), .second, .val (.int x4), .val (.long y14), .second, .val (.long y29), .second, .val (.long y60), .second, .val (.ref b1), .val (.ref b3), .val (.ref bx), .val (.int k0), .val (.int (0 : Int32)), .val (.int (0 : Int32)), .unset] [(.int (0 : Int32))]))
                    refine own_st (fun t k => XS.istore X5.here hx rfl (hb hby at_214) rfl (l' := #[.val (.long x0), .second, .val (.long x1), .second, .val (.long x2), .second, .val (.long x3), .second, .val (.int x4), .val (.long y14), .second, .val (.long y29), .second, .val (.long y60), .second, .val (.ref b1), .val (.ref b3), .val (.ref bx), .val (.int k0), .val (.int (0 : Int32)), .val (.int (0 : Int32)), .val (.int (0 : Int32))]) rfl k) ?_
                    show own_Go p e below G (T5.setTop (mkF m 216 #[.val (.long x0), .second, .val (.long x1), .second, .val (.long x2), .second, .val (.long x3), .second, .val (.int x4), .val (.long y14), .second, .val (.long y29), .second, .val (.long y60), .second, .val (.ref b1), .val (.ref b3), .val (.ref bx), .val (.int k0), .val (.int (0 : Int32)), .val (.int (0 : Int32)), .val (.int (0 : Int32))] []))
                    refine own_st (fun t k => XS.aload X5.here hx rfl (hb hby at_216) rfl rfl  k) ?_
                    show own_Go p e below G (T5.setTop (mkF m 218 #[.val (.long x0), .second, .val (.long x1), .second, .val (.long x2), .second, .val (.long x3), .second, .val (.int x4), .val (.long y14), .second, .val (.long y29), .second, .val (.long y60), .second, .val (.ref b1), .val (.ref b3), .val (.ref bx), .val (.int k0), .val (.int (0 : Int32)), .val (.int (0 : Int32)), .val (.int (0 : Int32))] [(.ref b1)]))
                    refine own_st (fun t k => XS.aload X5.here hx rfl (hb hby at_218) rfl rfl  k) ?_
                    show own_Go p e below G (T5.setTop (mkF m 220 #[.val (.long x0), .second, .val (.long x1), .second, .val (.long x2), .second, .val (.long x3), .second, .val (.int x4), .val (.long y14), .second, .val (.long y29), .second, .val (.long y60), .second, .val (.ref b1), .val (.ref b3), .val (.ref bx), .val (.int k0), .val (.int (0 : Int32)), .val (.int (0 : Int32)), .val (.int (0 : Int32))] [(.ref b3), (.ref b1)]))
                    obtain ⟨v25, T25, L25, X25, Q25, st25⟩ := own_callV X5 hx hZ (y := (⟨"com/example/pathweave/pathweave/Interval", "equals", "(Ljava/lang/Object;)Z"⟩ : MethodName)) (z := (⟨"com/example/pathweave/pathweave/Interval", "equals", "(Ljava/lang/Object;)Z"⟩ : MethodName)) hown (hw _ (List.mem_of_getElem? (i := 28) rfl)) (hw _ (List.mem_of_getElem? (i := 29) rfl)) (notFace_of_selects (args := #[]) (mvT hZ (hw _ (List.mem_of_getElem? (i := 31) rfl)))) (hw _ (List.mem_of_getElem? (i := 31) rfl)) (hw _ (List.mem_of_getElem? (i := 30) rfl)) (hw _ (List.mem_of_getElem? (i := 2) rfl)) (hw _ (List.mem_of_getElem? (i := 32) rfl)) (by decide) (W := 0) (rm6c l Z a0 hw b1 b3 (own_lo x0 y14) (own_hi x0 y14) (own_lo y29 y60) (own_hi y29 y60) T5.heap Eq_b3 Fl_b1 Fh_b1 Fl_b3 Fh_b3) (by decide) (by decide) rfl Eq_b1 (g := (mkF m 220 #[.val (.long x0), .second, .val (.long x1), .second, .val (.long x2), .second, .val (.long x3), .second, .val (.int x4), .val (.long y14), .second, .val (.long y29), .second, .val (.long y60), .second, .val (.ref b1), .val (.ref b3), .val (.ref bx), .val (.int k0), .val (.int (0 : Int32)), .val (.int (0 : Int32)), .val (.int (0 : Int32))] [(.ref b3), (.ref b1)])) rfl (by rw [hml]; rfl) (argsL := [(.ref b3)]) (rest := []) own_pd4 rfl rfl (by show 2 * 0 + _ ≤ _; exact Nat.le_of_eq rfl) (hb hby at_220) rfl (by decide) (by decide)
                    obtain ⟨rfl, rfl, e25⟩ := Q25
                    simp only [List.append_nil, Nat.add_zero] at X25
                    refine own_st st25 ?_
                    show own_Go p e below G (T25.setTop (mkF m 223 #[.val (.long x0), .second, .val (.long x1), .second, .val (.long x2), .second, .val (.long x3), .second, .val (.int x4), .val (.long y14), .second, .val (.long y29), .second, .val (.long y60), .second, .val (.ref b1), .val (.ref b3), .val (.ref bx), .val (.int k0), .val (.int (0 : Int32)), .val (.int (0 : Int32)), .val (.int (0 : Int32))] [(.int (own_iv (own_lo x0 y14) (own_hi x0 y14) (own_lo y29 y60) (own_hi y29 y60)))]))
                    refine own_st (fun t k => XS.iload X25.here hx rfl (hb hby at_223) rfl  k) ?_
                    show own_Go p e below G (T25.setTop (mkF m 225 #[.val (.long x0), .second, .val (.long x1), .second, .val (.long x2), .second, .val (.long x3), .second, .val (.int x4), .val (.long y14), .second, .val (.long y29), .second, .val (.long y60), .second, .val (.ref b1), .val (.ref b3), .val (.ref bx), .val (.int k0), .val (.int (0 : Int32)), .val (.int (0 : Int32)), .val (.int (0 : Int32))] [(.int (0 : Int32)), (.int (own_iv (own_lo x0 y14) (own_hi x0 y14) (own_lo y29 y60) (own_hi y29 y60)))]))
                    refine own_st (fun t k => XS.icmpNo X25.here hx rfl (hb hby at_225) rfl (teq (by rw [own_eqv, if_neg c150_10, if_neg c169_16, if_neg (fun q => c198_19 q.1)])).2 k) ?_
                    show own_Go p e below G (T25.setTop (mkF m 228 #[.val (.long x0), .second, .val (.long x1), .second, .val (.long x2), .second, .val (.long x3), .second, .val (.int x4), .val (.long y14), .second, .val (.long y29), .second, .val (.long y60), .second, .val (.ref b1), .val (.ref b3), .val (.ref bx), .val (.int k0), .val (.int (0 : Int32)), .val (.int (0 : Int32)), .val (.int (0 : Int32))] []))
                    refine own_st (fun t k => XS.aload X25.here hx rfl (hb hby at_228) rfl rfl  k) ?_
                    show own_Go p e below G (T25.setTop (mkF m 230 #[.val (.long x0), .second, .val (.long x1), .second, .val (.long x2), .second, .val (.long x3), .second, .val (.int x4), .val (.long y14), .second, .val (.long y29), .second, .val (.long y60), .second, .val (.ref b1), .val (.ref b3), .val (.ref bx), .val (.int k0), .val (.int (0 : Int32)), .val (.int (0 : Int32)), .val (.int (0 : Int32))] [(.ref b3)]))
                    refine own_st (fun t k => XS.aload X25.here hx rfl (hb hby at_230) rfl rfl  k) ?_
                    show own_Go p e below G (T25.setTop (mkF m 232 #[.val (.long x0), .second, .val (.long x1), .second, .val (.long x2), .second, .val (.long x3), .second, .val (.int x4), .val (.long y14), .second, .val (.long y29), .second, .val (.long y60), .second, .val (.ref b1), .val (.ref b3), .val (.ref bx), .val (.int k0), .val (.int (0 : Int32)), .val (.int (0 : Int32)), .val (.int (0 : Int32))] [(.ref b1), (.ref b3)]))
                    obtain ⟨v26, T26, L26, X26, Q26, st26⟩ := own_callV X25 hx hZ (y := (⟨"com/example/pathweave/pathweave/Interval", "equals", "(Ljava/lang/Object;)Z"⟩ : MethodName)) (z := (⟨"com/example/pathweave/pathweave/Interval", "equals", "(Ljava/lang/Object;)Z"⟩ : MethodName)) hown (hw _ (List.mem_of_getElem? (i := 28) rfl)) (hw _ (List.mem_of_getElem? (i := 29) rfl)) (notFace_of_selects (args := #[]) (mvT hZ (hw _ (List.mem_of_getElem? (i := 31) rfl)))) (hw _ (List.mem_of_getElem? (i := 31) rfl)) (hw _ (List.mem_of_getElem? (i := 30) rfl)) (hw _ (List.mem_of_getElem? (i := 2) rfl)) (hw _ (List.mem_of_getElem? (i := 32) rfl)) (by decide) (W := 0) (rm6c l Z a0 hw b3 b1 (own_lo y29 y60) (own_hi y29 y60) (own_lo x0 y14) (own_hi x0 y14) T5.heap Eq_b1 Fl_b3 Fh_b3 Fl_b1 Fh_b1) (by decide) (by decide) e25 Eq_b3 (g := (mkF m 232 #[.val (.long x0), .second, .val (.long x1), .second, .val (.long x2), .second, .val (.long x3), .second, .val (.int x4), .val (.long y14), .second, .val (.long y29), .second, .val (.long y60), .second, .val (.ref b1), .val (.ref b3), .val (.ref bx), .val (.int k0), .val (.int (0 : Int32)), .val (.int (0 : Int32)), .val (.int (0 : Int32))] [(.ref b1), (.ref b3)])) rfl (by rw [hml]; rfl) (argsL := [(.ref b1)]) (rest := []) own_pd4 rfl rfl (by show 2 * 0 + _ ≤ _; exact Nat.le_of_eq rfl) (hb hby at_232) rfl (by decide) (by decide)
                    obtain ⟨rfl, rfl, e26⟩ := Q26
                    simp only [List.append_nil, Nat.add_zero] at X26
                    refine own_st st26 ?_
                    show own_Go p e below G (T26.setTop (mkF m 235 #[.val (.long x0), .second, .val (.long x1), .second, .val (.long x2), .second, .val (.long x3), .second, .val (.int x4), .val (.long y14), .second, .val (.long y29), .second, .val (.long y60), .second, .val (.ref b1), .val (.ref b3), .val (.ref bx), .val (.int k0), .val (.int (0 : Int32)), .val (.int (0 : Int32)), .val (.int (0 : Int32))] [(.int (own_iv (own_lo y29 y60) (own_hi y29 y60) (own_lo x0 y14) (own_hi x0 y14)))]))
                    refine own_st (fun t k => XS.iload X26.here hx rfl (hb hby at_235) rfl  k) ?_
                    show own_Go p e below G (T26.setTop (mkF m 237 #[.val (.long x0), .second, .val (.long x1), .second, .val (.long x2), .second, .val (.long x3), .second, .val (.int x4), .val (.long y14), .second, .val (.long y29), .second, .val (.long y60), .second, .val (.ref b1), .val (.ref b3), .val (.ref bx), .val (.int k0), .val (.int (0 : Int32)), .val (.int (0 : Int32)), .val (.int (0 : Int32))] [(.int (0 : Int32)), (.int (own_iv (own_lo y29 y60) (own_hi y29 y60) (own_lo x0 y14) (own_hi x0 y14)))]))
                    refine own_st (fun t k => XS.icmpNo X26.here hx rfl (hb hby at_237) rfl (teq (by rw [own_eqv', if_neg c150_10, if_neg c169_16, if_neg (fun q => c198_19 q.1)])).2 k) ?_
                    show own_Go p e below G (T26.setTop (mkF m 240 #[.val (.long x0), .second, .val (.long x1), .second, .val (.long x2), .second, .val (.long x3), .second, .val (.int x4), .val (.long y14), .second, .val (.long y29), .second, .val (.long y60), .second, .val (.ref b1), .val (.ref b3), .val (.ref bx), .val (.int k0), .val (.int (0 : Int32)), .val (.int (0 : Int32)), .val (.int (0 : Int32))] []))
                    refine own_st (fun t k => XS.iconst X26.here hx rfl (hb hby at_240) k) ?_
                    show own_Go p e below G (T26.setTop (mkF m 241 #[.val (.long x0), .second, .val (.long x1), .second, .val (.long x2), .second, .val (.long x3), .second, .val (.int x4), .val (.long y14), .second, .val (.long y29), .second, .val (.long y60), .second, .val (.ref b1), .val (.ref b3), .val (.ref bx), .val (.int k0), .val (.int (0 : Int32)), .val (.int (0 : Int32)), .val (.int (0 : Int32))] [(.int (1 : Int32))]))
                    refine own_st (fun t k => XS.goto X26.here hx rfl (pc0 := 241) (pc' := 245) rfl (hb hby at_241) (by decide) (by decide) k) ?_
                    show own_Go p e below G (T26.setTop (mkF m 245 #[.val (.long x0), .second, .val (.long x1), .second, .val (.long x2), .second, .val (.long x3), .second, .val (.int x4), .val (.long y14), .second, .val (.long y29), .second, .val (.long y60), .second, .val (.ref b1), .val (.ref b3), .val (.ref bx), .val (.int k0), .val (.int (0 : Int32)), .val (.int (0 : Int32)), .val (.int (0 : Int32))] [(.int (1 : Int32))]))
                    rw [hG]
                    exact own_retZ X26 hx hlk (t := .boolean) hret (by simp) (hb hby at_245) ⟨rfl, N0⟩ (by decide) (by decide)
        by_cases c51_27 : (x4 &&& (8 : Int32)) = (0 : Int32)
        · skip
          refine own_st (fun t k => XS.ifYes X0.here hx rfl (pc0 := 51) (pc' := 60) rfl (hb hby at_51) rfl ((if0 _ _).trans (teq c51_27).1) (by decide) (by decide) k) ?_
          show own_Go p e below G (s₁.setTop (mkF m 60 #[.val (.long x0), .second, .val (.long x1), .second, .val (.long x2), .second, .val (.long x3), .second, .val (.int x4), .val (.long y14), .second, .val (.long y29), .second, .val (.long y44), .second, .unset, .unset, .unset, .unset, .unset, .unset, .unset] []))
          exact J60 _
        · skip
          refine own_st (fun t k => XS.ifNo X0.here hx rfl (hb hby at_51) rfl ((if0 _ _).trans (feq c51_27).1) k) ?_
          show own_Go p e below G (s₁.setTop (mkF m 54 #[.val (.long x0), .second, .val (.long x1), .second, .val (.long x2), .second, .val (.long x3), .second, .val (.int x4), .val (.long y14), .second, .val (.long y29), .second, .val (.long y44), .second, .unset, .unset, .unset, .unset, .unset, .unset, .unset] []))
          refine own_st (fun t k => XS.lload X0.here hx rfl (hb hby at_54) rfl  k) ?_
          show own_Go p e below G (s₁.setTop (mkF m 56 #[.val (.long x0), .second, .val (.long x1), .second, .val (.long x2), .second, .val (.long x3), .second, .val (.int x4), .val (.long y14), .second, .val (.long y29), .second, .val (.long y44), .second, .unset, .unset, .unset, .unset, .unset, .unset, .unset] [(.long y29)]))
          refine own_st (fun t k => XS.lconst X0.here hx rfl (hb hby at_56) k) ?_
          show own_Go p e below G (s₁.setTop (mkF m 57 #[.val (.long x0), .second, .val (.long x1), .second, .val (.long x2), .second, .val (.long x3), .second, .val (.int x4), .val (.long y14), .second, .val (.long y29), .second, .val (.long y44), .second, .unset, .unset, .unset, .unset, .unset, .unset, .unset] [(.long (1 : Int64)), (.long y29)]))
          refine own_st (fun t k => XS.lsub X0.here hx rfl (hb hby at_57) rfl k) ?_
          show own_Go p e below G (s₁.setTop (mkF m 58 #[.val (.long x0), .second, .val (.long x1), .second, .val (.long x2), .second, .val (.long x3), .second, .val (.int x4), .val (.long y14), .second, .val (.long y29), .second, .val (.long y44), .second, .unset, .unset, .unset, .unset, .unset, .unset, .unset] [(.long (y29 - (1 : Int64)))]))
          refine own_st (fun t k => XS.lstore X0.here hx rfl (hb hby at_58) rfl (l' := #[.val (.long x0), .second, .val (.long x1), .second, .val (.long x2), .second, .val (.long x3), .second, .val (.int x4), .val (.long y14), .second, .val (.long y29), .second, .val (.long (y29 - (1 : Int64))), .second, .unset, .unset, .unset, .unset, .unset, .unset, .unset]) rfl k) ?_
          show own_Go p e below G (s₁.setTop (mkF m 60 #[.val (.long x0), .second, .val (.long x1), .second, .val (.long x2), .second, .val (.long x3), .second, .val (.int x4), .val (.long y14), .second, .val (.long y29), .second, .val (.long (y29 - (1 : Int64))), .second, .unset, .unset, .unset, .unset, .unset, .unset, .unset] []))
          exact J60 _
      by_cases c35_28 : (x4 &&& (4 : Int32)) = (0 : Int32)
      · skip
        refine own_st (fun t k => XS.ifYes X0.here hx rfl (pc0 := 35) (pc' := 42) rfl (hb hby at_35) rfl ((if0 _ _).trans (teq c35_28).1) (by decide) (by decide) k) ?_
        show own_Go p e below G (s₁.setTop (mkF m 42 #[.val (.long x0), .second, .val (.long x1), .second, .val (.long x2), .second, .val (.long x3), .second, .val (.int x4), .val (.long y14), .second, .val (.long y29), .second, .unset, .unset, .unset, .unset, .unset, .unset, .unset, .unset, .unset] []))
        refine own_st (fun t k => XS.lload X0.here hx rfl (hb hby at_42) rfl  k) ?_
        show own_Go p e below G (s₁.setTop (mkF m 44 #[.val (.long x0), .second, .val (.long x1), .second, .val (.long x2), .second, .val (.long x3), .second, .val (.int x4), .val (.long y14), .second, .val (.long y29), .second, .unset, .unset, .unset, .unset, .unset, .unset, .unset, .unset, .unset] [(.long x3)]))
        exact J44 _
      · skip
        refine own_st (fun t k => XS.ifNo X0.here hx rfl (hb hby at_35) rfl ((if0 _ _).trans (feq c35_28).1) k) ?_
        show own_Go p e below G (s₁.setTop (mkF m 38 #[.val (.long x0), .second, .val (.long x1), .second, .val (.long x2), .second, .val (.long x3), .second, .val (.int x4), .val (.long y14), .second, .val (.long y29), .second, .unset, .unset, .unset, .unset, .unset, .unset, .unset, .unset, .unset] []))
        refine own_st (fun t k => XS.lloadN X0.here hx rfl (hb hby at_38) rfl  k) ?_
        show own_Go p e below G (s₁.setTop (mkF m 39 #[.val (.long x0), .second, .val (.long x1), .second, .val (.long x2), .second, .val (.long x3), .second, .val (.int x4), .val (.long y14), .second, .val (.long y29), .second, .unset, .unset, .unset, .unset, .unset, .unset, .unset, .unset, .unset] [(.long x1)]))
        refine own_st (fun t k => XS.goto X0.here hx rfl (pc0 := 39) (pc' := 44) rfl (hb hby at_39) (by decide) (by decide) k) ?_
        show own_Go p e below G (s₁.setTop (mkF m 44 #[.val (.long x0), .second, .val (.long x1), .second, .val (.long x2), .second, .val (.long x3), .second, .val (.int x4), .val (.long y14), .second, .val (.long y29), .second, .unset, .unset, .unset, .unset, .unset, .unset, .unset, .unset, .unset] [(.long x1)]))
        exact J44 _
    by_cases c20_29 : (x4 &&& (2 : Int32)) = (0 : Int32)
    · skip
      refine own_st (fun t k => XS.ifYes X0.here hx rfl (pc0 := 20) (pc' := 27) rfl (hb hby at_20) rfl ((if0 _ _).trans (teq c20_29).1) (by decide) (by decide) k) ?_
      show own_Go p e below G (s₁.setTop (mkF m 27 #[.val (.long x0), .second, .val (.long x1), .second, .val (.long x2), .second, .val (.long x3), .second, .val (.int x4), .val (.long y14), .second, .unset, .unset, .unset, .unset, .unset, .unset, .unset, .unset, .unset, .unset, .unset] []))
      refine own_st (fun t k => XS.lload X0.here hx rfl (hb hby at_27) rfl  k) ?_
      show own_Go p e below G (s₁.setTop (mkF m 29 #[.val (.long x0), .second, .val (.long x1), .second, .val (.long x2), .second, .val (.long x3), .second, .val (.int x4), .val (.long y14), .second, .unset, .unset, .unset, .unset, .unset, .unset, .unset, .unset, .unset, .unset, .unset] [(.long x2)]))
      exact J29 _
    · skip
      refine own_st (fun t k => XS.ifNo X0.here hx rfl (hb hby at_20) rfl ((if0 _ _).trans (feq c20_29).1) k) ?_
      show own_Go p e below G (s₁.setTop (mkF m 23 #[.val (.long x0), .second, .val (.long x1), .second, .val (.long x2), .second, .val (.long x3), .second, .val (.int x4), .val (.long y14), .second, .unset, .unset, .unset, .unset, .unset, .unset, .unset, .unset, .unset, .unset, .unset] []))
      refine own_st (fun t k => XS.lloadN X0.here hx rfl (hb hby at_23) rfl  k) ?_
      show own_Go p e below G (s₁.setTop (mkF m 24 #[.val (.long x0), .second, .val (.long x1), .second, .val (.long x2), .second, .val (.long x3), .second, .val (.int x4), .val (.long y14), .second, .unset, .unset, .unset, .unset, .unset, .unset, .unset, .unset, .unset, .unset, .unset] [(.long x0)]))
      refine own_st (fun t k => XS.goto X0.here hx rfl (pc0 := 24) (pc' := 29) rfl (hb hby at_24) (by decide) (by decide) k) ?_
      show own_Go p e below G (s₁.setTop (mkF m 29 #[.val (.long x0), .second, .val (.long x1), .second, .val (.long x2), .second, .val (.long x3), .second, .val (.int x4), .val (.long y14), .second, .unset, .unset, .unset, .unset, .unset, .unset, .unset, .unset, .unset, .unset, .unset] [(.long x0)]))
      exact J29 _
  by_cases c4_30 : (x4 &&& (1 : Int32)) = (0 : Int32)
  · skip
    refine own_st (fun t k => XS.ifYes X0.here hx rfl (pc0 := 4) (pc' := 13) rfl (hb hby at_4) rfl ((if0 _ _).trans (teq c4_30).1) (by decide) (by decide) k) ?_
    show own_Go p e below G (s₁.setTop (mkF m 13 #[.val (.long x0), .second, .val (.long x1), .second, .val (.long x2), .second, .val (.long x3), .second, .val (.int x4), .unset, .unset, .unset, .unset, .unset, .unset, .unset, .unset, .unset, .unset, .unset, .unset, .unset] []))
    refine own_st (fun t k => XS.lloadN X0.here hx rfl (hb hby at_13) rfl  k) ?_
    show own_Go p e below G (s₁.setTop (mkF m 14 #[.val (.long x0), .second, .val (.long x1), .second, .val (.long x2), .second, .val (.long x3), .second, .val (.int x4), .unset, .unset, .unset, .unset, .unset, .unset, .unset, .unset, .unset, .unset, .unset, .unset, .unset] [(.long x1)]))
    exact J14 _
  · skip
    refine own_st (fun t k => XS.ifNo X0.here hx rfl (hb hby at_4) rfl ((if0 _ _).trans (feq c4_30).1) k) ?_
    show own_Go p e below G (s₁.setTop (mkF m 7 #[.val (.long x0), .second, .val (.long x1), .second, .val (.long x2), .second, .val (.long x3), .second, .val (.int x4), .unset, .unset, .unset, .unset, .unset, .unset, .unset, .unset, .unset, .unset, .unset, .unset, .unset] []))
    refine own_st (fun t k => XS.lloadN X0.here hx rfl (hb hby at_7) rfl  k) ?_
    show own_Go p e below G (s₁.setTop (mkF m 8 #[.val (.long x0), .second, .val (.long x1), .second, .val (.long x2), .second, .val (.long x3), .second, .val (.int x4), .unset, .unset, .unset, .unset, .unset, .unset, .unset, .unset, .unset, .unset, .unset, .unset, .unset] [(.long x0)]))
    refine own_st (fun t k => XS.lconst X0.here hx rfl (hb hby at_8) k) ?_
    show own_Go p e below G (s₁.setTop (mkF m 9 #[.val (.long x0), .second, .val (.long x1), .second, .val (.long x2), .second, .val (.long x3), .second, .val (.int x4), .unset, .unset, .unset, .unset, .unset, .unset, .unset, .unset, .unset, .unset, .unset, .unset, .unset] [(.long (1 : Int64)), (.long x0)]))
    refine own_st (fun t k => XS.lsub X0.here hx rfl (hb hby at_9) rfl k) ?_
    show own_Go p e below G (s₁.setTop (mkF m 10 #[.val (.long x0), .second, .val (.long x1), .second, .val (.long x2), .second, .val (.long x3), .second, .val (.int x4), .unset, .unset, .unset, .unset, .unset, .unset, .unset, .unset, .unset, .unset, .unset, .unset, .unset] [(.long (x0 - (1 : Int64)))]))
    refine own_st (fun t k => XS.goto X0.here hx rfl (pc0 := 10) (pc' := 14) rfl (hb hby at_10) (by decide) (by decide) k) ?_
    show own_Go p e below G (s₁.setTop (mkF m 14 #[.val (.long x0), .second, .val (.long x1), .second, .val (.long x2), .second, .val (.long x3), .second, .val (.int x4), .unset, .unset, .unset, .unset, .unset, .unset, .unset, .unset, .unset, .unset, .unset, .unset, .unset] [(.long (x0 - (1 : Int64)))]))
    exact J14 _
theorem own_size {n : Nat} {z : Int32} (h : n < 2 ^ 31) (e : n.toInt32 = z) : n = z.toNatClampNeg := by
  rw [← e]; simp only [Int32.toNatClampNeg, len_toInt h]; rfl
theorem own_cache {Z : State} {a0 : Array Value} {K n d C : String} {G : Jvm.Cond} {ca : Addr} {cl : Cell} (ev : (Term.static K n d).eval a0 Z none [] Z = some (.ref ca)) (A : Arr Z Z.heap ca cl (.object C)) (h : (Cond.all (Term.static K n d) (Cond.and (Cond.exactly (Term.elem (Term.static K n d) (Term.index 0)) C) G)).value a0 Z none Z [] = some true) (hsz : cl.slots.size = (256 : Int32).toNatClampNeg) {j : Int32} (h1 : ¬ j < 0) (h2 : j < 256) : ∃ r, cl.slots[j.toNatClampNeg]? = some (.ref r) ∧ Exa Z Z.heap r C := by
  have hin := inb_of hsz ⟨h1, h2⟩
  have hj := Cond.all_elim ev (A.fin (Vm.Alike.refl _)) h j.toNatClampNeg (Nat.lt_of_not_le fun q => hin (Or.inr q))
  obtain ⟨hx, -⟩ := and_e hj
  obtain ⟨r, er⟩ := exa_v hx
  have ev' : (Term.static K n d).eval a0 Z none [j.toNatClampNeg] Z = some (.ref ca) := ev
  exact ⟨r, (elem_in er ev' (idx_at h1) A.1).2, exa_at er hx⟩
set_option maxRecDepth 65536 in
set_option maxHeartbeats 40000000 in
theorem comes_1 {Post : Tables → Env → Array Value → State → Outcome → State → Prop} (hpost : ∀ tb e args s v u, (limb_1_1.after args s (.returned v) u = true ∧ limb_1_2.after args s (.returned v) u = true) → FrameEnd s (.returned v) u (Jvm.fieldLocs frame_1_writes args s ++ Jvm.arrayLocs frame_1_arrays args s ++ Jvm.staticLocs frame_1_statics s) 16 128 → Post tb e args s (.returned v) u) :
    ArmFor flags0 classFile x code maxLocals ret World_1 tables_1 room_1 Calls_1 rest_1 Pre_1 Post := by
  intro l hfl _ _ p e ha hc hk s m args below hf hA hF happ hP
  obtain ⟨hcalls, hrest, hpre⟩ := hP
  obtain ⟨-, -, -, hnamed, -, -, -, hat⟩ := (Spec.applies_iff hf).mp happ
  obtain ⟨hg, hn⟩ := and_e (Cond.before_iff.mp (show (Jvm.Cond.and given_1 narrow_1).before args s = true from hpre))
  obtain ⟨gc, gr0⟩ := and_e hg
  obtain ⟨gv0, gr1⟩ := and_e gr0
  obtain ⟨gv1, gr2⟩ := and_e gr1
  obtain ⟨gv2, gr3⟩ := and_e gr2
  obtain ⟨gv3, gv4⟩ := and_e gr3
  obtain ⟨w0, w1, w2, w3, w4, rfl⟩ : ∃ w0 w1 w2 w3 w4 : Value, args = #[w0, w1, w2, w3, w4] := by
    have hs : args.size = 5 := by simpa [Cond.value, given_1] using gc
    obtain ⟨L⟩ := args
    match L, hs with
    | [w0, w1, w2, w3, w4], _ => exact ⟨w0, w1, w2, w3, w4, rfl⟩
  have hw := fun d (hd : d ∈ tables_1) => atoms_spec (ws := Jvm.Cond.code x code maxLocals ret :: tables_1) hat d (List.mem_cons_of_mem _ hd)
  have hfit : Fit s := fun {y c} hc i hi => by
    obtain ⟨ha, rfl⟩ := Array.getElem?_eq_some_iff.mp hc
    have q := List.all_eq_true.mp ((Array.all_eq_true_iff_forall_mem.mp hF) _ (Array.getElem_mem ha)) i (List.mem_range.mpr hi)
    simpa [Array.getElem?_eq_getElem hi] using q
  obtain ⟨hsets, hown0⟩ := atoms_of _ (rest_1_c_eq ▸ (show rest_1_c.before _ s = true from hrest))
  obtain ⟨i0, ei0⟩ := isL_v gv0
  obtain rfl : w0 = (.long i0) := Option.some.inj ei0
  obtain ⟨i1, ei1⟩ := isL_v gv1
  obtain rfl : w1 = (.long i1) := Option.some.inj ei1
  obtain ⟨i2, ei2⟩ := isL_v gv2
  obtain rfl : w2 = (.long i2) := Option.some.inj ei2
  obtain ⟨i3, ei3⟩ := isL_v gv3
  obtain rfl : w3 = (.long i3) := Option.some.inj ei3
  obtain ⟨i4, ei4⟩ := is_v gv4
  obtain rfl : w4 = (.int i4) := Option.some.inj ei4
  obtain ⟨ca, evC⟩ := arr_v (Cond.before_iff.mp (hsets _ (List.mem_of_getElem? (i := 2) rfl)))
  obtain ⟨clc, AC⟩ := Arr.start evC (Cond.before_iff.mp (hsets _ (List.mem_of_getElem? (i := 2) rfl)))
  have SC := Sta.start evC (Or.inl (hsets _ (List.mem_of_getElem? (i := 1) rfl)))
  obtain ⟨l1, l2⟩ := own_len (Cond.before_iff.mp (hsets _ (List.mem_of_getElem? (i := 4) rfl))) evC AC.1
  have hsz : clc.slots.size = (256 : Int32).toNatClampNeg := own_size l1 l2
  have hel : ∀ j : Int32, ¬ j < 0 → j < 256 → ∃ r, clc.slots[j.toNatClampNeg]? = some (.ref r) ∧ Exa s s.heap r "java/lang/Long" := fun j h1 h2 => own_cache evC AC (Cond.before_iff.mp (hsets _ (List.mem_of_getElem? (i := 5) rfl))) hsz h1 h2
  obtain ⟨n, o, h1, h2, h3, _, L, rfl, ⟨rfl, N⟩, hq⟩ := rm0 l s _ hw tables_1 i0 i1 i2 i3 i4 ca clc s.heap s.heap.size (Nat.le_refl _) (Old.start s) SC AC hsz hel p e ha hc hk s m _ below hf ((Spec.applies_iff_loose hf).mp happ).1 ⟨rfl, State.Warmed39.refl s, rfl⟩ trivial
  refine ⟨n, _, h1, h2, h3, hpost _ _ _ _ _ _ ⟨Cond.after_iff.mpr rfl, Cond.after_iff.mpr (eq_i res_at (Term.int_eval (1)) rfl)⟩ ⟨hq.1, hq.2.1, (hq.2.2.sift fun y hy => Or.inr (N y hy)).mono (by decide) (by decide)⟩⟩
theorem main_1_1 : Claimed_1_1 := comes_1 fun _ _ _ _ _ _ h hF => ⟨h.1, hF⟩
theorem main_1_2 : Claimed_1_2 := comes_1 fun _ _ _ _ _ _ h hF => ⟨h.2, hF⟩
end Jvm.Pilot.@@N@@
namespace Jvm.Pilot.@@N@@
open Jvm Jvm.ClassFile Sem Op Lib Jvm.Free Jvm.Stand Jvm.Pilot.@@N@@.Jvm.D
/-! MADE BY PROGRAM (witnessworld.py) out of the Statement's table words and the real class files: 17 classes; the members and pool entries that the words name. The judged class is class 1, her method 1. -/
namespace start1
open Jvm.ClassFile
def u (s : String) : CpInfo := .utf8 (stringToUtf16 s)
/-- a pool by its gaps: so many unusable entries, then the entry; so many at the end -/
def gap : Nat → List CpInfo → List CpInfo
  | 0, r => r
  | n + 1, r => .unusable :: gap n r
def poolList (es : List (Nat × CpInfo)) (last : Nat) : List CpInfo := es.foldr (fun e r => gap e.1 (e.2 :: r)) (gap last [])
def pool (es : List (Nat × CpInfo)) (last : Nat) : Array CpInfo := ⟨poolList es last⟩
def fileOf (pool : Array CpInfo) (this : Nat) (attrs : Array Attribute := #[]) (ms : Array MethodInfo := #[]) (fl : Nat := 33) (sup : Nat := 0) (ifs : Array Nat := #[]) (fds : Array FieldInfo := #[]) : ClassFile where
  minorVersion := 0
  majorVersion := 65
  constantPool := pool
  accessFlags := fl
  thisClass := this
  superClass := sup
  interfaces := ifs
  fields := fds
  methods := ms
  attributes := attrs
def plain (name : String) (sup : Option ClassId) : Class where
  name := name
  kind := .ordinary
  loader := none
  accessFlags := 33
  super := sup
  interfaces := #[]
  cf := none
  fields := #[]
  methods := #[]
  instanceTypes := #[]
  staticTypes := #[]
  resolved := #[]
  callSites := []
  init := .initialized
  statics := none
  mirror := none

def pool0 : Array CpInfo := pool [(5, u "<init>"), (0, u "()V"), (1, .class_ 10), (1, u "java/lang/Object")] 113

def k0c0 : Code := { maxStack := 0, maxLocals := 1, code := object_method_1_code, exceptionTable := #[], attributes := #[] }
def k0m0 : Method := { name := "<init>", desc := "()V", sig := { parameters := [], returnType := none }, accessFlags := 1, code := some k0c0 }
/-- java/lang/Object -/
def k0 : Class := { plain "java/lang/Object" none with
  accessFlags := 33
  interfaces := #[]
  cf := some (fileOf pool0 8 #[] #[{ accessFlags := 1, nameIndex := 5, descriptorIndex := 6, attributes := #[] }] 33 0 #[] #[])
  fields := #[]
  methods := #[k0m0]
  instanceTypes := #[]
  staticTypes := #[]
  resolved := Array.replicate 124 none
  statics := none }

def pool1 : Array CpInfo := pool [(2, .class_ 4), (1, u "java/lang/Object"), (0, u "<init>"), (0, u "()V"), (0, .class_ 8), (0, u "com/example/pathweave/pathweave/Interval"), (0, .methodref 7 10), (0, .nameAndType 5 11), (0, u "(JJ)V"), (0, .methodref 13 14), (0, .class_ 15), (0, .nameAndType 16 17), (0, u "java/lang/Long"), (0, u "valueOf"), (0, u "(J)Ljava/lang/Long;"), (0, .methodref 7 19), (0, .nameAndType 20 21), (0, u "equals"), (0, u "(Ljava/lang/Object;)Z"), (0, .long 18446744073709551615), (1, .class_ 25), (0, u "com/example/pathweave/pathweave/IntervalEqualsPinLaw"), (2, u "law"), (0, u "(JJJJI)Z")] 3

def k1m0 : Method := { name := "<init>", desc := "()V", sig := { parameters := [], returnType := none }, accessFlags := 1, code := none }
def k1c1 : Code := { maxStack := 6, maxLocals := 22, code := code, exceptionTable := #[], attributes := #[] }
def k1m1 : Method := { name := "law", desc := "(JJJJI)Z", sig := { parameters := [.long, .long, .long, .long, .int], returnType := some .boolean }, accessFlags := 9, code := some k1c1 }
/-- com/example/pathweave/pathweave/IntervalEqualsPinLaw -/
def k1 : Class := { plain "com/example/pathweave/pathweave/IntervalEqualsPinLaw" (some 0) with
  accessFlags := 49
  interfaces := #[]
  cf := some (fileOf pool1 24 #[] #[{ accessFlags := 1, nameIndex := 5, descriptorIndex := 6, attributes := #[] }, { accessFlags := 9, nameIndex := 28, descriptorIndex := 29, attributes := #[] }] 49 2 #[] #[])
  fields := #[]
  methods := #[k1m0, k1m1]
  instanceTypes := #[]
  staticTypes := #[]
  resolved := Array.replicate 33 none
  statics := none }

def pool2 : Array CpInfo := pool [(1, .methodref 2 3), (0, .class_ 4), (0, .nameAndType 5 6), (0, u "java/lang/Object"), (0, u "<init>"), (0, u "()V"), (0, .class_ 8), (0, u "java/lang/Record")] 13

def k2c0 : Code := { maxStack := 1, maxLocals := 1, code := jdk_30_method_1_code, exceptionTable := #[], attributes := #[] }
def k2m0 : Method := { name := "<init>", desc := "()V", sig := { parameters := [], returnType := none }, accessFlags := 4, code := some k2c0 }
/-- java/lang/Record -/
def k2 : Class := { plain "java/lang/Record" (some 0) with
  accessFlags := 1057
  interfaces := #[]
  cf := some (fileOf pool2 7 #[] #[{ accessFlags := 4, nameIndex := 5, descriptorIndex := 6, attributes := #[] }] 1057 2 #[] #[])
  fields := #[]
  methods := #[k2m0]
  instanceTypes := #[]
  staticTypes := #[]
  resolved := Array.replicate 22 none
  statics := none }

def pool3 : Array CpInfo := pool [(1, .methodref 2 3), (0, .class_ 4), (0, .nameAndType 5 6), (0, u "java/lang/Record"), (0, u "<init>"), (0, u "()V"), (0, .long 18446744073709551615), (1, .fieldref 10 11), (0, .class_ 12), (0, .nameAndType 13 14), (0, u "com/example/pathweave/pathweave/Interval"), (0, u "low"), (0, u "J"), (0, .fieldref 10 16), (0, .nameAndType 17 14), (0, u "high"), (2, u "(JJ)V"), (24, u "FULL"), (0, u "Lcom/example/pathweave/pathweave/Interval;"), (32, u "(Ljava/lang/Object;)Z"), (66, u "equals")] 21

def k3c0 : Code := { maxStack := 4, maxLocals := 5, code := prog_84_method_1_code, exceptionTable := #[], attributes := #[] }
def k3m0 : Method := { name := "<init>", desc := "(JJ)V", sig := { parameters := [.long, .long], returnType := none }, accessFlags := 0, code := some k3c0 }
def k3c1 : Code := { maxStack := 4, maxLocals := 3, code := prog_84_method_21_code, exceptionTable := #[], attributes := #[] }
def k3m1 : Method := { name := "equals", desc := "(Ljava/lang/Object;)Z", sig := { parameters := [(.object "java/lang/Object")], returnType := some .boolean }, accessFlags := 1, code := some k3c1 }
/-- com/example/pathweave/pathweave/Interval -/
def k3 : Class := { plain "com/example/pathweave/pathweave/Interval" (some 2) with
  accessFlags := 48
  interfaces := #[]
  cf := some (fileOf pool3 10 #[] #[{ accessFlags := 0, nameIndex := 5, descriptorIndex := 20, attributes := #[] }, { accessFlags := 1, nameIndex := 146, descriptorIndex := 79, attributes := #[] }] 48 2 #[] #[{ accessFlags := 18, nameIndex := 13, descriptorIndex := 14, attributes := #[] }, { accessFlags := 18, nameIndex := 17, descriptorIndex := 14, attributes := #[] }, { accessFlags := 24, nameIndex := 45, descriptorIndex := 46, attributes := #[] }])
  fields := #[{ name := "low", type := .long, accessFlags := 18, slot := 0, constantValue := 0 }, { name := "high", type := .long, accessFlags := 18, slot := 1, constantValue := 0 }, { name := "FULL", type := (.object "com/example/pathweave/pathweave/Interval"), accessFlags := 24, slot := 0, constantValue := 0 }]
  methods := #[k3m0, k3m1]
  instanceTypes := #[.long, .long]
  staticTypes := #[(.object "com/example/pathweave/pathweave/Interval")]
  resolved := Array.replicate 168 none
  statics := none }

def pool4 : Array CpInfo := pool [(1, .class_ 2), (0, u "java/io/Serializable"), (0, .class_ 4), (0, u "java/lang/Object")] 2

/-- java/io/Serializable -/
def k4 : Class := { plain "java/io/Serializable" (some 0) with
  accessFlags := 1537
  interfaces := #[]
  cf := some (fileOf pool4 1 #[] #[] 1537 3 #[] #[])
  fields := #[]
  methods := #[]
  instanceTypes := #[]
  staticTypes := #[]
  resolved := Array.replicate 7 none
  statics := none }

def pool5 : Array CpInfo := pool [(1, .methodref 2 3), (0, .class_ 4), (0, .nameAndType 5 6), (0, u "java/lang/Object"), (0, u "<init>"), (0, u "()V"), (1, .class_ 10), (1, u "java/lang/Number"), (2, .class_ 14), (0, u "java/io/Serializable"), (0, u "serialVersionUID"), (0, u "J")] 20

def k5c0 : Code := { maxStack := 1, maxLocals := 1, code := jdk_18_method_1_code, exceptionTable := #[], attributes := #[] }
def k5m0 : Method := { name := "<init>", desc := "()V", sig := { parameters := [], returnType := none }, accessFlags := 1, code := some k5c0 }
/-- java/lang/Number -/
def k5 : Class := { plain "java/lang/Number" (some 0) with
  accessFlags := 1057
  interfaces := #[4]
  cf := some (fileOf pool5 8 #[] #[{ accessFlags := 1, nameIndex := 5, descriptorIndex := 6, attributes := #[] }] 1057 2 #[13] #[{ accessFlags := 26, nameIndex := 15, descriptorIndex := 16, attributes := #[] }])
  fields := #[{ name := "serialVersionUID", type := .long, accessFlags := 26, slot := 0, constantValue := 0 }]
  methods := #[k5m0]
  instanceTypes := #[]
  staticTypes := #[.long]
  resolved := Array.replicate 37 none
  statics := none }

def pool6 : Array CpInfo := pool [(1, .class_ 2), (0, u "java/lang/Comparable"), (0, .class_ 4), (0, u "java/lang/Object")] 7

/-- java/lang/Comparable -/
def k6 : Class := { plain "java/lang/Comparable" (some 0) with
  accessFlags := 1537
  interfaces := #[]
  cf := some (fileOf pool6 1 #[] #[] 1537 3 #[] #[])
  fields := #[]
  methods := #[]
  instanceTypes := #[]
  staticTypes := #[]
  resolved := Array.replicate 12 none
  statics := none }

def pool7 : Array CpInfo := pool [(1, .class_ 2), (0, u "java/lang/constant/Constable"), (0, .class_ 4), (0, u "java/lang/Object")] 6

/-- java/lang/constant/Constable -/
def k7 : Class := { plain "java/lang/constant/Constable" (some 0) with
  accessFlags := 1537
  interfaces := #[]
  cf := some (fileOf pool7 1 #[] #[] 1537 3 #[] #[])
  fields := #[]
  methods := #[]
  instanceTypes := #[]
  staticTypes := #[]
  resolved := Array.replicate 11 none
  statics := none }

def pool8 : Array CpInfo := pool [(1, .class_ 2), (0, u "java/lang/constant/ConstantDesc"), (0, .class_ 4), (0, u "java/lang/Object")] 32

/-- java/lang/constant/ConstantDesc -/
def k8 : Class := { plain "java/lang/constant/ConstantDesc" (some 0) with
  accessFlags := 1537
  interfaces := #[]
  cf := some (fileOf pool8 1 #[] #[] 1537 3 #[] #[])
  fields := #[]
  methods := #[]
  instanceTypes := #[]
  staticTypes := #[]
  resolved := Array.replicate 37 none
  statics := none }

def pool9 : Array CpInfo := pool [(1, .class_ 2), (0, u "java/lang/Long"), (55, .nameAndType 59 60), (0, u "<init>"), (0, u "()V"), (24, u "valueOf"), (143, u "(J)Ljava/lang/Long;"), (0, .long 18446744073709551488), (1, .long 127), (1, .fieldref 235 236), (0, .class_ 237), (0, .nameAndType 238 239), (0, u "java/lang/Long$LongCache"), (0, u "cache"), (0, u "[Ljava/lang/Long;"), (0, .methodref 1 241), (0, .nameAndType 59 242), (0, u "(J)V"), (27, .methodref 271 58), (0, .class_ 272), (0, u "java/lang/Number"), (0, .fieldref 1 274), (0, .nameAndType 275 276), (0, u "value"), (0, u "J"), (84, u "TYPE"), (0, u "Ljava/lang/Class;"), (0, .class_ 364), (0, u "java/lang/Comparable"), (0, .class_ 366), (0, u "java/lang/constant/Constable"), (0, .class_ 368), (0, u "java/lang/constant/ConstantDesc"), (0, u "MIN_VALUE"), (1, u "MAX_VALUE"), (4, u "SIZE"), (0, u "I"), (1, u "BYTES"), (1, u "serialVersionUID")] 142

def k9c0 : Code := { maxStack := 4, maxLocals := 3, code := jdk_35_method_24_code, exceptionTable := #[], attributes := #[] }
def k9m0 : Method := { name := "valueOf", desc := "(J)Ljava/lang/Long;", sig := { parameters := [.long], returnType := some (.object "java/lang/Long") }, accessFlags := 9, code := some k9c0 }
def k9c1 : Code := { maxStack := 3, maxLocals := 3, code := jdk_35_method_26_code, exceptionTable := #[], attributes := #[] }
def k9m1 : Method := { name := "<init>", desc := "(J)V", sig := { parameters := [.long], returnType := none }, accessFlags := 1, code := some k9c1 }
/-- java/lang/Long -/
def k9 : Class := { plain "java/lang/Long" (some 5) with
  accessFlags := 49
  interfaces := #[6, 7, 8]
  cf := some (fileOf pool9 1 #[.nestMembers #[235]] #[{ accessFlags := 9, nameIndex := 85, descriptorIndex := 229, attributes := #[] }, { accessFlags := 1, nameIndex := 59, descriptorIndex := 242, attributes := #[] }] 49 271 #[363, 365, 367] #[{ accessFlags := 25, nameIndex := 369, descriptorIndex := 276, attributes := #[] }, { accessFlags := 25, nameIndex := 371, descriptorIndex := 276, attributes := #[] }, { accessFlags := 25, nameIndex := 361, descriptorIndex := 362, attributes := #[] }, { accessFlags := 18, nameIndex := 275, descriptorIndex := 276, attributes := #[] }, { accessFlags := 25, nameIndex := 376, descriptorIndex := 377, attributes := #[] }, { accessFlags := 25, nameIndex := 379, descriptorIndex := 377, attributes := #[] }, { accessFlags := 26, nameIndex := 381, descriptorIndex := 276, attributes := #[] }])
  fields := #[{ name := "MIN_VALUE", type := .long, accessFlags := 25, slot := 0, constantValue := 0 }, { name := "MAX_VALUE", type := .long, accessFlags := 25, slot := 1, constantValue := 0 }, { name := "TYPE", type := (.object "java/lang/Class"), accessFlags := 25, slot := 2, constantValue := 0 }, { name := "value", type := .long, accessFlags := 18, slot := 0, constantValue := 0 }, { name := "SIZE", type := .int, accessFlags := 25, slot := 3, constantValue := 0 }, { name := "BYTES", type := .int, accessFlags := 25, slot := 4, constantValue := 0 }, { name := "serialVersionUID", type := .long, accessFlags := 26, slot := 5, constantValue := 0 }]
  methods := #[k9m0, k9m1]
  instanceTypes := #[.long]
  staticTypes := #[.long, .long, (.object "java/lang/Class"), .int, .int, .long]
  resolved := Array.replicate 524 none
  statics := none }

def pool10 : Array CpInfo := pool [(2, .class_ 4), (1, u "java/lang/Object"), (0, u "<init>"), (0, u "()V"), (0, .class_ 8), (0, u "java/lang/Long"), (7, .class_ 18), (1, u "java/lang/Long$LongCache"), (0, u "$assertionsDisabled"), (0, u "Z"), (8, u "archivedCache"), (0, u "[Ljava/lang/Long;"), (7, u "cache")] 24

def k10m0 : Method := { name := "<init>", desc := "()V", sig := { parameters := [], returnType := none }, accessFlags := 2, code := none }
/-- java/lang/Long$LongCache -/
def k10 : Class := { plain "java/lang/Long$LongCache" (some 0) with
  accessFlags := 48
  interfaces := #[]
  cf := some (fileOf pool10 16 #[.nestHost 7] #[{ accessFlags := 2, nameIndex := 5, descriptorIndex := 6, attributes := #[] }] 48 2 #[] #[{ accessFlags := 24, nameIndex := 38, descriptorIndex := 30, attributes := #[] }, { accessFlags := 8, nameIndex := 29, descriptorIndex := 30, attributes := #[] }, { accessFlags := 4120, nameIndex := 19, descriptorIndex := 20, attributes := #[] }])
  fields := #[{ name := "cache", type := (.array (.object "java/lang/Long")), accessFlags := 24, slot := 0, constantValue := 0 }, { name := "archivedCache", type := (.array (.object "java/lang/Long")), accessFlags := 8, slot := 1, constantValue := 0 }, { name := "$assertionsDisabled", type := .boolean, accessFlags := 4120, slot := 2, constantValue := 0 }]
  methods := #[k10m0]
  instanceTypes := #[]
  staticTypes := #[(.array (.object "java/lang/Long")), (.array (.object "java/lang/Long")), .boolean]
  resolved := Array.replicate 63 none
  statics := some 0 }

def pool11 : Array CpInfo := pool [(1, u "java/lang/Cloneable"), (0, .class_ 1), (0, u "java/lang/Object"), (0, .class_ 3)] 3

/-- java/lang/Cloneable -/
def k11 : Class := { plain "java/lang/Cloneable" (some 0) with
  accessFlags := 1537
  interfaces := #[]
  cf := some (fileOf pool11 2 #[] #[] 1537 4 #[] #[])
  fields := #[]
  methods := #[]
  instanceTypes := #[]
  staticTypes := #[]
  resolved := Array.replicate 8 none
  statics := none }

/-- the primitive byte -/
def k12 : Class := { plain "byte" none with kind := .primitive 'B', accessFlags := 0x411 }
/-- [B -/
def k13 : Class := { plain "[B" (some 0) with kind := .array 12 .byte, interfaces := #[11, 4], accessFlags := 1041 }

/-- the primitive int -/
def k14 : Class := { plain "int" none with kind := .primitive 'I', accessFlags := 0x411 }
/-- [I -/
def k15 : Class := { plain "[I" (some 0) with kind := .array 14 .int, interfaces := #[11, 4], accessFlags := 1041 }

/-- [Ljava/lang/Long; -/
def k16 : Class := { plain "[Ljava/lang/Long;" (some 0) with kind := .array 9 (.object "java/lang/Long"), interfaces := #[11, 4], accessFlags := 1041 }

def heap : Heap := #[{ cls := 10, slots := #[.ref 1, .null, .int 0], vm := .statics 10 },
  { cls := 16, slots := #[.ref 2, .ref 3, .ref 4, .ref 5, .ref 6, .ref 7, .ref 8, .ref 9, .ref 10, .ref 11, .ref 12, .ref 13, .ref 14, .ref 15, .ref 16, .ref 17, .ref 18, .ref 19, .ref 20, .ref 21, .ref 22, .ref 23, .ref 24, .ref 25, .ref 26, .ref 27, .ref 28, .ref 29, .ref 30, .ref 31, .ref 32, .ref 33, .ref 34, .ref 35, .ref 36, .ref 37, .ref 38, .ref 39, .ref 40, .ref 41, .ref 42, .ref 43, .ref 44, .ref 45, .ref 46, .ref 47, .ref 48, .ref 49, .ref 50, .ref 51, .ref 52, .ref 53, .ref 54, .ref 55, .ref 56, .ref 57, .ref 58, .ref 59, .ref 60, .ref 61, .ref 62, .ref 63, .ref 64, .ref 65, .ref 66, .ref 67, .ref 68, .ref 69, .ref 70, .ref 71, .ref 72, .ref 73, .ref 74, .ref 75, .ref 76, .ref 77, .ref 78, .ref 79, .ref 80, .ref 81, .ref 82, .ref 83, .ref 84, .ref 85, .ref 86, .ref 87, .ref 88, .ref 89, .ref 90, .ref 91, .ref 92, .ref 93, .ref 94, .ref 95, .ref 96, .ref 97, .ref 98, .ref 99, .ref 100, .ref 101, .ref 102, .ref 103, .ref 104, .ref 105, .ref 106, .ref 107, .ref 108, .ref 109, .ref 110, .ref 111, .ref 112, .ref 113, .ref 114, .ref 115, .ref 116, .ref 117, .ref 118, .ref 119, .ref 120, .ref 121, .ref 122, .ref 123, .ref 124, .ref 125, .ref 126, .ref 127, .ref 128, .ref 129, .ref 130, .ref 131, .ref 132, .ref 133, .ref 134, .ref 135, .ref 136, .ref 137, .ref 138, .ref 139, .ref 140, .ref 141, .ref 142, .ref 143, .ref 144, .ref 145, .ref 146, .ref 147, .ref 148, .ref 149, .ref 150, .ref 151, .ref 152, .ref 153, .ref 154, .ref 155, .ref 156, .ref 157, .ref 158, .ref 159, .ref 160, .ref 161, .ref 162, .ref 163, .ref 164, .ref 165, .ref 166, .ref 167, .ref 168, .ref 169, .ref 170, .ref 171, .ref 172, .ref 173, .ref 174, .ref 175, .ref 176, .ref 177, .ref 178, .ref 179, .ref 180, .ref 181, .ref 182, .ref 183, .ref 184, .ref 185, .ref 186, .ref 187, .ref 188, .ref 189, .ref 190, .ref 191, .ref 192, .ref 193, .ref 194, .ref 195, .ref 196, .ref 197, .ref 198, .ref 199, .ref 200, .ref 201, .ref 202, .ref 203, .ref 204, .ref 205, .ref 206, .ref 207, .ref 208, .ref 209, .ref 210, .ref 211, .ref 212, .ref 213, .ref 214, .ref 215, .ref 216, .ref 217, .ref 218, .ref 219, .ref 220, .ref 221, .ref 222, .ref 223, .ref 224, .ref 225, .ref 226, .ref 227, .ref 228, .ref 229, .ref 230, .ref 231, .ref 232, .ref 233, .ref 234, .ref 235, .ref 236, .ref 237, .ref 238, .ref 239, .ref 240, .ref 241, .ref 242, .ref 243, .ref 244, .ref 245, .ref 246, .ref 247, .ref 248, .ref 249, .ref 250, .ref 251, .ref 252, .ref 253, .ref 254, .ref 255, .ref 256, .ref 257], vm := .none },
  { cls := 9, slots := #[.long (-128)], vm := .none },
  { cls := 9, slots := #[.long (-127)], vm := .none },
  { cls := 9, slots := #[.long (-126)], vm := .none },
  { cls := 9, slots := #[.long (-125)], vm := .none },
  { cls := 9, slots := #[.long (-124)], vm := .none },
  { cls := 9, slots := #[.long (-123)], vm := .none },
  { cls := 9, slots := #[.long (-122)], vm := .none },
  { cls := 9, slots := #[.long (-121)], vm := .none },
  { cls := 9, slots := #[.long (-120)], vm := .none },
  { cls := 9, slots := #[.long (-119)], vm := .none },
  { cls := 9, slots := #[.long (-118)], vm := .none },
  { cls := 9, slots := #[.long (-117)], vm := .none },
  { cls := 9, slots := #[.long (-116)], vm := .none },
  { cls := 9, slots := #[.long (-115)], vm := .none },
  { cls := 9, slots := #[.long (-114)], vm := .none },
  { cls := 9, slots := #[.long (-113)], vm := .none },
  { cls := 9, slots := #[.long (-112)], vm := .none },
  { cls := 9, slots := #[.long (-111)], vm := .none },
  { cls := 9, slots := #[.long (-110)], vm := .none },
  { cls := 9, slots := #[.long (-109)], vm := .none },
  { cls := 9, slots := #[.long (-108)], vm := .none },
  { cls := 9, slots := #[.long (-107)], vm := .none },
  { cls := 9, slots := #[.long (-106)], vm := .none },
  { cls := 9, slots := #[.long (-105)], vm := .none },
  { cls := 9, slots := #[.long (-104)], vm := .none },
  { cls := 9, slots := #[.long (-103)], vm := .none },
  { cls := 9, slots := #[.long (-102)], vm := .none },
  { cls := 9, slots := #[.long (-101)], vm := .none },
  { cls := 9, slots := #[.long (-100)], vm := .none },
  { cls := 9, slots := #[.long (-99)], vm := .none },
  { cls := 9, slots := #[.long (-98)], vm := .none },
  { cls := 9, slots := #[.long (-97)], vm := .none },
  { cls := 9, slots := #[.long (-96)], vm := .none },
  { cls := 9, slots := #[.long (-95)], vm := .none },
  { cls := 9, slots := #[.long (-94)], vm := .none },
  { cls := 9, slots := #[.long (-93)], vm := .none },
  { cls := 9, slots := #[.long (-92)], vm := .none },
  { cls := 9, slots := #[.long (-91)], vm := .none },
  { cls := 9, slots := #[.long (-90)], vm := .none },
  { cls := 9, slots := #[.long (-89)], vm := .none },
  { cls := 9, slots := #[.long (-88)], vm := .none },
  { cls := 9, slots := #[.long (-87)], vm := .none },
  { cls := 9, slots := #[.long (-86)], vm := .none },
  { cls := 9, slots := #[.long (-85)], vm := .none },
  { cls := 9, slots := #[.long (-84)], vm := .none },
  { cls := 9, slots := #[.long (-83)], vm := .none },
  { cls := 9, slots := #[.long (-82)], vm := .none },
  { cls := 9, slots := #[.long (-81)], vm := .none },
  { cls := 9, slots := #[.long (-80)], vm := .none },
  { cls := 9, slots := #[.long (-79)], vm := .none },
  { cls := 9, slots := #[.long (-78)], vm := .none },
  { cls := 9, slots := #[.long (-77)], vm := .none },
  { cls := 9, slots := #[.long (-76)], vm := .none },
  { cls := 9, slots := #[.long (-75)], vm := .none },
  { cls := 9, slots := #[.long (-74)], vm := .none },
  { cls := 9, slots := #[.long (-73)], vm := .none },
  { cls := 9, slots := #[.long (-72)], vm := .none },
  { cls := 9, slots := #[.long (-71)], vm := .none },
  { cls := 9, slots := #[.long (-70)], vm := .none },
  { cls := 9, slots := #[.long (-69)], vm := .none },
  { cls := 9, slots := #[.long (-68)], vm := .none },
  { cls := 9, slots := #[.long (-67)], vm := .none },
  { cls := 9, slots := #[.long (-66)], vm := .none },
  { cls := 9, slots := #[.long (-65)], vm := .none },
  { cls := 9, slots := #[.long (-64)], vm := .none },
  { cls := 9, slots := #[.long (-63)], vm := .none },
  { cls := 9, slots := #[.long (-62)], vm := .none },
  { cls := 9, slots := #[.long (-61)], vm := .none },
  { cls := 9, slots := #[.long (-60)], vm := .none },
  { cls := 9, slots := #[.long (-59)], vm := .none },
  { cls := 9, slots := #[.long (-58)], vm := .none },
  { cls := 9, slots := #[.long (-57)], vm := .none },
  { cls := 9, slots := #[.long (-56)], vm := .none },
  { cls := 9, slots := #[.long (-55)], vm := .none },
  { cls := 9, slots := #[.long (-54)], vm := .none },
  { cls := 9, slots := #[.long (-53)], vm := .none },
  { cls := 9, slots := #[.long (-52)], vm := .none },
  { cls := 9, slots := #[.long (-51)], vm := .none },
  { cls := 9, slots := #[.long (-50)], vm := .none },
  { cls := 9, slots := #[.long (-49)], vm := .none },
  { cls := 9, slots := #[.long (-48)], vm := .none },
  { cls := 9, slots := #[.long (-47)], vm := .none },
  { cls := 9, slots := #[.long (-46)], vm := .none },
  { cls := 9, slots := #[.long (-45)], vm := .none },
  { cls := 9, slots := #[.long (-44)], vm := .none },
  { cls := 9, slots := #[.long (-43)], vm := .none },
  { cls := 9, slots := #[.long (-42)], vm := .none },
  { cls := 9, slots := #[.long (-41)], vm := .none },
  { cls := 9, slots := #[.long (-40)], vm := .none },
  { cls := 9, slots := #[.long (-39)], vm := .none },
  { cls := 9, slots := #[.long (-38)], vm := .none },
  { cls := 9, slots := #[.long (-37)], vm := .none },
  { cls := 9, slots := #[.long (-36)], vm := .none },
  { cls := 9, slots := #[.long (-35)], vm := .none },
  { cls := 9, slots := #[.long (-34)], vm := .none },
  { cls := 9, slots := #[.long (-33)], vm := .none },
  { cls := 9, slots := #[.long (-32)], vm := .none },
  { cls := 9, slots := #[.long (-31)], vm := .none },
  { cls := 9, slots := #[.long (-30)], vm := .none },
  { cls := 9, slots := #[.long (-29)], vm := .none },
  { cls := 9, slots := #[.long (-28)], vm := .none },
  { cls := 9, slots := #[.long (-27)], vm := .none },
  { cls := 9, slots := #[.long (-26)], vm := .none },
  { cls := 9, slots := #[.long (-25)], vm := .none },
  { cls := 9, slots := #[.long (-24)], vm := .none },
  { cls := 9, slots := #[.long (-23)], vm := .none },
  { cls := 9, slots := #[.long (-22)], vm := .none },
  { cls := 9, slots := #[.long (-21)], vm := .none },
  { cls := 9, slots := #[.long (-20)], vm := .none },
  { cls := 9, slots := #[.long (-19)], vm := .none },
  { cls := 9, slots := #[.long (-18)], vm := .none },
  { cls := 9, slots := #[.long (-17)], vm := .none },
  { cls := 9, slots := #[.long (-16)], vm := .none },
  { cls := 9, slots := #[.long (-15)], vm := .none },
  { cls := 9, slots := #[.long (-14)], vm := .none },
  { cls := 9, slots := #[.long (-13)], vm := .none },
  { cls := 9, slots := #[.long (-12)], vm := .none },
  { cls := 9, slots := #[.long (-11)], vm := .none },
  { cls := 9, slots := #[.long (-10)], vm := .none },
  { cls := 9, slots := #[.long (-9)], vm := .none },
  { cls := 9, slots := #[.long (-8)], vm := .none },
  { cls := 9, slots := #[.long (-7)], vm := .none },
  { cls := 9, slots := #[.long (-6)], vm := .none },
  { cls := 9, slots := #[.long (-5)], vm := .none },
  { cls := 9, slots := #[.long (-4)], vm := .none },
  { cls := 9, slots := #[.long (-3)], vm := .none },
  { cls := 9, slots := #[.long (-2)], vm := .none },
  { cls := 9, slots := #[.long (-1)], vm := .none },
  { cls := 9, slots := #[.long 0], vm := .none },
  { cls := 9, slots := #[.long 1], vm := .none },
  { cls := 9, slots := #[.long 2], vm := .none },
  { cls := 9, slots := #[.long 3], vm := .none },
  { cls := 9, slots := #[.long 4], vm := .none },
  { cls := 9, slots := #[.long 5], vm := .none },
  { cls := 9, slots := #[.long 6], vm := .none },
  { cls := 9, slots := #[.long 7], vm := .none },
  { cls := 9, slots := #[.long 8], vm := .none },
  { cls := 9, slots := #[.long 9], vm := .none },
  { cls := 9, slots := #[.long 10], vm := .none },
  { cls := 9, slots := #[.long 11], vm := .none },
  { cls := 9, slots := #[.long 12], vm := .none },
  { cls := 9, slots := #[.long 13], vm := .none },
  { cls := 9, slots := #[.long 14], vm := .none },
  { cls := 9, slots := #[.long 15], vm := .none },
  { cls := 9, slots := #[.long 16], vm := .none },
  { cls := 9, slots := #[.long 17], vm := .none },
  { cls := 9, slots := #[.long 18], vm := .none },
  { cls := 9, slots := #[.long 19], vm := .none },
  { cls := 9, slots := #[.long 20], vm := .none },
  { cls := 9, slots := #[.long 21], vm := .none },
  { cls := 9, slots := #[.long 22], vm := .none },
  { cls := 9, slots := #[.long 23], vm := .none },
  { cls := 9, slots := #[.long 24], vm := .none },
  { cls := 9, slots := #[.long 25], vm := .none },
  { cls := 9, slots := #[.long 26], vm := .none },
  { cls := 9, slots := #[.long 27], vm := .none },
  { cls := 9, slots := #[.long 28], vm := .none },
  { cls := 9, slots := #[.long 29], vm := .none },
  { cls := 9, slots := #[.long 30], vm := .none },
  { cls := 9, slots := #[.long 31], vm := .none },
  { cls := 9, slots := #[.long 32], vm := .none },
  { cls := 9, slots := #[.long 33], vm := .none },
  { cls := 9, slots := #[.long 34], vm := .none },
  { cls := 9, slots := #[.long 35], vm := .none },
  { cls := 9, slots := #[.long 36], vm := .none },
  { cls := 9, slots := #[.long 37], vm := .none },
  { cls := 9, slots := #[.long 38], vm := .none },
  { cls := 9, slots := #[.long 39], vm := .none },
  { cls := 9, slots := #[.long 40], vm := .none },
  { cls := 9, slots := #[.long 41], vm := .none },
  { cls := 9, slots := #[.long 42], vm := .none },
  { cls := 9, slots := #[.long 43], vm := .none },
  { cls := 9, slots := #[.long 44], vm := .none },
  { cls := 9, slots := #[.long 45], vm := .none },
  { cls := 9, slots := #[.long 46], vm := .none },
  { cls := 9, slots := #[.long 47], vm := .none },
  { cls := 9, slots := #[.long 48], vm := .none },
  { cls := 9, slots := #[.long 49], vm := .none },
  { cls := 9, slots := #[.long 50], vm := .none },
  { cls := 9, slots := #[.long 51], vm := .none },
  { cls := 9, slots := #[.long 52], vm := .none },
  { cls := 9, slots := #[.long 53], vm := .none },
  { cls := 9, slots := #[.long 54], vm := .none },
  { cls := 9, slots := #[.long 55], vm := .none },
  { cls := 9, slots := #[.long 56], vm := .none },
  { cls := 9, slots := #[.long 57], vm := .none },
  { cls := 9, slots := #[.long 58], vm := .none },
  { cls := 9, slots := #[.long 59], vm := .none },
  { cls := 9, slots := #[.long 60], vm := .none },
  { cls := 9, slots := #[.long 61], vm := .none },
  { cls := 9, slots := #[.long 62], vm := .none },
  { cls := 9, slots := #[.long 63], vm := .none },
  { cls := 9, slots := #[.long 64], vm := .none },
  { cls := 9, slots := #[.long 65], vm := .none },
  { cls := 9, slots := #[.long 66], vm := .none },
  { cls := 9, slots := #[.long 67], vm := .none },
  { cls := 9, slots := #[.long 68], vm := .none },
  { cls := 9, slots := #[.long 69], vm := .none },
  { cls := 9, slots := #[.long 70], vm := .none },
  { cls := 9, slots := #[.long 71], vm := .none },
  { cls := 9, slots := #[.long 72], vm := .none },
  { cls := 9, slots := #[.long 73], vm := .none },
  { cls := 9, slots := #[.long 74], vm := .none },
  { cls := 9, slots := #[.long 75], vm := .none },
  { cls := 9, slots := #[.long 76], vm := .none },
  { cls := 9, slots := #[.long 77], vm := .none },
  { cls := 9, slots := #[.long 78], vm := .none },
  { cls := 9, slots := #[.long 79], vm := .none },
  { cls := 9, slots := #[.long 80], vm := .none },
  { cls := 9, slots := #[.long 81], vm := .none },
  { cls := 9, slots := #[.long 82], vm := .none },
  { cls := 9, slots := #[.long 83], vm := .none },
  { cls := 9, slots := #[.long 84], vm := .none },
  { cls := 9, slots := #[.long 85], vm := .none },
  { cls := 9, slots := #[.long 86], vm := .none },
  { cls := 9, slots := #[.long 87], vm := .none },
  { cls := 9, slots := #[.long 88], vm := .none },
  { cls := 9, slots := #[.long 89], vm := .none },
  { cls := 9, slots := #[.long 90], vm := .none },
  { cls := 9, slots := #[.long 91], vm := .none },
  { cls := 9, slots := #[.long 92], vm := .none },
  { cls := 9, slots := #[.long 93], vm := .none },
  { cls := 9, slots := #[.long 94], vm := .none },
  { cls := 9, slots := #[.long 95], vm := .none },
  { cls := 9, slots := #[.long 96], vm := .none },
  { cls := 9, slots := #[.long 97], vm := .none },
  { cls := 9, slots := #[.long 98], vm := .none },
  { cls := 9, slots := #[.long 99], vm := .none },
  { cls := 9, slots := #[.long 100], vm := .none },
  { cls := 9, slots := #[.long 101], vm := .none },
  { cls := 9, slots := #[.long 102], vm := .none },
  { cls := 9, slots := #[.long 103], vm := .none },
  { cls := 9, slots := #[.long 104], vm := .none },
  { cls := 9, slots := #[.long 105], vm := .none },
  { cls := 9, slots := #[.long 106], vm := .none },
  { cls := 9, slots := #[.long 107], vm := .none },
  { cls := 9, slots := #[.long 108], vm := .none },
  { cls := 9, slots := #[.long 109], vm := .none },
  { cls := 9, slots := #[.long 110], vm := .none },
  { cls := 9, slots := #[.long 111], vm := .none },
  { cls := 9, slots := #[.long 112], vm := .none },
  { cls := 9, slots := #[.long 113], vm := .none },
  { cls := 9, slots := #[.long 114], vm := .none },
  { cls := 9, slots := #[.long 115], vm := .none },
  { cls := 9, slots := #[.long 116], vm := .none },
  { cls := 9, slots := #[.long 117], vm := .none },
  { cls := 9, slots := #[.long 118], vm := .none },
  { cls := 9, slots := #[.long 119], vm := .none },
  { cls := 9, slots := #[.long 120], vm := .none },
  { cls := 9, slots := #[.long 121], vm := .none },
  { cls := 9, slots := #[.long 122], vm := .none },
  { cls := 9, slots := #[.long 123], vm := .none },
  { cls := 9, slots := #[.long 124], vm := .none },
  { cls := 9, slots := #[.long 125], vm := .none },
  { cls := 9, slots := #[.long 126], vm := .none },
  { cls := 9, slots := #[.long 127], vm := .none }]
def classes : Array Class := #[k0, k1, k2, k3, k4, k5, k6, k7, k8, k9, k10, k11, k12, k13, k14, k15, k16]
def interned : List (Array UInt16 × Addr) := []
def slotsUsed : Nat := 515
def theMethod : MethodId := ⟨1, 1⟩
def args0 : Array Value := #[.long 5, .long 6, .long 7, .long 8, .int 5]
def aboutOver (below : List Frame) : State where
  vm := { classes := classes, interned := interned.toArray }
  heap := heap
  slotsUsed := slotsUsed
  threads := #[{ frames := .invoking theMethod args0 :: below }]
def below0 : List Frame := [.native { method := ⟨0, 0⟩, args := #[] }]
def about1 : State := aboutOver below0
def p0 : Program := .bare "" "" ""
def e0 : Env := launch0.env 0 0 0
theorem w_frames : about1.frames = Frame.invoking theMethod args0 :: below0 := rfl
set_option maxRecDepth 65536 in
theorem w_args : argsFit about1.vm theMethod args0 = true := by decide +kernel
set_option maxRecDepth 65536 in
theorem w_heap : heapFits about1 = true := by decide +kernel
set_option maxRecDepth 65536 in
theorem w_runnable : about1.curStatus? = some .runnable := by decide +kernel
set_option maxRecDepth 65536 in
theorem w_alone : about1.alone = true := by decide +kernel
set_option maxRecDepth 65536 in
theorem w_named : about1.methodNamed? x = some theMethod := by decide +kernel
set_option maxRecDepth 65536 in
theorem w_hears : about1.hears theMethod below0 = true := by decide +kernel
set_option maxRecDepth 65536 in
theorem w_ripe : about1.ripe theMethod args0 below0 = true := by decide +kernel
theorem w_running : about1.status = .running := rfl
set_option maxRecDepth 65536 in
theorem w_room : about1.hasRoom e0.platform room_1 = true :=
  launch0.hasRoom_least _ room_1 (by decide +kernel) (by decide +kernel) (by decide +kernel) (by decide +kernel) (by decide +kernel) (by decide +kernel)
theorem allAtoms_all (ts : List Jvm.Cond) (a : Array Jvm.Value) (st : Jvm.State) : (allAtoms ts).before a st = ts.all (fun c => c.before a st) := by
  induction ts with
  | nil => rfl
  | cons c t ih =>
    show (Jvm.Cond.and c (allAtoms t)).before a st = _
    rw [Jvm.Cond.before_and, ih, List.all_cons]
def words1 : List Jvm.Cond := Jvm.Cond.code x code maxLocals ret :: tables_1
/-- a 'code' word, met by the world's own term for the bytes: nothing is compared byte by byte -/
theorem code_word {y : MethodName} {bytes : ByteArray} {mx : Nat} {rt : Option FieldType} {a : Array Value} {s : State} {m : MethodId} {meth : Method} {c : Code} (h1 : s.methodNamed? y = some m) (h2 : s.vm.method? m = some meth) (h3 : meth.code = some c) (h4 : c.code = bytes)
    (h5 : (c.maxLocals == mx && c.exceptionTable.isEmpty && decide (c.maxStack ≤ mostOperands) && decide (meth.sig.returnType = rt) && !meth.locks && decide (parseMethodDescriptor y.desc = some meth.sig)) = true) : (Jvm.Cond.code y bytes mx rt).before a s = true := by
  simp only [Bool.and_eq_true, beq_iff_eq, Bool.not_eq_true', decide_eq_true_eq] at h5
  obtain ⟨⟨⟨⟨⟨g1, g2⟩, g3⟩, g4⟩, g5⟩, g6⟩ := h5
  simp [Cond.before, Cond.holds, Cond.value, h1, h2, h3, h4, g1, g2, g3, g4, g5, g6]
def isCode : Jvm.Cond → Bool
  | .code _ _ _ _ => true
  | _ => false
theorem all_split {L : List Jvm.Cond} {P : Jvm.Cond → Bool} (h1 : L.all (fun c => isCode c || P c) = true) (h2 : ∀ c ∈ L.filter isCode, P c = true) : L.all P = true := by
  refine List.all_eq_true.mpr fun c hc => ?_
  have h := List.all_eq_true.mp h1 c hc
  rcases Bool.eq_false_or_eq_true (isCode c) with hi | hi
  · exact h2 c (List.mem_filter.mpr ⟨hc, hi⟩)
  · simpa [hi] using h
set_option maxRecDepth 65536 in
theorem w_c0 : (Jvm.Cond.code x code maxLocals ret).before args0 about1 = true := code_word (m := ⟨1, 1⟩) (meth := k1m1) (c := k1c1) (by decide +kernel) rfl rfl rfl (by decide +kernel)
set_option maxRecDepth 65536 in
theorem w_c1 : (Jvm.Cond.code ({ cls := "com/example/pathweave/pathweave/Interval", name := "<init>", desc := "(JJ)V" } : Jvm.MethodName) prog_84_method_1_code (5 : Nat) (Option.none : Option Jvm.ClassFile.FieldType)).before args0 about1 = true := code_word (m := ⟨3, 0⟩) (meth := k3m0) (c := k3c0) (by decide +kernel) rfl rfl rfl (by decide +kernel)
set_option maxRecDepth 65536 in
theorem w_c2 : (Jvm.Cond.code ({ cls := "java/lang/Record", name := "<init>", desc := "()V" } : Jvm.MethodName) jdk_30_method_1_code (1 : Nat) (Option.none : Option Jvm.ClassFile.FieldType)).before args0 about1 = true := code_word (m := ⟨2, 0⟩) (meth := k2m0) (c := k2c0) (by decide +kernel) rfl rfl rfl (by decide +kernel)
set_option maxRecDepth 65536 in
theorem w_c3 : (Jvm.Cond.code ({ cls := "java/lang/Object", name := "<init>", desc := "()V" } : Jvm.MethodName) object_method_1_code (1 : Nat) (Option.none : Option Jvm.ClassFile.FieldType)).before args0 about1 = true := code_word (m := ⟨0, 0⟩) (meth := k0m0) (c := k0c0) (by decide +kernel) rfl rfl rfl (by decide +kernel)
set_option maxRecDepth 65536 in
theorem w_c4 : (Jvm.Cond.code ({ cls := "java/lang/Long", name := "valueOf", desc := "(J)Ljava/lang/Long;" } : Jvm.MethodName) jdk_35_method_24_code (3 : Nat) (Option.some (Jvm.ClassFile.FieldType.object "java/lang/Long"))).before args0 about1 = true := code_word (m := ⟨9, 0⟩) (meth := k9m0) (c := k9c0) (by decide +kernel) rfl rfl rfl (by decide +kernel)
set_option maxRecDepth 65536 in
theorem w_c5 : (Jvm.Cond.code ({ cls := "com/example/pathweave/pathweave/Interval", name := "equals", desc := "(Ljava/lang/Object;)Z" } : Jvm.MethodName) prog_84_method_21_code (3 : Nat) (Option.some Jvm.ClassFile.FieldType.boolean)).before args0 about1 = true := code_word (m := ⟨3, 1⟩) (meth := k3m1) (c := k3c1) (by decide +kernel) rfl rfl rfl (by decide +kernel)
set_option maxRecDepth 65536 in
theorem w_c6 : (Jvm.Cond.code ({ cls := "java/lang/Long", name := "<init>", desc := "(J)V" } : Jvm.MethodName) jdk_35_method_26_code (3 : Nat) (Option.none : Option Jvm.ClassFile.FieldType)).before args0 about1 = true := code_word (m := ⟨9, 1⟩) (meth := k9m1) (c := k9c1) (by decide +kernel) rfl rfl rfl (by decide +kernel)
set_option maxRecDepth 65536 in
theorem w_c7 : (Jvm.Cond.code ({ cls := "java/lang/Number", name := "<init>", desc := "()V" } : Jvm.MethodName) jdk_18_method_1_code (1 : Nat) (Option.none : Option Jvm.ClassFile.FieldType)).before args0 about1 = true := code_word (m := ⟨5, 0⟩) (meth := k5m0) (c := k5c0) (by decide +kernel) rfl rfl rfl (by decide +kernel)
def codes1 : List Jvm.Cond := [Jvm.Cond.code x code maxLocals ret, Jvm.Cond.code ({ cls := "com/example/pathweave/pathweave/Interval", name := "<init>", desc := "(JJ)V" } : Jvm.MethodName) prog_84_method_1_code (5 : Nat) (Option.none : Option Jvm.ClassFile.FieldType), Jvm.Cond.code ({ cls := "java/lang/Record", name := "<init>", desc := "()V" } : Jvm.MethodName) jdk_30_method_1_code (1 : Nat) (Option.none : Option Jvm.ClassFile.FieldType), Jvm.Cond.code ({ cls := "java/lang/Object", name := "<init>", desc := "()V" } : Jvm.MethodName) object_method_1_code (1 : Nat) (Option.none : Option Jvm.ClassFile.FieldType), Jvm.Cond.code ({ cls := "java/lang/Long", name := "valueOf", desc := "(J)Ljava/lang/Long;" } : Jvm.MethodName) jdk_35_method_24_code (3 : Nat) (Option.some (Jvm.ClassFile.FieldType.object "java/lang/Long")), Jvm.Cond.code ({ cls := "com/example/pathweave/pathweave/Interval", name := "equals", desc := "(Ljava/lang/Object;)Z" } : Jvm.MethodName) prog_84_method_21_code (3 : Nat) (Option.some Jvm.ClassFile.FieldType.boolean), Jvm.Cond.code ({ cls := "java/lang/Long", name := "<init>", desc := "(J)V" } : Jvm.MethodName) jdk_35_method_26_code (3 : Nat) (Option.none : Option Jvm.ClassFile.FieldType), Jvm.Cond.code ({ cls := "java/lang/Number", name := "<init>", desc := "()V" } : Jvm.MethodName) jdk_18_method_1_code (1 : Nat) (Option.none : Option Jvm.ClassFile.FieldType)]
set_option maxRecDepth 65536 in
theorem codes_eq : words1.filter isCode = codes1 := rfl
theorem w_codes : ∀ c ∈ words1.filter isCode, c.before args0 about1 = true := by
  rw [codes_eq]
  intro c hc
  simp only [codes1, List.mem_cons, List.not_mem_nil, or_false] at hc
  rcases hc with rfl | rfl | rfl | rfl | rfl | rfl | rfl | rfl
  · exact w_c0
  · exact w_c1
  · exact w_c2
  · exact w_c3
  · exact w_c4
  · exact w_c5
  · exact w_c6
  · exact w_c7
set_option maxRecDepth 65536 in
theorem w_t1 : (words1.take 24).all (fun c => isCode c || c.before args0 about1) = true := by decide +kernel
set_option maxRecDepth 65536 in
theorem w_t2 : ((words1.drop 24).take 24).all (fun c => isCode c || c.before args0 about1) = true := by decide +kernel
set_option maxRecDepth 65536 in
theorem w_t3 : ((words1.drop 24).drop 24).all (fun c => isCode c || c.before args0 about1) = true := by decide +kernel
theorem w_tables : (allAtoms (Jvm.Cond.code x code maxLocals ret :: tables_1)).before args0 about1 = true := by
  rw [allAtoms_all]
  show words1.all (fun c => c.before args0 about1) = true
  refine all_split ?_ w_codes
  rw [← List.take_append_drop 24 words1, List.all_append, w_t1, ← List.take_append_drop 24 (words1.drop 24), List.all_append, w_t2, w_t3]
  rfl
set_option maxRecDepth 65536 in
theorem w_rest : rest_1_c.before args0 about1 = true := by decide +kernel
set_option maxRecDepth 65536 in
theorem w_case : (Jvm.Cond.and given_1 narrow_1).before args0 about1 = true := by decide +kernel
theorem w_applies : (headSpec (Jvm.Cond.code x code maxLocals ret :: tables_1) room_1).applies x e0.platform about1 = true :=
  (Spec.applies_iff w_frames).mpr ⟨w_running, w_runnable, w_alone, w_named, w_hears, w_ripe, w_room, w_tables⟩
theorem atStart : AtStart classFile x code maxLocals ret World_1 tables_1 room_1 Calls_1 rest_1 Pre_1 launch0 p0 e0 about1 theMethod args0 below0 :=
  ⟨lists_1, trivial, launch0.admits_env _ _ _, launch0.least_env, fairChoices_fair.cas, fairChoices_fair.clock, w_frames, w_args, w_heap, w_applies, trivial, w_rest, w_case⟩
end start1
theorem witness_1 : WitnessClaimed_1 := ⟨start1.p0, start1.e0, start1.about1, start1.theMethod, start1.args0, start1.below0, start1.atStart⟩
end Jvm.Pilot.@@N@@
