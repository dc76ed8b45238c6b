import JvmDerived
import JvmDerived.Pilot.@@N@@Statement
import JvmDerived.Pilot.@@N@@Code
set_option linter.unusedVariables false
set_option linter.unusedSimpArgs false
namespace Jvm.RoadKit
open Sem ClassFile Op Lib Jvm.Stand Jvm.Free Jvm.LawKit
section New
variable {p : Program} {l : Launch} {e : Env} {R : Room} {s : State} {m : MethodId} {args : Array Value} {below : List Frame} {meth : Method} {c : Code} {T : State} {locs : List Loc} {cells slots : Nat}
theorem retI (X : Stand p l e R s m args below meth c T locs cells slots) (hx : p.tables.exec = Jvm.exec) {pc : Nat} {Ls : Array Slot} {z : Int32} {rest : List Value} (hret : meth.sig.returnType = some .int) (hd : decode c.code pc = .ok (.ireturn, 1)) {fs : List Frame}
    (hl : ∀ (f : JFrame) (acts : List Action), f.method = m → f.locked = none → f.entered = [] → (doReturn e (T.setTop f) acts (some (.int z))).1 = T.setFrames fs) : Steps p.tables e below (T.setTop (mkF m pc Ls (.int z :: rest))) (T.setFrames fs) := by
  have hm' : T.vm.method? m = some meth := X.method'
  have hn : narrow .int (.int z) = .int z := rfl
  show Steps p.tables e below (T.setTop { method := m, pc := pc, locals := Ls, stack := _ :: rest, locked := none }) _
  jvm_step X.here [X.here.top, hx, hd, hm', hret, hn]
  first | (intro acts; rw [hl _ acts rfl rfl rfl]) | rw [hl _ _ rfl rfl rfl]
  exact Steps.refl _
/-- where a run is to come: it has ended, returning, with Q of what it returned, its heap and what it wrote -/
def own_End (s : State) (below : List Frame) (Q : Option Value → Heap → List Loc → Prop) (cc nn : Nat) (t : State) (o : Outcome) : Prop :=
  t.status = .running ∧ Ended t below o ∧ ∃ v L, o = .returned v ∧ Q v t.heap L ∧ FrameEnd s o t L cc nn
/-- from A the run comes to such an end -/
def own_Go (p : Program) (e : Env) (below : List Frame) (G : State → Outcome → Prop) (A : State) : Prop := ∃ t o, Steps p.tables e below A t ∧ G t o
theorem own_st {G : State → Outcome → Prop} {A B : State} (h : ∀ t, Steps p.tables e below B t → Steps p.tables e below A t) (k : own_Go p e below G B) : own_Go p e below G A := by
  obtain ⟨t, o, h1, h2⟩ := k
  exact ⟨t, o, h t h1, h2⟩
theorem own_retZ (X : Stand p l e R s m args below meth c T locs cells slots) (hx : p.tables.exec = Jvm.exec) (hlk : meth.locks = false) {t : FieldType} (hret : meth.sig.returnType = some t) (ht : t = .boolean ∨ t = .byte ∨ t = .char ∨ t = .short)
    {pc : Nat} {Ls : Array Slot} {z : Int32} {rest : List Value} (hd : decode c.code pc = .ok (.ireturn, 1)) {Q : Option Value → Heap → List Loc → Prop} {cc nn : Nat} (hq : Q (some (.int (nar t z))) T.heap locs) (hc : cells ≤ cc) (hn : slots ≤ nn) :
    own_Go p e below (own_End s below Q cc nn) (T.setTop (mkF m pc Ls (.int z :: rest))) := by
  obtain ⟨fs, hr, hrun, hended, hW, hsame⟩ := X.leave (v := some (.int (nar t z))) (fun h => by rw [hret] at h; cases h) hlk
  exact ⟨_, _, retN X hx hret ht hd hr, hrun, hended, _, _, rfl, hq, ⟨_, rfl⟩, hW, hsame.mono hc hn⟩
theorem own_retI (X : Stand p l e R s m args below meth c T locs cells slots) (hx : p.tables.exec = Jvm.exec) (hlk : meth.locks = false) (hret : meth.sig.returnType = some .int)
    {pc : Nat} {Ls : Array Slot} {z : Int32} {rest : List Value} (hd : decode c.code pc = .ok (.ireturn, 1)) {Q : Option Value → Heap → List Loc → Prop} {cc nn : Nat} (hq : Q (some (.int z)) T.heap locs) (hc : cells ≤ cc) (hn : slots ≤ nn) :
    own_Go p e below (own_End s below Q cc nn) (T.setTop (mkF m pc Ls (.int z :: rest))) := by
  obtain ⟨fs, hr, hrun, hended, hW, hsame⟩ := X.leave (v := some (.int z)) (fun h => by rw [hret] at h; cases h) hlk
  exact ⟨_, _, retI X hx hret hd hr, hrun, hended, _, _, rfl, hq, ⟨_, rfl⟩, hW, hsame.mono hc hn⟩
theorem own_retA (X : Stand p l e R s m args below meth c T locs cells slots) (hx : p.tables.exec = Jvm.exec) (hlk : meth.locks = false) {ty : FieldType} (hret : meth.sig.returnType = some ty) (hty : ty.isReference = true)
    {pc : Nat} {Ls : Array Slot} {v : Value} (hv : v.isRef = true) {rest : List Value} (hd : decode c.code pc = .ok (.areturn, 1)) {Q : Option Value → Heap → List Loc → Prop} {cc nn : Nat} (hq : Q (some v) T.heap locs) (hc : cells ≤ cc) (hn : slots ≤ nn) :
    own_Go p e below (own_End s below Q cc nn) (T.setTop (mkF m pc Ls (v :: rest))) := by
  obtain ⟨fs, hr, hrun, hended, hW, hsame⟩ := X.leave (v := some v) (fun h => by rw [hret] at h; cases h) hlk
  refine ⟨_, _, ?_, hrun, hended, _, _, rfl, hq, ⟨_, rfl⟩, hW, hsame.mono hc hn⟩
  have hm' : T.vm.method? m = some meth := X.method'
  show Steps p.tables e below (T.setTop { method := m, pc := pc, locals := Ls, stack := _ :: rest, locked := none }) _
  jvm_step X.here [X.here.top, hx, hd, hm', hret, hv, hty]
  first | (intro acts; rw [hr _ acts rfl rfl rfl]) | rw [hr _ _ rfl rfl rfl]
  exact Steps.refl _
theorem own_retV (X : Stand p l e R s m args below meth c T locs cells slots) (hx : p.tables.exec = Jvm.exec) (hlk : meth.locks = false) (hret : meth.sig.returnType = none)
    {pc : Nat} {Ls : Array Slot} (hd : decode c.code pc = .ok (.return_, 1)) {Q : Option Value → Heap → List Loc → Prop} {cc nn : Nat} (hq : Q none T.heap locs) (hc : cells ≤ cc) (hn : slots ≤ nn) :
    own_Go p e below (own_End s below Q cc nn) (T.setTop (mkF m pc Ls [])) := by
  obtain ⟨fs, hr, hrun, hended, hW, hsame⟩ := X.leave (v := none) (fun _ => rfl) hlk
  exact ⟨_, _, X.returnOut hx hret hd hr, hrun, hended, _, _, rfl, hq, ⟨_, rfl⟩, hW, hsame.mono hc hn⟩
/-- a body's contract: called with these values over this heap it returns, with Q -/
def own_Met (l : Launch) (Z : State) (y : MethodName) (bytes : ByteArray) (maxL : Nat) (ret : Option FieldType) (ws : List Cond) (rm : Room) (as' : Array Value) (h0 : Heap) (Q : Option Value → Heap → List Loc → Prop) : Prop :=
  MetFree l y (head1 (Cond.code y bytes maxL ret :: ws) rm) (fun a U => a = as' ∧ Z.Warmed39 U.vm ∧ U.heap = h0) (fun _ _ _ _ _ => True) (fun _ U o U' => ∃ v L, o = .returned v ∧ Q v U'.heap L ∧ FrameEnd U o U' L rm.cells rm.slots)
theorem own_body {Z : State} {y : MethodName} {bytes : ByteArray} {maxL : Nat} {ret : Option FieldType} {ws : List Cond} {rm : Room} {as' : Array Value} {h0 : Heap} {Q : Option Value → Heap → List Loc → Prop} (hpl : plainFor y = true)
    (k : ∀ (p : Program) (e : Env) (s : State) (m : MethodId) (below : List Frame) (meth : Method) (c : Code) (s₁ : State), p.tables.exec = Jvm.exec → c.code = bytes → c.maxLocals = maxL → s.vm.findClass y.cls = some m.cls → meth.name = y.name → meth.sig.returnType = ret → meth.locks = false → Z.Warmed39 s.vm →
      Stand p l e rm s m as' below meth c s₁ [] 0 0 → s₁.heap = h0 → ∀ G, G = own_End s below Q rm.cells rm.slots → own_Go p e below G (s₁.setTop (entryFrame m as' maxL))) :
    own_Met l Z y bytes maxL ret ws rm as' h0 Q := by
  refine MetFree.of_bodySF hpl hisR ?_
  intro p e s m args below meth c s₁ Bd hml0 hP hK
  obtain ⟨rfl, hZ, hh⟩ := hP
  have e0 : s₁.heap = h0 := by rw [← hh, Bd.state]; rfl
  exact k p e s m below meth c s₁ Bd.exec Bd.bytes hml0 (findClass_of_methodNamed Bd.named) (name_of_methodNamed Bd.named Bd.method).1 Bd.returns Bd.notSynchronized hZ (Stand.of_body Bd) e0 _ rfl
section Calls
variable {Z : State} {a0 : Array Value} {h : Heap}
theorem own_callS (X : Stand p l e R s m args below meth c T locs cells slots) (hx : p.tables.exec = Jvm.exec) (hZ : Z.Warmed39 s.vm) {own : String} {index : Nat} {y : MethodName} {bytes : ByteArray} {maxL : Nat} {ret : Option FieldType} (hown : s.vm.findClass own = some m.cls)
    (w1 : (Cond.methodLink own index y).before a0 Z = true) (w2 : (Cond.static y).before a0 Z = true) (w3 : (Cond.initialized y.cls).before a0 Z = true) (w4 : (Cond.code y bytes maxL ret).before a0 Z = true)
    (hy : y.cls ≠ "java/lang/invoke/MethodHandle" ∧ y.cls ≠ "java/lang/invoke/VarHandle") {rm : Room} {as' : Array Value} {Q : Option Value → Heap → List Loc → Prop} {W : Nat} (hM : own_Met l Z y bytes maxL ret [] rm as' h Q)
    (hf : rm.frames + 1 ≤ R.frames) (hl : W + (maxL + 11) + rm.locals ≤ R.locals) (eT : T.heap = h) {g : JFrame} (hg : g.method = m) (hsize : g.locals.size = c.maxLocals) {argsL rest : List Value}
    {ps : List FieldType} {r : Option FieldType} (hd : parseMethodDescriptor y.desc = some ⟨ps, r⟩) (hlen : argsL.length = ps.length) (hstack : g.stack = argsL.reverse ++ rest) (hW : 2 * g.monitorRoom + (rest.map fun v => v.category).sum ≤ W)
    (hdg : decode c.code g.pc = .ok (.invokestatic index, 3)) (ha : argsL.toArray = as') (hc : cells + rm.cells ≤ R.cells) (hn : slots + rm.slots ≤ R.slots) :
    ∃ (v : Option Value) (T' : State) (L : List Loc), Stand p l e R s m args below meth c T' (locs ++ L) (cells + rm.cells) (slots + rm.slots) ∧ Q v T'.heap L ∧
      ∀ target, Steps p.tables e below (T'.setTop { g with pc := g.pc + 3, stack := v.toList ++ rest }) target → Steps p.tables e below (T.setTop g) target := by
  obtain ⟨v, vm1, ⟨T', L', k', n'⟩, -, X', ⟨Lc, hQ, l1, l2, l3⟩, st⟩ := Jvm.LawKit.callS X hx (y := y) hown (mvT hZ w1) (mvT hZ w2) (mvT hZ w3) (mvT hZ w4) hy (backOf (W := W) hM hZ w4 w3 hf hl) hg hsize (argsL := argsL) (rest := rest) (lenOf hd hlen) hstack hW hdg (fun _ _ => ⟨ha, eT, hc, hn⟩)
  dsimp only [Pt.U, Pt.locs, Pt.cells, Pt.slots] at X' l1 l2 l3 st hQ
  subst l1 l2 l3
  exact ⟨v, T', Lc, X', hQ, st⟩
theorem own_callC (X : Stand p l e R s m args below meth c T locs cells slots) (hx : p.tables.exec = Jvm.exec) (hZ : Z.Warmed39 s.vm) {own : String} {index : Nat} {y : MethodName} {bytes : ByteArray} {maxL : Nat} (hn1 : y.name = "<init>") (hown : s.vm.findClass own = some m.cls)
    (w1 : (Cond.methodLink own index y).before a0 Z = true) (w2 : (Cond.instanceMethod y).before a0 Z = true) (w3 : (Cond.initialized y.cls).before a0 Z = true) (w4 : (Cond.code y bytes maxL none).before a0 Z = true)
    (hy : y.cls ≠ "java/lang/invoke/MethodHandle" ∧ y.cls ≠ "java/lang/invoke/VarHandle") {rm : Room} {as' : Array Value} {Q : Option Value → Heap → List Loc → Prop} {W : Nat} (hM : own_Met l Z y bytes maxL none [] rm as' h Q)
    (hf : rm.frames + 1 ≤ R.frames) (hl : W + (maxL + 11) + rm.locals ≤ R.locals) (eT : T.heap = h) {g : JFrame} (hg : g.method = m) (hsize : g.locals.size = c.maxLocals) {a : Addr} {argsL rest : List Value}
    {ps : List FieldType} {r : Option FieldType} (hd : parseMethodDescriptor y.desc = some ⟨ps, r⟩) (hlen : argsL.length = ps.length) (hstack : g.stack = argsL.reverse ++ .ref a :: rest) (hW : 2 * g.monitorRoom + (rest.map fun v => v.category).sum ≤ W)
    (hdg : decode c.code g.pc = .ok (.invokespecial index, 3)) (ha : (.ref a :: argsL).toArray = as') (hc : cells + rm.cells ≤ R.cells) (hn : slots + rm.slots ≤ R.slots) :
    ∃ (v : Option Value) (T' : State) (L : List Loc), Stand p l e R s m args below meth c T' (locs ++ L) (cells + rm.cells) (slots + rm.slots) ∧ Q v T'.heap L ∧
      ∀ target, Steps p.tables e below (T'.setTop { g with pc := g.pc + 3, stack := v.toList ++ rest }) target → Steps p.tables e below (T.setTop g) target := by
  obtain ⟨v, vm1, ⟨T', L', k', n'⟩, -, X', ⟨Lc, hQ, l1, l2, l3⟩, st⟩ := X.specialBack hx (y := y) hn1 hown (mvT hZ w1) (mvT hZ w2) (mvT hZ w4) hy (backOf (W := W) hM hZ w4 w3 hf hl) hg hsize (Steps.refl _) (a := a) (argsL := argsL) (rest := rest) (lenOf hd hlen) hstack hW hdg (fun _ _ => ⟨ha, eT, hc, hn⟩)
  dsimp only [Pt.U, Pt.locs, Pt.cells, Pt.slots] at X' l1 l2 l3 st hQ
  subst l1 l2 l3
  exact ⟨v, T', Lc, X', hQ, fun t k => st.trans k⟩
theorem own_callV (X : Stand p l e R s m args below meth c T locs cells slots) (hx : p.tables.exec = Jvm.exec) (hZ : Z.Warmed39 s.vm) {own C : String} {index : Nat} {y z : MethodName} {bytes : ByteArray} {maxL : Nat} {ret : Option FieldType} (hown : s.vm.findClass own = some m.cls)
    (w1 : (Cond.methodLink own index y).before a0 Z = true) (w2 : (Cond.declares y).before a0 Z = true) (hnf : NotFace s y) (w5 : (Cond.selects C y z).before a0 Z = true) (w6 : (Cond.instanceMethod z).before a0 Z = true) (w3 : (Cond.initialized z.cls).before a0 Z = true) (w4 : (Cond.code z bytes maxL ret).before a0 Z = true)
    (hy : y.cls ≠ "java/lang/invoke/MethodHandle" ∧ y.cls ≠ "java/lang/invoke/VarHandle") {rm : Room} {as' : Array Value} {Q : Option Value → Heap → List Loc → Prop} {W : Nat} (hM : own_Met l Z z bytes maxL ret [] rm as' h Q)
    (hf : rm.frames + 1 ≤ R.frames) (hl : W + (maxL + 11) + rm.locals ≤ R.locals) (eT : T.heap = h) {a : Addr} (E : Exa Z h a C) {g : JFrame} (hg : g.method = m) (hsize : g.locals.size = c.maxLocals) {argsL rest : List Value}
    {ps : List FieldType} {r : Option FieldType} (hd : parseMethodDescriptor y.desc = some ⟨ps, r⟩) (hlen : argsL.length = ps.length) (hstack : g.stack = argsL.reverse ++ .ref a :: rest) (hW : 2 * g.monitorRoom + (rest.map fun v => v.category).sum ≤ W)
    (hdg : decode c.code g.pc = .ok (.invokevirtual index, 3)) (ha : (.ref a :: argsL).toArray = as') (hc : cells + rm.cells ≤ R.cells) (hn : slots + rm.slots ≤ R.slots) :
    ∃ (v : Option Value) (T' : State) (L : List Loc), Stand p l e R s m args below meth c T' (locs ++ L) (cells + rm.cells) (slots + rm.slots) ∧ Q v T'.heap L ∧
      ∀ target, Steps p.tables e below (T'.setTop { g with pc := g.pc + 3, stack := v.toList ++ rest }) target → Steps p.tables e below (T.setTop g) target := by
  obtain ⟨cq, kq, q1, q2, q3⟩ := isOf hZ eT E
  obtain ⟨v, vm1, ⟨T', L', k', n'⟩, -, X', ⟨Lc, hQ, l1, l2, l3⟩, st⟩ := X.virtualBack hx (y := y) (z := z) hown (mvT hZ w1) (mvT hZ w2) hnf (mvT hZ w5) (mvT hZ w6) hy (backOf (W := W) hM hZ w4 w3 hf hl) q1 q3 hg hsize (Steps.refl _) (argsL := argsL) (rest := rest) (lenOf hd hlen) hstack hW hdg (fun _ _ => ⟨ha, eT, hc, hn⟩)
  dsimp only [Pt.U, Pt.locs, Pt.cells, Pt.slots] at X' l1 l2 l3 st hQ
  subst l1 l2 l3
  exact ⟨v, T', Lc, X', hQ, fun t k => st.trans k⟩
end Calls
section Words
variable {Z : State} {a0 : Array Value}
theorem own_exa {t : Term} {C : String} (h : (Cond.exactly t C).value a0 Z none Z [] = some true) : ∃ a, t.eval a0 Z none [] Z = some (.ref a) ∧ Exa Z Z.heap a C := by
  obtain ⟨a, e⟩ := exa_v h
  exact ⟨a, e, Exa.start e h⟩
theorem own_fldI {t : Term} {O n d : String} {k : Int32} {a : Addr} (h : (Cond.eq (.field t O n d) (.int k)).value a0 Z none Z [] = some true) (e : t.eval a0 Z none [] Z = some (.ref a)) : Fld Z Z.heap a O n d (.int k) := by
  obtain ⟨x, y, h1, h2, h3, h4⟩ := cmp_v (Or.inl h)
  cases (Term.int_eval k).symm.trans h2
  obtain ⟨q, rfl⟩ := h4
  obtain rfl := gotT (Cond.eq_ints h1 (Term.int_eval k)) h
  exact Fld.start ((fld_at e).symm.trans h1)
theorem own_fldJ {t : Term} {O n d : String} {k : Int64} {a : Addr} (h : (Cond.eq (.field t O n d) (.long k)).value a0 Z none Z [] = some true) (e : t.eval a0 Z none [] Z = some (.ref a)) : Fld Z Z.heap a O n d (.long k) := by
  obtain ⟨x, y, h1, h2, h3, h4⟩ := cmp_v (Or.inl h)
  cases (long_at k).symm.trans h2
  obtain ⟨q, rfl⟩ := h4
  obtain rfl := gotT (eq_L h1 (long_at k)) h
  exact Fld.start ((fld_at e).symm.trans h1)
theorem own_el {t u : Term} {i : Int32} {ca a : Addr} {cl : Cell} (h : (Cond.eq (.elem t (.int i)) u).value a0 Z none Z [] = some true) (ht : t.eval a0 Z none [] Z = some (.ref ca)) (hu : u.eval a0 Z none [] Z = some (.ref a)) (hc : Z.heap[ca]? = some cl) : cl.slots[i.toNatClampNeg]? = some (.ref a) := by
  obtain ⟨x, y, h1, h2, h3, h4⟩ := cmp_v (Or.inl h)
  cases hu.symm.trans h2
  have hx : x.isRef = true := by cases x <;> simp [Kin, Value.isRef] at h3 h4 ⊢
  have e := gotT (eq_R h1 h2 hx rfl) h
  subst e
  exact (elem_in h1 ht (Term.int_eval i) hc).2
theorem own_len {t : Term} {n : Int32} {ca : Addr} {cl : Cell} (h : (Cond.eq (.length t) (.int n)).value a0 Z none Z [] = some true) (ht : t.eval a0 Z none [] Z = some (.ref ca)) (hc : Z.heap[ca]? = some cl) : cl.slots.size < 2 ^ 31 ∧ cl.slots.size.toInt32 = n := by
  obtain ⟨x, y, h1, h2, h3, h4⟩ := cmp_v (Or.inl h)
  obtain ⟨b, cell, e1, e2, e3, rfl⟩ := Jvm.Lib.length_spec h1
  cases ht.symm.trans e1
  cases hc.symm.trans (Jvm.Lib.arrayAt_spec e2).1
  exact ⟨e3, gotT (Cond.eq_ints h1 (Term.int_eval n)) h⟩
end Words
end New
end Jvm.RoadKit
namespace Jvm.Pilot.@@N@@
open Jvm Jvm.ClassFile Sem Op Lib Jvm.Free Jvm.Stand Jvm.LawKit Jvm.RoadKit Bundle Jvm.Pilot.@@N@@.Jvm.D
theorem own_pd0 : parseMethodDescriptor "()V" = some ⟨[], none⟩ := by decide +kernel
theorem own_pd1 : parseMethodDescriptor "(JJJJIJJZ)V" = some ⟨[.long, .long, .long, .long, .int, .long, .long, .boolean], none⟩ := by decide +kernel
theorem own_pd2 : parseMethodDescriptor "()Z" = some ⟨[], some .boolean⟩ := by decide +kernel
def own_ex (c i f : Int64) (o : Int32) : Int32 := if c = 0 ∧ i = 0 ∧ f = 0 ∧ o = 0 then 1 else 0
theorem own_or (a b : Int64) : (a ||| b) = 0 ↔ a = 0 ∧ b = 0 := by
  simp only [← Int64.toBitVec_inj, Int64.toBitVec_or]
  show a.toBitVec ||| b.toBitVec = 0#64 ↔ a.toBitVec = 0#64 ∧ b.toBitVec = 0#64
  exact BitVec.or_eq_zero_iff
theorem own_exL (c i f : Int64) (o : Int32) (ho : o = 0 ∨ o = 1) : own_ex c i f (nar .boolean o) = if ((c ||| i) ||| f) = (0 : Int64) ∧ o = 0 then 1 else 0 := by
  have e : nar .boolean o = o := by rcases ho with rfl | rfl <;> rfl
  rw [e]
  unfold own_ex
  simp only [own_or, and_assoc]
theorem d1_0 : decode jdk_30_method_1_code 0 = .ok (.aload_n 0, 1) := by decide +kernel
theorem d1_1 : decode jdk_30_method_1_code 1 = .ok (.invokespecial 1, 3) := by decide +kernel
theorem d1_4 : decode jdk_30_method_1_code 4 = .ok (.return_, 1) := by decide +kernel
theorem pn_rm1 : plainFor (⟨"java/lang/Record", "<init>", "()V"⟩ : MethodName) = true := by decide +kernel
theorem ef_rm1 (m : MethodId) (x0 : Addr) : entryFrame m #[(.ref x0)] 1 = mkF m 0 #[.val (.ref x0)] [] := by first | (simp [entryFrame, mkF, argsToLocals, Value.category]; done) | rfl
set_option maxRecDepth 65536 in
set_option maxHeartbeats 40000000 in
theorem rm1 (l : Launch) (Z : State) (a0 : Array Value) (hw : ∀ d ∈ tables_1, d.before a0 Z = true) (r0 : Addr) (h0 : Heap) :
    own_Met l Z (⟨"java/lang/Record", "<init>", "()V"⟩ : MethodName) jdk_30_method_1_code 1 none [] ({ frames := 1, cells := 0, slots := 0, locals := 12 } : Room) #[(.ref r0)] h0 (fun v h L => v = none ∧ L = [] ∧ h = h0) := by
  refine own_body pn_rm1 ?_
  intro p e s m below meth c s₁ hx hby hml hown hnm hret hlk hZ X0 e0 G hG
  replace hml : c.maxLocals = 1 := hml
  replace hown : s.vm.findClass "java/lang/Record" = some m.cls := hown
  rw [ef_rm1]
  show own_Go p e below G (s₁.setTop (mkF m 0 #[.val (.ref r0)] []))
  refine own_st (fun t k => XS.aloadN X0.here hx rfl (hb hby d1_0) rfl rfl  k) ?_
  show own_Go p e below G (s₁.setTop (mkF m 1 #[.val (.ref r0)] [(.ref r0)]))
  obtain ⟨T1, X1, e1, st1⟩ := initO X0 hx hZ hown (hw _ (List.mem_of_getElem? (i := 11) rfl)) (hw _ (List.mem_of_getElem? (i := 12) rfl)) (hw _ (List.mem_of_getElem? (i := 13) rfl)) e0 (g := (mkF m 1 #[.val (.ref r0)] [(.ref r0)])) rfl (by rw [hml]; rfl) rfl (hb hby d1_1) (by decide) (W := 0) (by show 2 * 0 + _ ≤ _; exact Nat.le_of_eq rfl) (by decide)
  refine own_st st1 ?_
  show own_Go p e below G (T1.setTop (mkF m 4 #[.val (.ref r0)] []))
  rw [hG]
  exact own_retV X1 hx hlk hret (hb hby d1_4) ⟨rfl, rfl, e1⟩ (by decide) (by decide)
theorem d2_0 : decode prog_57_method_1_code 0 = .ok (.aload_n 0, 1) := by decide +kernel
theorem d2_1 : decode prog_57_method_1_code 1 = .ok (.invokespecial 1, 3) := by decide +kernel
theorem d2_4 : decode prog_57_method_1_code 4 = .ok (.aload_n 0, 1) := by decide +kernel
theorem d2_5 : decode prog_57_method_1_code 5 = .ok (.lload_n 1, 1) := by decide +kernel
theorem d2_6 : decode prog_57_method_1_code 6 = .ok (.putfield 7, 3) := by decide +kernel
theorem d2_9 : decode prog_57_method_1_code 9 = .ok (.aload_n 0, 1) := by decide +kernel
theorem d2_10 : decode prog_57_method_1_code 10 = .ok (.lload_n 3, 1) := by decide +kernel
theorem d2_11 : decode prog_57_method_1_code 11 = .ok (.putfield 13, 3) := by decide +kernel
theorem d2_14 : decode prog_57_method_1_code 14 = .ok (.aload_n 0, 1) := by decide +kernel
theorem d2_15 : decode prog_57_method_1_code 15 = .ok (.lload 5, 2) := by decide +kernel
theorem d2_17 : decode prog_57_method_1_code 17 = .ok (.putfield 16, 3) := by decide +kernel
theorem d2_20 : decode prog_57_method_1_code 20 = .ok (.aload_n 0, 1) := by decide +kernel
theorem d2_21 : decode prog_57_method_1_code 21 = .ok (.lload 7, 2) := by decide +kernel
theorem d2_23 : decode prog_57_method_1_code 23 = .ok (.putfield 19, 3) := by decide +kernel
theorem d2_26 : decode prog_57_method_1_code 26 = .ok (.aload_n 0, 1) := by decide +kernel
theorem d2_27 : decode prog_57_method_1_code 27 = .ok (.iload 9, 2) := by decide +kernel
theorem d2_29 : decode prog_57_method_1_code 29 = .ok (.putfield 22, 3) := by decide +kernel
theorem d2_32 : decode prog_57_method_1_code 32 = .ok (.aload_n 0, 1) := by decide +kernel
theorem d2_33 : decode prog_57_method_1_code 33 = .ok (.lload 10, 2) := by decide +kernel
theorem d2_35 : decode prog_57_method_1_code 35 = .ok (.putfield 26, 3) := by decide +kernel
theorem d2_38 : decode prog_57_method_1_code 38 = .ok (.aload_n 0, 1) := by decide +kernel
theorem d2_39 : decode prog_57_method_1_code 39 = .ok (.lload 12, 2) := by decide +kernel
theorem d2_41 : decode prog_57_method_1_code 41 = .ok (.putfield 29, 3) := by decide +kernel
theorem d2_44 : decode prog_57_method_1_code 44 = .ok (.aload_n 0, 1) := by decide +kernel
theorem d2_45 : decode prog_57_method_1_code 45 = .ok (.iload 14, 2) := by decide +kernel
theorem d2_47 : decode prog_57_method_1_code 47 = .ok (.putfield 32, 3) := by decide +kernel
theorem d2_50 : decode prog_57_method_1_code 50 = .ok (.return_, 1) := by decide +kernel
theorem pn_rm2 : plainFor (⟨"com/example/pathweave/pathweave/Explorer$Summary", "<init>", "(JJJJIJJZ)V"⟩ : MethodName) = true := by decide +kernel
theorem ef_rm2 (m : MethodId) (x0 : Addr) (x1 : Int64) (x2 : Int64) (x3 : Int64) (x4 : Int64) (x5 : Int32) (x6 : Int64) (x7 : Int64) (x8 : Int32) : entryFrame m #[(.ref x0), (.long x1), (.long x2), (.long x3), (.long x4), (.int x5), (.long x6), (.long x7), (.int x8)] 15 = mkF m 0 #[.val (.ref x0), .val (.long x1), .second, .val (.long x2), .second, .val (.long x3), .second, .val (.long x4), .second, .val (.int x5), .val (.long x6), .second, .val (.long x7), .second, .val (.int x8)] [] := by first | (simp [entryFrame, mkF, argsToLocals, Value.category]; done) | rfl
set_option maxRecDepth 65536 in
set_option maxHeartbeats 40000000 in
theorem rm2 (l : Launch) (Z : State) (a0 : Array Value) (hw : ∀ d ∈ tables_1, d.before a0 Z = true) (r0 : Addr) (q1 q2 q3 q4 : Int64) (p5 : Int32) (q6 q7 : Int64) (p8 : Int32) (h0 : Heap) (n0 : Nat) (Z0 : n0 ≤ h0.size) (g_r0 : n0 ≤ r0) (E_r0 : Exa Z h0 r0 "com/example/pathweave/pathweave/Explorer$Summary") (F_paths_r0 : Fld Z h0 r0 "com/example/pathweave/pathweave/Explorer$Summary" "paths" "J" (.long (0 : Int64))) (F_cut_r0 : Fld Z h0 r0 "com/example/pathweave/pathweave/Explorer$Summary" "cut" "J" (.long (0 : Int64))) (F_incomplete_r0 : Fld Z h0 r0 "com/example/pathweave/pathweave/Explorer$Summary" "incomplete" "J" (.long (0 : Int64))) (F_fixed_r0 : Fld Z h0 r0 "com/example/pathweave/pathweave/Explorer$Summary" "fixed" "J" (.long (0 : Int64))) (F_inputs_r0 : Fld Z h0 r0 "com/example/pathweave/pathweave/Explorer$Summary" "inputs" "I" (.int (0 : Int32))) (F_forward_r0 : Fld Z h0 r0 "com/example/pathweave/pathweave/Explorer$Summary" "forward" "J" (.long (0 : Int64))) (F_backward_r0 : Fld Z h0 r0 "com/example/pathweave/pathweave/Explorer$Summary" "backward" "J" (.long (0 : Int64))) (F_outOfTime_r0 : Fld Z h0 r0 "com/example/pathweave/pathweave/Explorer$Summary" "outOfTime" "Z" (.int (0 : Int32))) :
    own_Met l Z (⟨"com/example/pathweave/pathweave/Explorer$Summary", "<init>", "(JJJJIJJZ)V"⟩ : MethodName) prog_57_method_1_code 15 none [] ({ frames := 2, cells := 0, slots := 0, locals := 24 } : Room) #[(.ref r0), (.long q1), (.long q2), (.long q3), (.long q4), (.int p5), (.long q6), (.long q7), (.int p8)] h0 (fun v h L => v = none ∧ Fr n0 L ∧ Keep h0 h [r0] ∧ Exa Z h r0 "com/example/pathweave/pathweave/Explorer$Summary" ∧ Fld Z h r0 "com/example/pathweave/pathweave/Explorer$Summary" "cut" "J" (.long q2) ∧ Fld Z h r0 "com/example/pathweave/pathweave/Explorer$Summary" "incomplete" "J" (.long q3) ∧ Fld Z h r0 "com/example/pathweave/pathweave/Explorer$Summary" "fixed" "J" (.long q4) ∧ Fld Z h r0 "com/example/pathweave/pathweave/Explorer$Summary" "outOfTime" "Z" (.int (nar .boolean p8))) := by
  refine own_body pn_rm2 ?_
  intro p e s m below meth c s₁ hx hby hml hown hnm hret hlk hZ X0 e0 G hG
  replace hml : c.maxLocals = 15 := hml
  replace hown : s.vm.findClass "com/example/pathweave/pathweave/Explorer$Summary" = some m.cls := hown
  rw [ef_rm2]
  have N0 := Fr.nil n0
  have K0 := Keep.refl h0 [r0]
  show own_Go p e below G (s₁.setTop (mkF m 0 #[.val (.ref r0), .val (.long q1), .second, .val (.long q2), .second, .val (.long q3), .second, .val (.long q4), .second, .val (.int p5), .val (.long q6), .second, .val (.long q7), .second, .val (.int p8)] []))
  refine own_st (fun t k => XS.aloadN X0.here hx rfl (hb hby d2_0) rfl rfl  k) ?_
  show own_Go p e below G (s₁.setTop (mkF m 1 #[.val (.ref r0), .val (.long q1), .second, .val (.long q2), .second, .val (.long q3), .second, .val (.long q4), .second, .val (.int p5), .val (.long q6), .second, .val (.long q7), .second, .val (.int p8)] [(.ref r0)]))
  obtain ⟨v1, T1, L1, X1, Q1, st1⟩ := own_callC X0 hx hZ (y := (⟨"java/lang/Record", "<init>", "()V"⟩ : MethodName)) rfl hown (hw _ (List.mem_of_getElem? (i := 6) rfl)) (hw _ (List.mem_of_getElem? (i := 7) rfl)) (hw _ (List.mem_of_getElem? (i := 9) rfl)) (hw _ (List.mem_of_getElem? (i := 10) rfl)) (by decide) (W := 0) (rm1 l Z a0 hw r0 h0) (by decide) (by decide) e0 (g := (mkF m 1 #[.val (.ref r0), .val (.long q1), .second, .val (.long q2), .second, .val (.long q3), .second, .val (.long q4), .second, .val (.int p5), .val (.long q6), .second, .val (.long q7), .second, .val (.int p8)] [(.ref r0)])) rfl (by rw [hml]; rfl) (a := r0) (argsL := []) (rest := []) own_pd0 rfl rfl (by show 2 * 0 + _ ≤ _; exact Nat.le_of_eq rfl) (hb hby d2_1) rfl (by decide) (by decide)
  obtain ⟨rfl, rfl, e1⟩ := Q1
  simp only [List.append_nil, Nat.add_zero] at X1
  refine own_st st1 ?_
  show own_Go p e below G (T1.setTop (mkF m 4 #[.val (.ref r0), .val (.long q1), .second, .val (.long q2), .second, .val (.long q3), .second, .val (.long q4), .second, .val (.int p5), .val (.long q6), .second, .val (.long q7), .second, .val (.int p8)] []))
  refine own_st (fun t k => XS.aloadN X1.here hx rfl (hb hby d2_4) rfl rfl  k) ?_
  show own_Go p e below G (T1.setTop (mkF m 5 #[.val (.ref r0), .val (.long q1), .second, .val (.long q2), .second, .val (.long q3), .second, .val (.long q4), .second, .val (.int p5), .val (.long q6), .second, .val (.long q7), .second, .val (.int p8)] [(.ref r0)]))
  refine own_st (fun t k => XS.lloadN X1.here hx rfl (hb hby d2_5) rfl  k) ?_
  show own_Go p e below G (T1.setTop (mkF m 6 #[.val (.ref r0), .val (.long q1), .second, .val (.long q2), .second, .val (.long q3), .second, .val (.long q4), .second, .val (.int p5), .val (.long q6), .second, .val (.long q7), .second, .val (.int p8)] [(.long q1), (.ref r0)]))
  obtain ⟨T2, h2, X2, e2, W2, st2⟩ := putF X1 hx hZ hown (host := "") (Or.inl (hw _ (List.mem_of_getElem? (i := 14) rfl))) Via.refl e1 F_paths_r0 E_r0 (Or.inr ⟨(hw _ (List.mem_of_getElem? (i := 15) rfl)), rfl, hnm⟩) (hw _ (List.mem_of_getElem? (i := 1) rfl)) (ty := .long) (by decide) rfl rfl (g := (mkF m 6 #[.val (.ref r0), .val (.long q1), .second, .val (.long q2), .second, .val (.long q3), .second, .val (.long q4), .second, .val (.int p5), .val (.long q6), .second, .val (.long q7), .second, .val (.int p8)] [(.long q1), (.ref r0)])) rfl rfl (hb hby d2_6)
  replace E_r0 := E_r0.wr W2
  replace F_paths_r0 := F_paths_r0.same W2
  replace F_cut_r0 := F_cut_r0.other W2 (Or.inr (slot_ne (Or.inr (hw _ (List.mem_of_getElem? (i := 17) rfl))) (Or.inr (hw _ (List.mem_of_getElem? (i := 15) rfl))) (by decide) (t := .long) (t' := .long) (by decide) (by decide)))
  replace F_incomplete_r0 := F_incomplete_r0.other W2 (Or.inr (slot_ne (Or.inr (hw _ (List.mem_of_getElem? (i := 19) rfl))) (Or.inr (hw _ (List.mem_of_getElem? (i := 15) rfl))) (by decide) (t := .long) (t' := .long) (by decide) (by decide)))
  replace F_fixed_r0 := F_fixed_r0.other W2 (Or.inr (slot_ne (Or.inr (hw _ (List.mem_of_getElem? (i := 21) rfl))) (Or.inr (hw _ (List.mem_of_getElem? (i := 15) rfl))) (by decide) (t := .long) (t' := .long) (by decide) (by decide)))
  replace F_inputs_r0 := F_inputs_r0.other W2 (Or.inr (slot_ne (Or.inr (hw _ (List.mem_of_getElem? (i := 23) rfl))) (Or.inr (hw _ (List.mem_of_getElem? (i := 15) rfl))) (by decide) (t := .int) (t' := .long) (by decide) (by decide)))
  replace F_forward_r0 := F_forward_r0.other W2 (Or.inr (slot_ne (Or.inr (hw _ (List.mem_of_getElem? (i := 25) rfl))) (Or.inr (hw _ (List.mem_of_getElem? (i := 15) rfl))) (by decide) (t := .long) (t' := .long) (by decide) (by decide)))
  replace F_backward_r0 := F_backward_r0.other W2 (Or.inr (slot_ne (Or.inr (hw _ (List.mem_of_getElem? (i := 27) rfl))) (Or.inr (hw _ (List.mem_of_getElem? (i := 15) rfl))) (by decide) (t := .long) (t' := .long) (by decide) (by decide)))
  replace F_outOfTime_r0 := F_outOfTime_r0.other W2 (Or.inr (slot_ne (Or.inr (hw _ (List.mem_of_getElem? (i := 29) rfl))) (Or.inr (hw _ (List.mem_of_getElem? (i := 15) rfl))) (by decide) (t := .boolean) (t' := .long) (by decide) (by decide)))
  replace Z0 := Nat.le_trans Z0 (Keep.of_wr W2).1
  replace N0 := Fr.snoc X2 N0 g_r0
  replace K0 := K0.wr W2 (Or.inl (List.mem_of_getElem? (i := 0) rfl))
  refine own_st st2 ?_
  show own_Go p e below G (T2.setTop (mkF m 9 #[.val (.ref r0), .val (.long q1), .second, .val (.long q2), .second, .val (.long q3), .second, .val (.long q4), .second, .val (.int p5), .val (.long q6), .second, .val (.long q7), .second, .val (.int p8)] []))
  refine own_st (fun t k => XS.aloadN X2.here hx rfl (hb hby d2_9) rfl rfl  k) ?_
  show own_Go p e below G (T2.setTop (mkF m 10 #[.val (.ref r0), .val (.long q1), .second, .val (.long q2), .second, .val (.long q3), .second, .val (.long q4), .second, .val (.int p5), .val (.long q6), .second, .val (.long q7), .second, .val (.int p8)] [(.ref r0)]))
  refine own_st (fun t k => XS.lloadN X2.here hx rfl (hb hby d2_10) rfl  k) ?_
  show own_Go p e below G (T2.setTop (mkF m 11 #[.val (.ref r0), .val (.long q1), .second, .val (.long q2), .second, .val (.long q3), .second, .val (.long q4), .second, .val (.int p5), .val (.long q6), .second, .val (.long q7), .second, .val (.int p8)] [(.long q2), (.ref r0)]))
  obtain ⟨T3, h3, X3, e3, W3, st3⟩ := putF X2 hx hZ hown (host := "") (Or.inl (hw _ (List.mem_of_getElem? (i := 16) rfl))) Via.refl e2 F_cut_r0 E_r0 (Or.inr ⟨(hw _ (List.mem_of_getElem? (i := 17) rfl)), rfl, hnm⟩) (hw _ (List.mem_of_getElem? (i := 1) rfl)) (ty := .long) (by decide) rfl rfl (g := (mkF m 11 #[.val (.ref r0), .val (.long q1), .second, .val (.long q2), .second, .val (.long q3), .second, .val (.long q4), .second, .val (.int p5), .val (.long q6), .second, .val (.long q7), .second, .val (.int p8)] [(.long q2), (.ref r0)])) rfl rfl (hb hby d2_11)
  replace E_r0 := E_r0.wr W3
  replace F_paths_r0 := F_paths_r0.other W3 (Or.inr (slot_ne (Or.inr (hw _ (List.mem_of_getElem? (i := 15) rfl))) (Or.inr (hw _ (List.mem_of_getElem? (i := 17) rfl))) (by decide) (t := .long) (t' := .long) (by decide) (by decide)))
  replace F_cut_r0 := F_cut_r0.same W3
  replace F_incomplete_r0 := F_incomplete_r0.other W3 (Or.inr (slot_ne (Or.inr (hw _ (List.mem_of_getElem? (i := 19) rfl))) (Or.inr (hw _ (List.mem_of_getElem? (i := 17) rfl))) (by decide) (t := .long) (t' := .long) (by decide) (by decide)))
  replace F_fixed_r0 := F_fixed_r0.other W3 (Or.inr (slot_ne (Or.inr (hw _ (List.mem_of_getElem? (i := 21) rfl))) (Or.inr (hw _ (List.mem_of_getElem? (i := 17) rfl))) (by decide) (t := .long) (t' := .long) (by decide) (by decide)))
  replace F_inputs_r0 := F_inputs_r0.other W3 (Or.inr (slot_ne (Or.inr (hw _ (List.mem_of_getElem? (i := 23) rfl))) (Or.inr (hw _ (List.mem_of_getElem? (i := 17) rfl))) (by decide) (t := .int) (t' := .long) (by decide) (by decide)))
  replace F_forward_r0 := F_forward_r0.other W3 (Or.inr (slot_ne (Or.inr (hw _ (List.mem_of_getElem? (i := 25) rfl))) (Or.inr (hw _ (List.mem_of_getElem? (i := 17) rfl))) (by decide) (t := .long) (t' := .long) (by decide) (by decide)))
  replace F_backward_r0 := F_backward_r0.other W3 (Or.inr (slot_ne (Or.inr (hw _ (List.mem_of_getElem? (i := 27) rfl))) (Or.inr (hw _ (List.mem_of_getElem? (i := 17) rfl))) (by decide) (t := .long) (t' := .long) (by decide) (by decide)))
  replace F_outOfTime_r0 := F_outOfTime_r0.other W3 (Or.inr (slot_ne (Or.inr (hw _ (List.mem_of_getElem? (i := 29) rfl))) (Or.inr (hw _ (List.mem_of_getElem? (i := 17) rfl))) (by decide) (t := .boolean) (t' := .long) (by decide) (by decide)))
  replace Z0 := Nat.le_trans Z0 (Keep.of_wr W3).1
  replace N0 := Fr.snoc X3 N0 g_r0
  replace K0 := K0.wr W3 (Or.inl (List.mem_of_getElem? (i := 0) rfl))
  refine own_st st3 ?_
  show own_Go p e below G (T3.setTop (mkF m 14 #[.val (.ref r0), .val (.long q1), .second, .val (.long q2), .second, .val (.long q3), .second, .val (.long q4), .second, .val (.int p5), .val (.long q6), .second, .val (.long q7), .second, .val (.int p8)] []))
  refine own_st (fun t k => XS.aloadN X3.here hx rfl (hb hby d2_14) rfl rfl  k) ?_
  show own_Go p e below G (T3.setTop (mkF m 15 #[.val (.ref r0), .val (.long q1), .second, .val (.long q2), .second, .val (.long q3), .second, .val (.long q4), .second, .val (.int p5), .val (.long q6), .second, .val (.long q7), .second, .val (.int p8)] [(.ref r0)]))
  refine own_st (fun t k => XS.lload X3.here hx rfl (hb hby d2_15) rfl  k) ?_
  show own_Go p e below G (T3.setTop (mkF m 17 #[.val (.ref r0), .val (.long q1), .second, .val (.long q2), .second, .val (.long q3), .second, .val (.long q4), .second, .val (.int p5), .val (.long q6), .second, .val (.long q7), .second, .val (.int p8)] [(.long q3), (.ref r0)]))
  obtain ⟨T4, h4, X4, e4, W4, st4⟩ := putF X3 hx hZ hown (host := "") (Or.inl (hw _ (List.mem_of_getElem? (i := 18) rfl))) Via.refl e3 F_incomplete_r0 E_r0 (Or.inr ⟨(hw _ (List.mem_of_getElem? (i := 19) rfl)), rfl, hnm⟩) (hw _ (List.mem_of_getElem? (i := 1) rfl)) (ty := .long) (by decide) rfl rfl (g := (mkF m 17 #[.val (.ref r0), .val (.long q1), .second, .val (.long q2), .second, .val (.long q3), .second, .val (.long q4), .second, .val (.int p5), .val (.long q6), .second, .val (.long q7), .second, .val (.int p8)] [(.long q3), (.ref r0)])) rfl rfl (hb hby d2_17)
  replace E_r0 := E_r0.wr W4
  replace F_paths_r0 := F_paths_r0.other W4 (Or.inr (slot_ne (Or.inr (hw _ (List.mem_of_getElem? (i := 15) rfl))) (Or.inr (hw _ (List.mem_of_getElem? (i := 19) rfl))) (by decide) (t := .long) (t' := .long) (by decide) (by decide)))
  replace F_cut_r0 := F_cut_r0.other W4 (Or.inr (slot_ne (Or.inr (hw _ (List.mem_of_getElem? (i := 17) rfl))) (Or.inr (hw _ (List.mem_of_getElem? (i := 19) rfl))) (by decide) (t := .long) (t' := .long) (by decide) (by decide)))
  replace F_incomplete_r0 := F_incomplete_r0.same W4
  replace F_fixed_r0 := F_fixed_r0.other W4 (Or.inr (slot_ne (Or.inr (hw _ (List.mem_of_getElem? (i := 21) rfl))) (Or.inr (hw _ (List.mem_of_getElem? (i := 19) rfl))) (by decide) (t := .long) (t' := .long) (by decide) (by decide)))
  replace F_inputs_r0 := F_inputs_r0.other W4 (Or.inr (slot_ne (Or.inr (hw _ (List.mem_of_getElem? (i := 23) rfl))) (Or.inr (hw _ (List.mem_of_getElem? (i := 19) rfl))) (by decide) (t := .int) (t' := .long) (by decide) (by decide)))
  replace F_forward_r0 := F_forward_r0.other W4 (Or.inr (slot_ne (Or.inr (hw _ (List.mem_of_getElem? (i := 25) rfl))) (Or.inr (hw _ (List.mem_of_getElem? (i := 19) rfl))) (by decide) (t := .long) (t' := .long) (by decide) (by decide)))
  replace F_backward_r0 := F_backward_r0.other W4 (Or.inr (slot_ne (Or.inr (hw _ (List.mem_of_getElem? (i := 27) rfl))) (Or.inr (hw _ (List.mem_of_getElem? (i := 19) rfl))) (by decide) (t := .long) (t' := .long) (by decide) (by decide)))
  replace F_outOfTime_r0 := F_outOfTime_r0.other W4 (Or.inr (slot_ne (Or.inr (hw _ (List.mem_of_getElem? (i := 29) rfl))) (Or.inr (hw _ (List.mem_of_getElem? (i := 19) rfl))) (by decide) (t := .boolean) (t' := .long) (by decide) (by decide)))
  replace Z0 := Nat.le_trans Z0 (Keep.of_wr W4).1
  replace N0 := Fr.snoc X4 N0 g_r0
  replace K0 := K0.wr W4 (Or.inl (List.mem_of_getElem? (i := 0) rfl))
  refine own_st st4 ?_
  show own_Go p e below G (T4.setTop (mkF m 20 #[.val (.ref r0), .val (.long q1), .second, .val (.long q2), .second, .val (.long q3), .second, .val (.long q4), .second, .val (.int p5), .val (.long q6), .second, .val (.long q7), .second, .val (.int p8)] []))
  refine own_st (fun t k => XS.aloadN X4.here hx rfl (hb hby d2_20) rfl rfl  k) ?_
  show own_Go p e below G (T4.setTop (mkF m 21 #[.val (.ref r0), .val (.long q1), .second, .val (.long q2), .second, .val (.long q3), .second, .val (.long q4), .second, .val (.int p5), .val (.long q6), .second, .val (.long q7), .second, .val (.int p8)] [(.ref r0)]))
  refine own_st (fun t k => XS.lload X4.here hx rfl (hb hby d2_21) rfl  k) ?_
  show own_Go p e below G (T4.setTop (mkF m 23 #[.val (.ref r0), .val (.long q1), .second, .val (.long q2), .second, .val (.long q3), .second, .val (.long q4), .second, .val (.int p5), .val (.long q6), .second, .val (.long q7), .second, .val (.int p8)] [(.long q4), (.ref r0)]))
  obtain ⟨T5, h5, X5, e5, W5, st5⟩ := putF X4 hx hZ hown (host := "") (Or.inl (hw _ (List.mem_of_getElem? (i := 20) rfl))) Via.refl e4 F_fixed_r0 E_r0 (Or.inr ⟨(hw _ (List.mem_of_getElem? (i := 21) rfl)), rfl, hnm⟩) (hw _ (List.mem_of_getElem? (i := 1) rfl)) (ty := .long) (by decide) rfl rfl (g := (mkF m 23 #[.val (.ref r0), .val (.long q1), .second, .val (.long q2), .second, .val (.long q3), .second, .val (.long q4), .second, .val (.int p5), .val (.long q6), .second, .val (.long q7), .second, .val (.int p8)] [(.long q4), (.ref r0)])) rfl rfl (hb hby d2_23)
  replace E_r0 := E_r0.wr W5
  replace F_paths_r0 := F_paths_r0.other W5 (Or.inr (slot_ne (Or.inr (hw _ (List.mem_of_getElem? (i := 15) rfl))) (Or.inr (hw _ (List.mem_of_getElem? (i := 21) rfl))) (by decide) (t := .long) (t' := .long) (by decide) (by decide)))
  replace F_cut_r0 := F_cut_r0.other W5 (Or.inr (slot_ne (Or.inr (hw _ (List.mem_of_getElem? (i := 17) rfl))) (Or.inr (hw _ (List.mem_of_getElem? (i := 21) rfl))) (by decide) (t := .long) (t' := .long) (by decide) (by decide)))
  replace F_incomplete_r0 := F_incomplete_r0.other W5 (Or.inr (slot_ne (Or.inr (hw _ (List.mem_of_getElem? (i := 19) rfl))) (Or.inr (hw _ (List.mem_of_getElem? (i := 21) rfl))) (by decide) (t := .long) (t' := .long) (by decide) (by decide)))
  replace F_fixed_r0 := F_fixed_r0.same W5
  replace F_inputs_r0 := F_inputs_r0.other W5 (Or.inr (slot_ne (Or.inr (hw _ (List.mem_of_getElem? (i := 23) rfl))) (Or.inr (hw _ (List.mem_of_getElem? (i := 21) rfl))) (by decide) (t := .int) (t' := .long) (by decide) (by decide)))
  replace F_forward_r0 := F_forward_r0.other W5 (Or.inr (slot_ne (Or.inr (hw _ (List.mem_of_getElem? (i := 25) rfl))) (Or.inr (hw _ (List.mem_of_getElem? (i := 21) rfl))) (by decide) (t := .long) (t' := .long) (by decide) (by decide)))
  replace F_backward_r0 := F_backward_r0.other W5 (Or.inr (slot_ne (Or.inr (hw _ (List.mem_of_getElem? (i := 27) rfl))) (Or.inr (hw _ (List.mem_of_getElem? (i := 21) rfl))) (by decide) (t := .long) (t' := .long) (by decide) (by decide)))
  replace F_outOfTime_r0 := F_outOfTime_r0.other W5 (Or.inr (slot_ne (Or.inr (hw _ (List.mem_of_getElem? (i := 29) rfl))) (Or.inr (hw _ (List.mem_of_getElem? (i := 21) rfl))) (by decide) (t := .boolean) (t' := .long) (by decide) (by decide)))
  replace Z0 := Nat.le_trans Z0 (Keep.of_wr W5).1
  replace N0 := Fr.snoc X5 N0 g_r0
  replace K0 := K0.wr W5 (Or.inl (List.mem_of_getElem? (i := 0) rfl))
  refine own_st st5 ?_
  show own_Go p e below G (T5.setTop (mkF m 26 #[.val (.ref r0), .val (.long q1), .second, .val (.long q2), .second, .val (.long q3), .second, .val (.long q4), .second, .val (.int p5), .val (.long q6), .second, .val (.long q7), .second, .val (.int p8)] []))
  refine own_st (fun t k => XS.aloadN X5.here hx rfl (hb hby d2_26) rfl rfl  k) ?_
  show own_Go p e below G (T5.setTop (mkF m 27 #[.val (.ref r0), .val (.long q1), .second, .val (.long q2), .second, .val (.long q3), .second, .val (.long q4), .second, .val (.int p5), .val (.long q6), .second, .val (.long q7), .second, .val (.int p8)] [(.ref r0)]))
  refine own_st (fun t k => XS.iload X5.here hx rfl (hb hby d2_27) rfl  k) ?_
  show own_Go p e below G (T5.setTop (mkF m 29 #[.val (.ref r0), .val (.long q1), .second, .val (.long q2), .second, .val (.long q3), .second, .val (.long q4), .second, .val (.int p5), .val (.long q6), .second, .val (.long q7), .second, .val (.int p8)] [(.int p5), (.ref r0)]))
  obtain ⟨T6, h6, X6, e6, W6, st6⟩ := putF X5 hx hZ hown (host := "") (Or.inl (hw _ (List.mem_of_getElem? (i := 22) rfl))) Via.refl e5 F_inputs_r0 E_r0 (Or.inr ⟨(hw _ (List.mem_of_getElem? (i := 23) rfl)), rfl, hnm⟩) (hw _ (List.mem_of_getElem? (i := 1) rfl)) (ty := .int) (by decide) rfl rfl (g := (mkF m 29 #[.val (.ref r0), .val (.long q1), .second, .val (.long q2), .second, .val (.long q3), .second, .val (.long q4), .second, .val (.int p5), .val (.long q6), .second, .val (.long q7), .second, .val (.int p8)] [(.int p5), (.ref r0)])) rfl rfl (hb hby d2_29)
  replace E_r0 := E_r0.wr W6
  replace F_paths_r0 := F_paths_r0.other W6 (Or.inr (slot_ne (Or.inr (hw _ (List.mem_of_getElem? (i := 15) rfl))) (Or.inr (hw _ (List.mem_of_getElem? (i := 23) rfl))) (by decide) (t := .long) (t' := .int) (by decide) (by decide)))
  replace F_cut_r0 := F_cut_r0.other W6 (Or.inr (slot_ne (Or.inr (hw _ (List.mem_of_getElem? (i := 17) rfl))) (Or.inr (hw _ (List.mem_of_getElem? (i := 23) rfl))) (by decide) (t := .long) (t' := .int) (by decide) (by decide)))
  replace F_incomplete_r0 := F_incomplete_r0.other W6 (Or.inr (slot_ne (Or.inr (hw _ (List.mem_of_getElem? (i := 19) rfl))) (Or.inr (hw _ (List.mem_of_getElem? (i := 23) rfl))) (by decide) (t := .long) (t' := .int) (by decide) (by decide)))
  replace F_fixed_r0 := F_fixed_r0.other W6 (Or.inr (slot_ne (Or.inr (hw _ (List.mem_of_getElem? (i := 21) rfl))) (Or.inr (hw _ (List.mem_of_getElem? (i := 23) rfl))) (by decide) (t := .long) (t' := .int) (by decide) (by decide)))
  replace F_inputs_r0 := F_inputs_r0.same W6
  replace F_forward_r0 := F_forward_r0.other W6 (Or.inr (slot_ne (Or.inr (hw _ (List.mem_of_getElem? (i := 25) rfl))) (Or.inr (hw _ (List.mem_of_getElem? (i := 23) rfl))) (by decide) (t := .long) (t' := .int) (by decide) (by decide)))
  replace F_backward_r0 := F_backward_r0.other W6 (Or.inr (slot_ne (Or.inr (hw _ (List.mem_of_getElem? (i := 27) rfl))) (Or.inr (hw _ (List.mem_of_getElem? (i := 23) rfl))) (by decide) (t := .long) (t' := .int) (by decide) (by decide)))
  replace F_outOfTime_r0 := F_outOfTime_r0.other W6 (Or.inr (slot_ne (Or.inr (hw _ (List.mem_of_getElem? (i := 29) rfl))) (Or.inr (hw _ (List.mem_of_getElem? (i := 23) rfl))) (by decide) (t := .boolean) (t' := .int) (by decide) (by decide)))
  replace Z0 := Nat.le_trans Z0 (Keep.of_wr W6).1
  replace N0 := Fr.snoc X6 N0 g_r0
  replace K0 := K0.wr W6 (Or.inl (List.mem_of_getElem? (i := 0) rfl))
  refine own_st st6 ?_
  show own_Go p e below G (T6.setTop (mkF m 32 #[.val (.ref r0), .val (.long q1), .second, .val (.long q2), .second, .val (.long q3), .second, .val (.long q4), .second, .val (.int p5), .val (.long q6), .second, .val (.long q7), .second, .val (.int p8)] []))
  refine own_st (fun t k => XS.aloadN X6.here hx rfl (hb hby d2_32) rfl rfl  k) ?_
  show own_Go p e below G (T6.setTop (mkF m 33 #[.val (.ref r0), .val (.long q1), .second, .val (.long q2), .second, .val (.long q3), .second, .val (.long q4), .second, .val (.int p5), .val (.long q6), .second, .val (.long q7), .second, .val (.int p8)] [(.ref r0)]))
  refine own_st (fun t k => XS.lload X6.here hx rfl (hb hby d2_33) rfl  k) ?_
  show own_Go p e below G (T6.setTop (mkF m 35 #[.val (.ref r0), .val (.long q1), .second, .val (.long q2), .second, .val (.long q3), .second, .val (.long q4), .second, .val (.int p5), .val (.long q6), .second, .val (.long q7), .second, .val (.int p8)] [(.long q6), (.ref r0)]))
  obtain ⟨T7, h7, X7, e7, W7, st7⟩ := putF X6 hx hZ hown (host := "") (Or.inl (hw _ (List.mem_of_getElem? (i := 24) rfl))) Via.refl e6 F_forward_r0 E_r0 (Or.inr ⟨(hw _ (List.mem_of_getElem? (i := 25) rfl)), rfl, hnm⟩) (hw _ (List.mem_of_getElem? (i := 1) rfl)) (ty := .long) (by decide) rfl rfl (g := (mkF m 35 #[.val (.ref r0), .val (.long q1), .second, .val (.long q2), .second, .val (.long q3), .second, .val (.long q4), .second, .val (.int p5), .val (.long q6), .second, .val (.long q7), .second, .val (.int p8)] [(.long q6), (.ref r0)])) rfl rfl (hb hby d2_35)
  replace E_r0 := E_r0.wr W7
  replace F_paths_r0 := F_paths_r0.other W7 (Or.inr (slot_ne (Or.inr (hw _ (List.mem_of_getElem? (i := 15) rfl))) (Or.inr (hw _ (List.mem_of_getElem? (i := 25) rfl))) (by decide) (t := .long) (t' := .long) (by decide) (by decide)))
  replace F_cut_r0 := F_cut_r0.other W7 (Or.inr (slot_ne (Or.inr (hw _ (List.mem_of_getElem? (i := 17) rfl))) (Or.inr (hw _ (List.mem_of_getElem? (i := 25) rfl))) (by decide) (t := .long) (t' := .long) (by decide) (by decide)))
  replace F_incomplete_r0 := F_incomplete_r0.other W7 (Or.inr (slot_ne (Or.inr (hw _ (List.mem_of_getElem? (i := 19) rfl))) (Or.inr (hw _ (List.mem_of_getElem? (i := 25) rfl))) (by decide) (t := .long) (t' := .long) (by decide) (by decide)))
  replace F_fixed_r0 := F_fixed_r0.other W7 (Or.inr (slot_ne (Or.inr (hw _ (List.mem_of_getElem? (i := 21) rfl))) (Or.inr (hw _ (List.mem_of_getElem? (i := 25) rfl))) (by decide) (t := .long) (t' := .long) (by decide) (by decide)))
  replace F_inputs_r0 := F_inputs_r0.other W7 (Or.inr (slot_ne (Or.inr (hw _ (List.mem_of_getElem? (i := 23) rfl))) (Or.inr (hw _ (List.mem_of_getElem? (i := 25) rfl))) (by decide) (t := .int) (t' := .long) (by decide) (by decide)))
  replace F_forward_r0 := F_forward_r0.same W7
  replace F_backward_r0 := F_backward_r0.other W7 (Or.inr (slot_ne (Or.inr (hw _ (List.mem_of_getElem? (i := 27) rfl))) (Or.inr (hw _ (List.mem_of_getElem? (i := 25) rfl))) (by decide) (t := .long) (t' := .long) (by decide) (by decide)))
  replace F_outOfTime_r0 := F_outOfTime_r0.other W7 (Or.inr (slot_ne (Or.inr (hw _ (List.mem_of_getElem? (i := 29) rfl))) (Or.inr (hw _ (List.mem_of_getElem? (i := 25) rfl))) (by decide) (t := .boolean) (t' := .long) (by decide) (by decide)))
  replace Z0 := Nat.le_trans Z0 (Keep.of_wr W7).1
  replace N0 := Fr.snoc X7 N0 g_r0
  replace K0 := K0.wr W7 (Or.inl (List.mem_of_getElem? (i := 0) rfl))
  refine own_st st7 ?_
  show own_Go p e below G (T7.setTop (mkF m 38 #[.val (.ref r0), .val (.long q1), .second, .val (.long q2), .second, .val (.long q3), .second, .val (.long q4), .second, .val (.int p5), .val (.long q6), .second, .val (.long q7), .second, .val (.int p8)] []))
  refine own_st (fun t k => XS.aloadN X7.here hx rfl (hb hby d2_38) rfl rfl  k) ?_
  show own_Go p e below G (T7.setTop (mkF m 39 #[.val (.ref r0), .val (.long q1), .second, .val (.long q2), .second, .val (.long q3), .second, .val (.long q4), .second, .val (.int p5), .val (.long q6), .second, .val (.long q7), .second, .val (.int p8)] [(.ref r0)]))
  refine own_st (fun t k => XS.lload X7.here hx rfl (hb hby d2_39) rfl  k) ?_
  show own_Go p e below G (T7.setTop (mkF m 41 #[.val (.ref r0), .val (.long q1), .second, .val (.long q2), .second, .val (.long q3), .second, .val (.long q4), .second, .val (.int p5), .val (.long q6), .second, .val (.long q7), .second, .val (.int p8)] [(.long q7), (.ref r0)]))
  obtain ⟨T8, h8, X8, e8, W8, st8⟩ := putF X7 hx hZ hown (host := "") (Or.inl (hw _ (List.mem_of_getElem? (i := 26) rfl))) Via.refl e7 F_backward_r0 E_r0 (Or.inr ⟨(hw _ (List.mem_of_getElem? (i := 27) rfl)), rfl, hnm⟩) (hw _ (List.mem_of_getElem? (i := 1) rfl)) (ty := .long) (by decide) rfl rfl (g := (mkF m 41 #[.val (.ref r0), .val (.long q1), .second, .val (.long q2), .second, .val (.long q3), .second, .val (.long q4), .second, .val (.int p5), .val (.long q6), .second, .val (.long q7), .second, .val (.int p8)] [(.long q7), (.ref r0)])) rfl rfl (hb hby d2_41)
  replace E_r0 := E_r0.wr W8
  replace F_paths_r0 := F_paths_r0.other W8 (Or.inr (slot_ne (Or.inr (hw _ (List.mem_of_getElem? (i := 15) rfl))) (Or.inr (hw _ (List.mem_of_getElem? (i := 27) rfl))) (by decide) (t := .long) (t' := .long) (by decide) (by decide)))
  replace F_cut_r0 := F_cut_r0.other W8 (Or.inr (slot_ne (Or.inr (hw _ (List.mem_of_getElem? (i := 17) rfl))) (Or.inr (hw _ (List.mem_of_getElem? (i := 27) rfl))) (by decide) (t := .long) (t' := .long) (by decide) (by decide)))
  replace F_incomplete_r0 := F_incomplete_r0.other W8 (Or.inr (slot_ne (Or.inr (hw _ (List.mem_of_getElem? (i := 19) rfl))) (Or.inr (hw _ (List.mem_of_getElem? (i := 27) rfl))) (by decide) (t := .long) (t' := .long) (by decide) (by decide)))
  replace F_fixed_r0 := F_fixed_r0.other W8 (Or.inr (slot_ne (Or.inr (hw _ (List.mem_of_getElem? (i := 21) rfl))) (Or.inr (hw _ (List.mem_of_getElem? (i := 27) rfl))) (by decide) (t := .long) (t' := .long) (by decide) (by decide)))
  replace F_inputs_r0 := F_inputs_r0.other W8 (Or.inr (slot_ne (Or.inr (hw _ (List.mem_of_getElem? (i := 23) rfl))) (Or.inr (hw _ (List.mem_of_getElem? (i := 27) rfl))) (by decide) (t := .int) (t' := .long) (by decide) (by decide)))
  replace F_forward_r0 := F_forward_r0.other W8 (Or.inr (slot_ne (Or.inr (hw _ (List.mem_of_getElem? (i := 25) rfl))) (Or.inr (hw _ (List.mem_of_getElem? (i := 27) rfl))) (by decide) (t := .long) (t' := .long) (by decide) (by decide)))
  replace F_backward_r0 := F_backward_r0.same W8
  replace F_outOfTime_r0 := F_outOfTime_r0.other W8 (Or.inr (slot_ne (Or.inr (hw _ (List.mem_of_getElem? (i := 29) rfl))) (Or.inr (hw _ (List.mem_of_getElem? (i := 27) rfl))) (by decide) (t := .boolean) (t' := .long) (by decide) (by decide)))
  replace Z0 := Nat.le_trans Z0 (Keep.of_wr W8).1
  replace N0 := Fr.snoc X8 N0 g_r0
  replace K0 := K0.wr W8 (Or.inl (List.mem_of_getElem? (i := 0) rfl))
  refine own_st st8 ?_
  show own_Go p e below G (T8.setTop (mkF m 44 #[.val (.ref r0), .val (.long q1), .second, .val (.long q2), .second, .val (.long q3), .second, .val (.long q4), .second, .val (.int p5), .val (.long q6), .second, .val (.long q7), .second, .val (.int p8)] []))
  refine own_st (fun t k => XS.aloadN X8.here hx rfl (hb hby d2_44) rfl rfl  k) ?_
  show own_Go p e below G (T8.setTop (mkF m 45 #[.val (.ref r0), .val (.long q1), .second, .val (.long q2), .second, .val (.long q3), .second, .val (.long q4), .second, .val (.int p5), .val (.long q6), .second, .val (.long q7), .second, .val (.int p8)] [(.ref r0)]))
  refine own_st (fun t k => XS.iload X8.here hx rfl (hb hby d2_45) rfl  k) ?_
  show own_Go p e below G (T8.setTop (mkF m 47 #[.val (.ref r0), .val (.long q1), .second, .val (.long q2), .second, .val (.long q3), .second, .val (.long q4), .second, .val (.int p5), .val (.long q6), .second, .val (.long q7), .second, .val (.int p8)] [(.int p8), (.ref r0)]))
  obtain ⟨T9, h9, X9, e9, W9, st9⟩ := putFN X8 hx hZ hown (hw _ (List.mem_of_getElem? (i := 28) rfl)) Via.refl e8 F_outOfTime_r0 E_r0 (Or.inr ⟨(hw _ (List.mem_of_getElem? (i := 29) rfl)), rfl, hnm⟩) (hw _ (List.mem_of_getElem? (i := 1) rfl)) (ty := .boolean) (v' := (.int (nar .boolean p8))) (by decide) rfl (fits_nar_bool _) (g := (mkF m 47 #[.val (.ref r0), .val (.long q1), .second, .val (.long q2), .second, .val (.long q3), .second, .val (.long q4), .second, .val (.int p5), .val (.long q6), .second, .val (.long q7), .second, .val (.int p8)] [(.int p8), (.ref r0)])) rfl rfl (hb hby d2_47)
  replace E_r0 := E_r0.wr W9
  replace F_paths_r0 := F_paths_r0.other W9 (Or.inr (slot_ne (Or.inr (hw _ (List.mem_of_getElem? (i := 15) rfl))) (Or.inr (hw _ (List.mem_of_getElem? (i := 29) rfl))) (by decide) (t := .long) (t' := .boolean) (by decide) (by decide)))
  replace F_cut_r0 := F_cut_r0.other W9 (Or.inr (slot_ne (Or.inr (hw _ (List.mem_of_getElem? (i := 17) rfl))) (Or.inr (hw _ (List.mem_of_getElem? (i := 29) rfl))) (by decide) (t := .long) (t' := .boolean) (by decide) (by decide)))
  replace F_incomplete_r0 := F_incomplete_r0.other W9 (Or.inr (slot_ne (Or.inr (hw _ (List.mem_of_getElem? (i := 19) rfl))) (Or.inr (hw _ (List.mem_of_getElem? (i := 29) rfl))) (by decide) (t := .long) (t' := .boolean) (by decide) (by decide)))
  replace F_fixed_r0 := F_fixed_r0.other W9 (Or.inr (slot_ne (Or.inr (hw _ (List.mem_of_getElem? (i := 21) rfl))) (Or.inr (hw _ (List.mem_of_getElem? (i := 29) rfl))) (by decide) (t := .long) (t' := .boolean) (by decide) (by decide)))
  replace F_inputs_r0 := F_inputs_r0.other W9 (Or.inr (slot_ne (Or.inr (hw _ (List.mem_of_getElem? (i := 23) rfl))) (Or.inr (hw _ (List.mem_of_getElem? (i := 29) rfl))) (by decide) (t := .int) (t' := .boolean) (by decide) (by decide)))
  replace F_forward_r0 := F_forward_r0.other W9 (Or.inr (slot_ne (Or.inr (hw _ (List.mem_of_getElem? (i := 25) rfl))) (Or.inr (hw _ (List.mem_of_getElem? (i := 29) rfl))) (by decide) (t := .long) (t' := .boolean) (by decide) (by decide)))
  replace F_backward_r0 := F_backward_r0.other W9 (Or.inr (slot_ne (Or.inr (hw _ (List.mem_of_getElem? (i := 27) rfl))) (Or.inr (hw _ (List.mem_of_getElem? (i := 29) rfl))) (by decide) (t := .long) (t' := .boolean) (by decide) (by decide)))
  replace F_outOfTime_r0 := F_outOfTime_r0.same W9
  replace Z0 := Nat.le_trans Z0 (Keep.of_wr W9).1
  replace N0 := Fr.snoc X9 N0 g_r0
  replace K0 := K0.wr W9 (Or.inl (List.mem_of_getElem? (i := 0) rfl))
  refine own_st st9 ?_
  show own_Go p e below G (T9.setTop (mkF m 50 #[.val (.ref r0), .val (.long q1), .second, .val (.long q2), .second, .val (.long q3), .second, .val (.long q4), .second, .val (.int p5), .val (.long q6), .second, .val (.long q7), .second, .val (.int p8)] []))
  rw [hG]
  exact own_retV X9 hx hlk hret (hb hby d2_50) (by rw [e9]; exact ⟨rfl, N0, K0, E_r0, F_cut_r0, F_incomplete_r0, F_fixed_r0, F_outOfTime_r0⟩) (by decide) (by decide)
theorem d3_0 : decode prog_57_method_2_code 0 = .ok (.aload_n 0, 1) := by decide +kernel
theorem d3_1 : decode prog_57_method_2_code 1 = .ok (.getfield 13, 3) := by decide +kernel
theorem d3_4 : decode prog_57_method_2_code 4 = .ok (.lconst 0, 1) := by decide +kernel
theorem d3_5 : decode prog_57_method_2_code 5 = .ok (.lcmp, 1) := by decide +kernel
theorem d3_6 : decode prog_57_method_2_code 6 = .ok (.ifCond .ne 32, 3) := by decide +kernel
theorem d3_9 : decode prog_57_method_2_code 9 = .ok (.aload_n 0, 1) := by decide +kernel
theorem d3_10 : decode prog_57_method_2_code 10 = .ok (.getfield 16, 3) := by decide +kernel
theorem d3_13 : decode prog_57_method_2_code 13 = .ok (.lconst 0, 1) := by decide +kernel
theorem d3_14 : decode prog_57_method_2_code 14 = .ok (.lcmp, 1) := by decide +kernel
theorem d3_15 : decode prog_57_method_2_code 15 = .ok (.ifCond .ne 23, 3) := by decide +kernel
theorem d3_18 : decode prog_57_method_2_code 18 = .ok (.aload_n 0, 1) := by decide +kernel
theorem d3_19 : decode prog_57_method_2_code 19 = .ok (.getfield 19, 3) := by decide +kernel
theorem d3_22 : decode prog_57_method_2_code 22 = .ok (.lconst 0, 1) := by decide +kernel
theorem d3_23 : decode prog_57_method_2_code 23 = .ok (.lcmp, 1) := by decide +kernel
theorem d3_24 : decode prog_57_method_2_code 24 = .ok (.ifCond .ne 14, 3) := by decide +kernel
theorem d3_27 : decode prog_57_method_2_code 27 = .ok (.aload_n 0, 1) := by decide +kernel
theorem d3_28 : decode prog_57_method_2_code 28 = .ok (.getfield 32, 3) := by decide +kernel
theorem d3_31 : decode prog_57_method_2_code 31 = .ok (.ifCond .ne 7, 3) := by decide +kernel
theorem d3_34 : decode prog_57_method_2_code 34 = .ok (.iconst 1, 1) := by decide +kernel
theorem d3_35 : decode prog_57_method_2_code 35 = .ok (.goto 4, 3) := by decide +kernel
theorem d3_38 : decode prog_57_method_2_code 38 = .ok (.iconst 0, 1) := by decide +kernel
theorem d3_39 : decode prog_57_method_2_code 39 = .ok (.ireturn, 1) := by decide +kernel
theorem pn_rm3 : plainFor (⟨"com/example/pathweave/pathweave/Explorer$Summary", "exhaustive", "()Z"⟩ : MethodName) = true := by decide +kernel
theorem ef_rm3 (m : MethodId) (x0 : Addr) : entryFrame m #[(.ref x0)] 1 = mkF m 0 #[.val (.ref x0)] [] := by first | (simp [entryFrame, mkF, argsToLocals, Value.category]; done) | rfl
set_option maxRecDepth 65536 in
set_option maxHeartbeats 40000000 in
theorem rm3 (l : Launch) (Z : State) (a0 : Array Value) (hw : ∀ d ∈ tables_1, d.before a0 Z = true) (r0 : Addr) (c0 i0 f0 : Int64) (o0 : Int32) (h0 : Heap) (F_cut : Fld Z h0 r0 "com/example/pathweave/pathweave/Explorer$Summary" "cut" "J" (.long c0)) (F_incomplete : Fld Z h0 r0 "com/example/pathweave/pathweave/Explorer$Summary" "incomplete" "J" (.long i0)) (F_fixed : Fld Z h0 r0 "com/example/pathweave/pathweave/Explorer$Summary" "fixed" "J" (.long f0)) (F_outOfTime : Fld Z h0 r0 "com/example/pathweave/pathweave/Explorer$Summary" "outOfTime" "Z" (.int o0)) :
    own_Met l Z (⟨"com/example/pathweave/pathweave/Explorer$Summary", "exhaustive", "()Z"⟩ : MethodName) prog_57_method_2_code 1 (some .boolean) [] ({ frames := 0, cells := 0, slots := 0, locals := 0 } : Room) #[(.ref r0)] h0 (fun v h L => v = some (.int (own_ex c0 i0 f0 o0)) ∧ L = [] ∧ h = h0) := by
  refine own_body pn_rm3 ?_
  intro p e s m below meth c s₁ hx hby hml hown hnm hret hlk hZ X0 e0 G hG
  replace hml : c.maxLocals = 1 := hml
  replace hown : s.vm.findClass "com/example/pathweave/pathweave/Explorer$Summary" = some m.cls := hown
  rw [ef_rm3]
  show own_Go p e below G (s₁.setTop (mkF m 0 #[.val (.ref r0)] []))
  refine own_st (fun t k => XS.aloadN X0.here hx rfl (hb hby d3_0) rfl rfl  k) ?_
  show own_Go p e below G (s₁.setTop (mkF m 1 #[.val (.ref r0)] [(.ref r0)]))
  obtain ⟨T1, X1, e1, st1⟩ := getF X0 hx hZ hown (host := "") (Or.inl (hw _ (List.mem_of_getElem? (i := 16) rfl))) Via.refl e0 F_cut (g := (mkF m 1 #[.val (.ref r0)] [(.ref r0)])) rfl rfl (hb hby d3_1)
  refine own_st st1 ?_
  show own_Go p e below G (T1.setTop (mkF m 4 #[.val (.ref r0)] [(.long c0)]))
  refine own_st (fun t k => XS.lconst X1.here hx rfl (hb hby d3_4) k) ?_
  show own_Go p e below G (T1.setTop (mkF m 5 #[.val (.ref r0)] [(.long (0 : Int64)), (.long c0)]))
  refine own_st (fun t k => XS.lcmp X1.here hx rfl (hb hby d3_5) rfl k) ?_
  show own_Go p e below G (T1.setTop (mkF m 6 #[.val (.ref r0)] [(.int (lcmpW c0 (0 : Int64)))]))
  by_cases c6_2 : c0 = (0 : Int64)
  · skip
    refine own_st (fun t k => XS.ifNo X1.here hx rfl (hb hby d3_6) rfl ((if0 _ _).trans (teq ((lw_eq _ _).2 c6_2)).2) k) ?_
    show own_Go p e below G (T1.setTop (mkF m 9 #[.val (.ref r0)] []))
    refine own_st (fun t k => XS.aloadN X1.here hx rfl (hb hby d3_9) rfl rfl  k) ?_
    show own_Go p e below G (T1.setTop (mkF m 10 #[.val (.ref r0)] [(.ref r0)]))
    obtain ⟨T3, X3, e3, st3⟩ := getF X1 hx hZ hown (host := "") (Or.inl (hw _ (List.mem_of_getElem? (i := 18) rfl))) Via.refl e1 F_incomplete (g := (mkF m 10 #[.val (.ref r0)] [(.ref r0)])) rfl rfl (hb hby d3_10)
    refine own_st st3 ?_
    show own_Go p e below G (T3.setTop (mkF m 13 #[.val (.ref r0)] [(.long i0)]))
    refine own_st (fun t k => XS.lconst X3.here hx rfl (hb hby d3_13) k) ?_
    show own_Go p e below G (T3.setTop (mkF m 14 #[.val (.ref r0)] [(.long (0 : Int64)), (.long i0)]))
    refine own_st (fun t k => XS.lcmp X3.here hx rfl (hb hby d3_14) rfl k) ?_
    show own_Go p e below G (T3.setTop (mkF m 15 #[.val (.ref r0)] [(.int (lcmpW i0 (0 : Int64)))]))
    by_cases c15_4 : i0 = (0 : Int64)
    · skip
      refine own_st (fun t k => XS.ifNo X3.here hx rfl (hb hby d3_15) rfl ((if0 _ _).trans (teq ((lw_eq _ _).2 c15_4)).2) k) ?_
      show own_Go p e below G (T3.setTop (mkF m 18 #[.val (.ref r0)] []))
      refine own_st (fun t k => XS.aloadN X3.here hx rfl (hb hby d3_18) rfl rfl  k) ?_
      show own_Go p e below G (T3.setTop (mkF m 19 #[.val (.ref r0)] [(.ref r0)]))
      obtain ⟨T5, X5, e5, st5⟩ := getF X3 hx hZ hown (host := "") (Or.inl (hw _ (List.mem_of_getElem? (i := 20) rfl))) Via.refl e3 F_fixed (g := (mkF m 19 #[.val (.ref r0)] [(.ref r0)])) rfl rfl (hb hby d3_19)
      refine own_st st5 ?_
      show own_Go p e below G (T5.setTop (mkF m 22 #[.val (.ref r0)] [(.long f0)]))
      refine own_st (fun t k => XS.lconst X5.here hx rfl (hb hby d3_22) k) ?_
      show own_Go p e below G (T5.setTop (mkF m 23 #[.val (.ref r0)] [(.long (0 : Int64)), (.long f0)]))
      refine own_st (fun t k => XS.lcmp X5.here hx rfl (hb hby d3_23) rfl k) ?_
      show own_Go p e below G (T5.setTop (mkF m 24 #[.val (.ref r0)] [(.int (lcmpW f0 (0 : Int64)))]))
      by_cases c24_6 : f0 = (0 : Int64)
      · skip
        refine own_st (fun t k => XS.ifNo X5.here hx rfl (hb hby d3_24) rfl ((if0 _ _).trans (teq ((lw_eq _ _).2 c24_6)).2) k) ?_
        show own_Go p e below G (T5.setTop (mkF m 27 #[.val (.ref r0)] []))
        refine own_st (fun t k => XS.aloadN X5.here hx rfl (hb hby d3_27) rfl rfl  k) ?_
        show own_Go p e below G (T5.setTop (mkF m 28 #[.val (.ref r0)] [(.ref r0)]))
        obtain ⟨T7, X7, e7, st7⟩ := getF X5 hx hZ hown (host := "") (Or.inl (hw _ (List.mem_of_getElem? (i := 28) rfl))) Via.refl e5 F_outOfTime (g := (mkF m 28 #[.val (.ref r0)] [(.ref r0)])) rfl rfl (hb hby d3_28)
        refine own_st st7 ?_
        show own_Go p e below G (T7.setTop (mkF m 31 #[.val (.ref r0)] [(.int o0)]))
        by_cases c31_8 : o0 = (0 : Int32)
        · skip
          refine own_st (fun t k => XS.ifNo X7.here hx rfl (hb hby d3_31) rfl ((if0 _ _).trans (teq c31_8).2) k) ?_
          show own_Go p e below G (T7.setTop (mkF m 34 #[.val (.ref r0)] []))
          refine own_st (fun t k => XS.iconst X7.here hx rfl (hb hby d3_34) k) ?_
          show own_Go p e below G (T7.setTop (mkF m 35 #[.val (.ref r0)] [(.int (1 : Int32))]))
          refine own_st (fun t k => XS.goto X7.here hx rfl (pc0 := 35) (pc' := 39) rfl (hb hby d3_35) (by decide) (by decide) k) ?_
          show own_Go p e below G (T7.setTop (mkF m 39 #[.val (.ref r0)] [(.int (1 : Int32))]))
          rw [hG]
          exact own_retZ X7 hx hlk (t := .boolean) hret (by simp) (hb hby d3_39) ⟨congrArg (fun z => some (Value.int z)) (show (1 : Int32) = own_ex c0 i0 f0 o0 from (if_pos ⟨c6_2, c15_4, c24_6, c31_8⟩).symm), rfl, e7⟩ (by decide) (by decide)
        · skip
          refine own_st (fun t k => XS.ifYes X7.here hx rfl (pc0 := 31) (pc' := 38) rfl (hb hby d3_31) rfl ((if0 _ _).trans (feq c31_8).2) (by decide) (by decide) k) ?_
          show own_Go p e below G (T7.setTop (mkF m 38 #[.val (.ref r0)] []))
          refine own_st (fun t k => XS.iconst X7.here hx rfl (hb hby d3_38) k) ?_
          show own_Go p e below G (T7.setTop (mkF m 39 #[.val (.ref r0)] [(.int (0 : Int32))]))
          rw [hG]
          exact own_retZ X7 hx hlk (t := .boolean) hret (by simp) (hb hby d3_39) ⟨congrArg (fun z => some (Value.int z)) (show (0 : Int32) = own_ex c0 i0 f0 o0 from (if_neg (fun q => c31_8 q.2.2.2)).symm), rfl, e7⟩ (by decide) (by decide)
      · skip
        refine own_st (fun t k => XS.ifYes X5.here hx rfl (pc0 := 24) (pc' := 38) rfl (hb hby d3_24) rfl ((if0 _ _).trans (feq (fun q => c24_6 ((lw_eq _ _).1 q))).2) (by decide) (by decide) k) ?_
        show own_Go p e below G (T5.setTop (mkF m 38 #[.val (.ref r0)] []))
        refine own_st (fun t k => XS.iconst X5.here hx rfl (hb hby d3_38) k) ?_
        show own_Go p e below G (T5.setTop (mkF m 39 #[.val (.ref r0)] [(.int (0 : Int32))]))
        rw [hG]
        exact own_retZ X5 hx hlk (t := .boolean) hret (by simp) (hb hby d3_39) ⟨congrArg (fun z => some (Value.int z)) (show (0 : Int32) = own_ex c0 i0 f0 o0 from (if_neg (fun q => c24_6 q.2.2.1)).symm), rfl, e5⟩ (by decide) (by decide)
    · skip
      refine own_st (fun t k => XS.ifYes X3.here hx rfl (pc0 := 15) (pc' := 38) rfl (hb hby d3_15) rfl ((if0 _ _).trans (feq (fun q => c15_4 ((lw_eq _ _).1 q))).2) (by decide) (by decide) k) ?_
      show own_Go p e below G (T3.setTop (mkF m 38 #[.val (.ref r0)] []))
      refine own_st (fun t k => XS.iconst X3.here hx rfl (hb hby d3_38) k) ?_
      show own_Go p e below G (T3.setTop (mkF m 39 #[.val (.ref r0)] [(.int (0 : Int32))]))
      rw [hG]
      exact own_retZ X3 hx hlk (t := .boolean) hret (by simp) (hb hby d3_39) ⟨congrArg (fun z => some (Value.int z)) (show (0 : Int32) = own_ex c0 i0 f0 o0 from (if_neg (fun q => c15_4 q.2.1)).symm), rfl, e3⟩ (by decide) (by decide)
  · skip
    refine own_st (fun t k => XS.ifYes X1.here hx rfl (pc0 := 6) (pc' := 38) rfl (hb hby d3_6) rfl ((if0 _ _).trans (feq (fun q => c6_2 ((lw_eq _ _).1 q))).2) (by decide) (by decide) k) ?_
    show own_Go p e below G (T1.setTop (mkF m 38 #[.val (.ref r0)] []))
    refine own_st (fun t k => XS.iconst X1.here hx rfl (hb hby d3_38) k) ?_
    show own_Go p e below G (T1.setTop (mkF m 39 #[.val (.ref r0)] [(.int (0 : Int32))]))
    rw [hG]
    exact own_retZ X1 hx hlk (t := .boolean) hret (by simp) (hb hby d3_39) ⟨congrArg (fun z => some (Value.int z)) (show (0 : Int32) = own_ex c0 i0 f0 o0 from (if_neg (fun q => c6_2 q.1)).symm), rfl, e1⟩ (by decide) (by decide)
theorem pn_rm0 : plainFor (⟨"com/example/pathweave/pathweave/SummaryExhaustivePinLaw", "law", "(JJJJJI)Z"⟩ : MethodName) = true := by decide +kernel
theorem ef_rm0 (m : MethodId) (x0 : Int64) (x1 : Int64) (x2 : Int64) (x3 : Int64) (x4 : Int64) (x5 : Int32) : entryFrame m #[(.long x0), (.long x1), (.long x2), (.long x3), (.long x4), (.int x5)] maxLocals = mkF m 0 #[.val (.long x0), .second, .val (.long x1), .second, .val (.long x2), .second, .val (.long x3), .second, .val (.long x4), .second, .val (.int x5), .unset, .unset, .unset, .unset, .unset, .unset, .unset, .unset, .unset, .unset, .unset, .unset] [] := by first | (simp [entryFrame, mkF, argsToLocals, Value.category, maxLocals]; done) | rfl
set_option maxRecDepth 65536 in
set_option maxHeartbeats 40000000 in
theorem rm0 (l : Launch) (Z : State) (a0 : Array Value) (hw : ∀ d ∈ tables_1, d.before a0 Z = true) (ws : List Jvm.Cond) (x0 x1 x2 x3 x4 : Int64) (x5 : Int32) (h0 : Heap) (n0 : Nat) (Z0 : n0 ≤ h0.size) :
    own_Met l Z x code maxLocals ret ws room_1 #[(.long x0), (.long x1), (.long x2), (.long x3), (.long x4), (.int x5)] h0 (fun v h L => v = some (.int 1) ∧ Fr n0 L) := by
  refine own_body pn_rm0 ?_
  intro p e s m below meth c s₁ hx hby hml hown hnm hret hlk hZ X0 e0 G hG
  replace hml : c.maxLocals = 23 := hml
  replace hown : s.vm.findClass "com/example/pathweave/pathweave/SummaryExhaustivePinLaw" = some m.cls := hown
  rw [ef_rm0]
  have N0 := Fr.nil n0
  show own_Go p e below G (s₁.setTop (mkF m 0 #[.val (.long x0), .second, .val (.long x1), .second, .val (.long x2), .second, .val (.long x3), .second, .val (.long x4), .second, .val (.int x5), .unset, .unset, .unset, .unset, .unset, .unset, .unset, .unset, .unset, .unset, .unset, .unset] []))
  refine own_st (fun t k => XS.iload X0.here hx rfl (hb hby at_0) rfl  k) ?_
  show own_Go p e below G (s₁.setTop (mkF m 2 #[.val (.long x0), .second, .val (.long x1), .second, .val (.long x2), .second, .val (.long x3), .second, .val (.long x4), .second, .val (.int x5), .unset, .unset, .unset, .unset, .unset, .unset, .unset, .unset, .unset, .unset, .unset, .unset] [(.int x5)]))
  refine own_st (fun t k => XS.iconst X0.here hx rfl (hb hby at_2) k) ?_
  show own_Go p e below G (s₁.setTop (mkF m 3 #[.val (.long x0), .second, .val (.long x1), .second, .val (.long x2), .second, .val (.long x3), .second, .val (.long x4), .second, .val (.int x5), .unset, .unset, .unset, .unset, .unset, .unset, .unset, .unset, .unset, .unset, .unset, .unset] [(.int (1 : Int32)), (.int x5)]))
  refine own_st (fun t k => XS.iand X0.here hx rfl (hb hby at_3) rfl k) ?_
  show own_Go p e below G (s₁.setTop (mkF m 4 #[.val (.long x0), .second, .val (.long x1), .second, .val (.long x2), .second, .val (.long x3), .second, .val (.long x4), .second, .val (.int x5), .unset, .unset, .unset, .unset, .unset, .unset, .unset, .unset, .unset, .unset, .unset, .unset] [(.int (x5 &&& (1 : Int32)))]))
  have J12 : ∀ (y12 : Int64), own_Go p e below G (s₁.setTop (mkF m 12 #[.val (.long x0), .second, .val (.long x1), .second, .val (.long x2), .second, .val (.long x3), .second, .val (.long x4), .second, .val (.int x5), .unset, .unset, .unset, .unset, .unset, .unset, .unset, .unset, .unset, .unset, .unset, .unset] [(.long y12)])) := by
    intro y12
    refine own_st (fun t k => XS.lstore X0.here hx rfl (hb hby at_12) rfl (l' := #[.val (.long x0), .second, .val (.long x1), .second, .val (.long x2), .second, .val (.long x3), .second, .val (.long x4), .second, .val (.int x5), .val (.long y12), .second, .unset, .unset, .unset, .unset, .unset, .unset, .unset, .unset, .unset, .unset]) rfl k) ?_
    show own_Go p e below G (s₁.setTop (mkF m 14 #[.val (.long x0), .second, .val (.long x1), .second, .val (.long x2), .second, .val (.long x3), .second, .val (.long x4), .second, .val (.int x5), .val (.long y12), .second, .unset, .unset, .unset, .unset, .unset, .unset, .unset, .unset, .unset, .unset] []))
    refine own_st (fun t k => XS.iload X0.here hx rfl (hb hby at_14) rfl  k) ?_
    show own_Go p e below G (s₁.setTop (mkF m 16 #[.val (.long x0), .second, .val (.long x1), .second, .val (.long x2), .second, .val (.long x3), .second, .val (.long x4), .second, .val (.int x5), .val (.long y12), .second, .unset, .unset, .unset, .unset, .unset, .unset, .unset, .unset, .unset, .unset] [(.int x5)]))
    refine own_st (fun t k => XS.iconst X0.here hx rfl (hb hby at_16) k) ?_
    show own_Go p e below G (s₁.setTop (mkF m 17 #[.val (.long x0), .second, .val (.long x1), .second, .val (.long x2), .second, .val (.long x3), .second, .val (.long x4), .second, .val (.int x5), .val (.long y12), .second, .unset, .unset, .unset, .unset, .unset, .unset, .unset, .unset, .unset, .unset] [(.int (2 : Int32)), (.int x5)]))
    refine own_st (fun t k => XS.iand X0.here hx rfl (hb hby at_17) rfl k) ?_
    show own_Go p e below G (s₁.setTop (mkF m 18 #[.val (.long x0), .second, .val (.long x1), .second, .val (.long x2), .second, .val (.long x3), .second, .val (.long x4), .second, .val (.int x5), .val (.long y12), .second, .unset, .unset, .unset, .unset, .unset, .unset, .unset, .unset, .unset, .unset] [(.int (x5 &&& (2 : Int32)))]))
    have J26 : ∀ (y26 : Int64), own_Go p e below G (s₁.setTop (mkF m 26 #[.val (.long x0), .second, .val (.long x1), .second, .val (.long x2), .second, .val (.long x3), .second, .val (.long x4), .second, .val (.int x5), .val (.long y12), .second, .unset, .unset, .unset, .unset, .unset, .unset, .unset, .unset, .unset, .unset] [(.long y26)])) := by
      intro y26
      refine own_st (fun t k => XS.lstore X0.here hx rfl (hb hby at_26) rfl (l' := #[.val (.long x0), .second, .val (.long x1), .second, .val (.long x2), .second, .val (.long x3), .second, .val (.long x4), .second, .val (.int x5), .val (.long y12), .second, .val (.long y26), .second, .unset, .unset, .unset, .unset, .unset, .unset, .unset, .unset]) rfl k) ?_
      show own_Go p e below G (s₁.setTop (mkF m 28 #[.val (.long x0), .second, .val (.long x1), .second, .val (.long x2), .second, .val (.long x3), .second, .val (.long x4), .second, .val (.int x5), .val (.long y12), .second, .val (.long y26), .second, .unset, .unset, .unset, .unset, .unset, .unset, .unset, .unset] []))
      refine own_st (fun t k => XS.iload X0.here hx rfl (hb hby at_28) rfl  k) ?_
      show own_Go p e below G (s₁.setTop (mkF m 30 #[.val (.long x0), .second, .val (.long x1), .second, .val (.long x2), .second, .val (.long x3), .second, .val (.long x4), .second, .val (.int x5), .val (.long y12), .second, .val (.long y26), .second, .unset, .unset, .unset, .unset, .unset, .unset, .unset, .unset] [(.int x5)]))
      refine own_st (fun t k => XS.iconst X0.here hx rfl (hb hby at_30) k) ?_
      show own_Go p e below G (s₁.setTop (mkF m 31 #[.val (.long x0), .second, .val (.long x1), .second, .val (.long x2), .second, .val (.long x3), .second, .val (.long x4), .second, .val (.int x5), .val (.long y12), .second, .val (.long y26), .second, .unset, .unset, .unset, .unset, .unset, .unset, .unset, .unset] [(.int (4 : Int32)), (.int x5)]))
      refine own_st (fun t k => XS.iand X0.here hx rfl (hb hby at_31) rfl k) ?_
      show own_Go p e below G (s₁.setTop (mkF m 32 #[.val (.long x0), .second, .val (.long x1), .second, .val (.long x2), .second, .val (.long x3), .second, .val (.long x4), .second, .val (.int x5), .val (.long y12), .second, .val (.long y26), .second, .unset, .unset, .unset, .unset, .unset, .unset, .unset, .unset] [(.int (x5 &&& (4 : Int32)))]))
      have J41 : ∀ (y41 : Int64), own_Go p e below G (s₁.setTop (mkF m 41 #[.val (.long x0), .second, .val (.long x1), .second, .val (.long x2), .second, .val (.long x3), .second, .val (.long x4), .second, .val (.int x5), .val (.long y12), .second, .val (.long y26), .second, .unset, .unset, .unset, .unset, .unset, .unset, .unset, .unset] [(.long y41)])) := by
        intro y41
        refine own_st (fun t k => XS.lstore X0.here hx rfl (hb hby at_41) rfl (l' := #[.val (.long x0), .second, .val (.long x1), .second, .val (.long x2), .second, .val (.long x3), .second, .val (.long x4), .second, .val (.int x5), .val (.long y12), .second, .val (.long y26), .second, .val (.long y41), .second, .unset, .unset, .unset, .unset, .unset, .unset]) rfl k) ?_
        show own_Go p e below G (s₁.setTop (mkF m 43 #[.val (.long x0), .second, .val (.long x1), .second, .val (.long x2), .second, .val (.long x3), .second, .val (.long x4), .second, .val (.int x5), .val (.long y12), .second, .val (.long y26), .second, .val (.long y41), .second, .unset, .unset, .unset, .unset, .unset, .unset] []))
        refine own_st (fun t k => XS.iload X0.here hx rfl (hb hby at_43) rfl  k) ?_
        show own_Go p e below G (s₁.setTop (mkF m 45 #[.val (.long x0), .second, .val (.long x1), .second, .val (.long x2), .second, .val (.long x3), .second, .val (.long x4), .second, .val (.int x5), .val (.long y12), .second, .val (.long y26), .second, .val (.long y41), .second, .unset, .unset, .unset, .unset, .unset, .unset] [(.int x5)]))
        refine own_st (fun t k => XS.bipush X0.here hx rfl (hb hby at_45) k) ?_
        show own_Go p e below G (s₁.setTop (mkF m 47 #[.val (.long x0), .second, .val (.long x1), .second, .val (.long x2), .second, .val (.long x3), .second, .val (.long x4), .second, .val (.int x5), .val (.long y12), .second, .val (.long y26), .second, .val (.long y41), .second, .unset, .unset, .unset, .unset, .unset, .unset] [(.int (8 : Int32)), (.int x5)]))
        refine own_st (fun t k => XS.iand X0.here hx rfl (hb hby at_47) rfl k) ?_
        show own_Go p e below G (s₁.setTop (mkF m 48 #[.val (.long x0), .second, .val (.long x1), .second, .val (.long x2), .second, .val (.long x3), .second, .val (.long x4), .second, .val (.int x5), .val (.long y12), .second, .val (.long y26), .second, .val (.long y41), .second, .unset, .unset, .unset, .unset, .unset, .unset] [(.int (x5 &&& (8 : Int32)))]))
        have J56 : ∀ (y56 : Int32) (hy56 : y56 = 0 ∨ y56 = 1), own_Go p e below G (s₁.setTop (mkF m 56 #[.val (.long x0), .second, .val (.long x1), .second, .val (.long x2), .second, .val (.long x3), .second, .val (.long x4), .second, .val (.int x5), .val (.long y12), .second, .val (.long y26), .second, .val (.long y41), .second, .unset, .unset, .unset, .unset, .unset, .unset] [(.int y56)])) := by
          intro y56 hy56
          refine own_st (fun t k => XS.istore X0.here hx rfl (hb hby at_56) rfl (l' := #[.val (.long x0), .second, .val (.long x1), .second, .val (.long x2), .second, .val (.long x3), .second, .val (.long x4), .second, .val (.int x5), .val (.long y12), .second, .val (.long y26), .second, .val (.long y41), .second, .val (.int y56), .unset, .unset, .unset, .unset, .unset]) rfl k) ?_
          show own_Go p e below G (s₁.setTop (mkF m 58 #[.val (.long x0), .second, .val (.long x1), .second, .val (.long x2), .second, .val (.long x3), .second, .val (.long x4), .second, .val (.int x5), .val (.long y12), .second, .val (.long y26), .second, .val (.long y41), .second, .val (.int y56), .unset, .unset, .unset, .unset, .unset] []))
          refine own_st (fun t k => XS.iload X0.here hx rfl (hb hby at_58) rfl  k) ?_
          show own_Go p e below G (s₁.setTop (mkF m 60 #[.val (.long x0), .second, .val (.long x1), .second, .val (.long x2), .second, .val (.long x3), .second, .val (.long x4), .second, .val (.int x5), .val (.long y12), .second, .val (.long y26), .second, .val (.long y41), .second, .val (.int y56), .unset, .unset, .unset, .unset, .unset] [(.int x5)]))
          refine own_st (fun t k => XS.iconst X0.here hx rfl (hb hby at_60) k) ?_
          show own_Go p e below G (s₁.setTop (mkF m 61 #[.val (.long x0), .second, .val (.long x1), .second, .val (.long x2), .second, .val (.long x3), .second, .val (.long x4), .second, .val (.int x5), .val (.long y12), .second, .val (.long y26), .second, .val (.long y41), .second, .val (.int y56), .unset, .unset, .unset, .unset, .unset] [(.int (4 : Int32)), (.int x5)]))
          refine own_st (fun t k => XS.ishr X0.here hx rfl (hb hby at_61) rfl k) ?_
          show own_Go p e below G (s₁.setTop (mkF m 62 #[.val (.long x0), .second, .val (.long x1), .second, .val (.long x2), .second, .val (.long x3), .second, .val (.long x4), .second, .val (.int x5), .val (.long y12), .second, .val (.long y26), .second, .val (.long y41), .second, .val (.int y56), .unset, .unset, .unset, .unset, .unset] [(.int (x5 >>> ((4 : Int32) &&& 31)))]))
          refine own_st (fun t k => XS.istore X0.here hx rfl (hb hby at_62) rfl (l' := #[.val (.long x0), .second, .val (.long x1), .second, .val (.long x2), .second, .val (.long x3), .second, .val (.long x4), .second, .val (.int x5), .val (.long y12), .second, .val (.long y26), .second, .val (.long y41), .second, .val (.int y56), .val (.int (x5 >>> ((4 : Int32) &&& 31))), .unset, .unset, .unset, .unset]) rfl k) ?_
          show own_Go p e below G (s₁.setTop (mkF m 64 #[.val (.long x0), .second, .val (.long x1), .second, .val (.long x2), .second, .val (.long x3), .second, .val (.long x4), .second, .val (.int x5), .val (.long y12), .second, .val (.long y26), .second, .val (.long y41), .second, .val (.int y56), .val (.int (x5 >>> ((4 : Int32) &&& 31))), .unset, .unset, .unset, .unset] []))
          refine own_st (fun t k => XS.lload X0.here hx rfl (hb hby at_64) rfl  k) ?_
          show own_Go p e below G (s₁.setTop (mkF m 66 #[.val (.long x0), .second, .val (.long x1), .second, .val (.long x2), .second, .val (.long x3), .second, .val (.long x4), .second, .val (.int x5), .val (.long y12), .second, .val (.long y26), .second, .val (.long y41), .second, .val (.int y56), .val (.int (x5 >>> ((4 : Int32) &&& 31))), .unset, .unset, .unset, .unset] [(.long x4)]))
          refine own_st (fun t k => XS.lload X0.here hx rfl (hb hby at_66) rfl  k) ?_
          show own_Go p e below G (s₁.setTop (mkF m 68 #[.val (.long x0), .second, .val (.long x1), .second, .val (.long x2), .second, .val (.long x3), .second, .val (.long x4), .second, .val (.int x5), .val (.long y12), .second, .val (.long y26), .second, .val (.long y41), .second, .val (.int y56), .val (.int (x5 >>> ((4 : Int32) &&& 31))), .unset, .unset, .unset, .unset] [(.long x3), (.long x4)]))
          refine own_st (fun t k => XS.lxor X0.here hx rfl (hb hby at_68) rfl k) ?_
          show own_Go p e below G (s₁.setTop (mkF m 69 #[.val (.long x0), .second, .val (.long x1), .second, .val (.long x2), .second, .val (.long x3), .second, .val (.long x4), .second, .val (.int x5), .val (.long y12), .second, .val (.long y26), .second, .val (.long y41), .second, .val (.int y56), .val (.int (x5 >>> ((4 : Int32) &&& 31))), .unset, .unset, .unset, .unset] [(.long (x4 ^^^ x3))]))
          refine own_st (fun t k => XS.lstore X0.here hx rfl (hb hby at_69) rfl (l' := #[.val (.long x0), .second, .val (.long x1), .second, .val (.long x2), .second, .val (.long x3), .second, .val (.long x4), .second, .val (.int x5), .val (.long y12), .second, .val (.long y26), .second, .val (.long y41), .second, .val (.int y56), .val (.int (x5 >>> ((4 : Int32) &&& 31))), .val (.long (x4 ^^^ x3)), .second, .unset, .unset]) rfl k) ?_
          show own_Go p e below G (s₁.setTop (mkF m 71 #[.val (.long x0), .second, .val (.long x1), .second, .val (.long x2), .second, .val (.long x3), .second, .val (.long x4), .second, .val (.int x5), .val (.long y12), .second, .val (.long y26), .second, .val (.long y41), .second, .val (.int y56), .val (.int (x5 >>> ((4 : Int32) &&& 31))), .val (.long (x4 ^^^ x3)), .second, .unset, .unset] []))
          obtain ⟨T1, h1, X1, e1, E1, A1, D1, -, st1⟩ := newO X0 hx hZ hown (hw _ (List.mem_of_getElem? (i := 0) rfl)) (hw _ (List.mem_of_getElem? (i := 1) rfl)) (hw _ (List.mem_of_getElem? (i := 2) rfl)) e0 (g := (mkF m 71 #[.val (.long x0), .second, .val (.long x1), .second, .val (.long x2), .second, .val (.long x3), .second, .val (.long x4), .second, .val (.int x5), .val (.long y12), .second, .val (.long y26), .second, .val (.long y41), .second, .val (.int y56), .val (.int (x5 >>> ((4 : Int32) &&& 31))), .val (.long (x4 ^^^ x3)), .second, .unset, .unset] [])) rfl (hb hby at_71) (by decide) (by decide)
          obtain ⟨b1, gb1⟩ : ∃ z, z = h0.size := ⟨_, rfl⟩
          rw [← gb1] at A1 D1 st1
          have g_b1 : n0 ≤ b1 := Nat.le_trans Z0 (Nat.le_of_eq gb1.symm)
          replace Z0 := Nat.le_trans Z0 E1.1
          have E_b1 := A1
          have F_paths_b1 : Fld Z h1 b1 "com/example/pathweave/pathweave/Explorer$Summary" "paths" "J" (.long (0 : Int64)) := D1 (Or.inr (hw _ (List.mem_of_getElem? (i := 15) rfl))) (ty := .long) (by decide)
          have F_cut_b1 : Fld Z h1 b1 "com/example/pathweave/pathweave/Explorer$Summary" "cut" "J" (.long (0 : Int64)) := D1 (Or.inr (hw _ (List.mem_of_getElem? (i := 17) rfl))) (ty := .long) (by decide)
          have F_incomplete_b1 : Fld Z h1 b1 "com/example/pathweave/pathweave/Explorer$Summary" "incomplete" "J" (.long (0 : Int64)) := D1 (Or.inr (hw _ (List.mem_of_getElem? (i := 19) rfl))) (ty := .long) (by decide)
          have F_fixed_b1 : Fld Z h1 b1 "com/example/pathweave/pathweave/Explorer$Summary" "fixed" "J" (.long (0 : Int64)) := D1 (Or.inr (hw _ (List.mem_of_getElem? (i := 21) rfl))) (ty := .long) (by decide)
          have F_inputs_b1 : Fld Z h1 b1 "com/example/pathweave/pathweave/Explorer$Summary" "inputs" "I" (.int (0 : Int32)) := D1 (Or.inr (hw _ (List.mem_of_getElem? (i := 23) rfl))) (ty := .int) (by decide)
          have F_forward_b1 : Fld Z h1 b1 "com/example/pathweave/pathweave/Explorer$Summary" "forward" "J" (.long (0 : Int64)) := D1 (Or.inr (hw _ (List.mem_of_getElem? (i := 25) rfl))) (ty := .long) (by decide)
          have F_backward_b1 : Fld Z h1 b1 "com/example/pathweave/pathweave/Explorer$Summary" "backward" "J" (.long (0 : Int64)) := D1 (Or.inr (hw _ (List.mem_of_getElem? (i := 27) rfl))) (ty := .long) (by decide)
          have F_outOfTime_b1 : Fld Z h1 b1 "com/example/pathweave/pathweave/Explorer$Summary" "outOfTime" "Z" (.int (0 : Int32)) := D1 (Or.inr (hw _ (List.mem_of_getElem? (i := 29) rfl))) (ty := .boolean) (by decide)
          refine own_st st1 ?_
          show own_Go p e below G (T1.setTop (mkF m 74 #[.val (.long x0), .second, .val (.long x1), .second, .val (.long x2), .second, .val (.long x3), .second, .val (.long x4), .second, .val (.int x5), .val (.long y12), .second, .val (.long y26), .second, .val (.long y41), .second, .val (.int y56), .val (.int (x5 >>> ((4 : Int32) &&& 31))), .val (.long (x4 ^^^ x3)), .second, .unset, .unset] [(.ref b1)]))
          refine own_st (fun t k => XS.dup X1.here hx rfl (hb hby at_74) rfl rfl k) ?_
          show own_Go p e below G (T1.setTop (mkF m 75 #[.val (.long x0), .second, .val (.long x1), .second, .val (.long x2), .second, .val (.long x3), .second, .val (.long x4), .second, .val (.int x5), .val (.long y12), .second, .val (.long y26), .second, .val (.long y41), .second, .val (.int y56), .val (.int (x5 >>> ((4 : Int32) &&& 31))), .val (.long (x4 ^^^ x3)), .second, .unset, .unset] [(.ref b1), (.ref b1)]))
          refine own_st (fun t k => XS.lload X1.here hx rfl (hb hby at_75) rfl  k) ?_
          show own_Go p e below G (T1.setTop (mkF m 77 #[.val (.long x0), .second, .val (.long x1), .second, .val (.long x2), .second, .val (.long x3), .second, .val (.long x4), .second, .val (.int x5), .val (.long y12), .second, .val (.long y26), .second, .val (.long y41), .second, .val (.int y56), .val (.int (x5 >>> ((4 : Int32) &&& 31))), .val (.long (x4 ^^^ x3)), .second, .unset, .unset] [(.long x3), (.ref b1), (.ref b1)]))
          refine own_st (fun t k => XS.lload X1.here hx rfl (hb hby at_77) rfl  k) ?_
          show own_Go p e below G (T1.setTop (mkF m 79 #[.val (.long x0), .second, .val (.long x1), .second, .val (.long x2), .second, .val (.long x3), .second, .val (.long x4), .second, .val (.int x5), .val (.long y12), .second, .val (.long y26), .second, .val (.long y41), .second, .val (.int y56), .val (.int (x5 >>> ((4 : Int32) &&& 31))), .val (.long (x4 ^^^ x3)), .second, .unset, .unset] [(.long y12), (.long x3), (.ref b1), (.ref b1)]))
          refine own_st (fun t k => XS.lload X1.here hx rfl (hb hby at_79) rfl  k) ?_
          show own_Go p e below G (T1.setTop (mkF m 81 #[.val (.long x0), .second, .val (.long x1), .second, .val (.long x2), .second, .val (.long x3), .second, .val (.long x4), .second, .val (.int x5), .val (.long y12), .second, .val (.long y26), .second, .val (.long y41), .second, .val (.int y56), .val (.int (x5 >>> ((4 : Int32) &&& 31))), .val (.long (x4 ^^^ x3)), .second, .unset, .unset] [(.long y26), (.long y12), (.long x3), (.ref b1), (.ref b1)]))
          refine own_st (fun t k => XS.lload X1.here hx rfl (hb hby at_81) rfl  k) ?_
          show own_Go p e below G (T1.setTop (mkF m 83 #[.val (.long x0), .second, .val (.long x1), .second, .val (.long x2), .second, .val (.long x3), .second, .val (.long x4), .second, .val (.int x5), .val (.long y12), .second, .val (.long y26), .second, .val (.long y41), .second, .val (.int y56), .val (.int (x5 >>> ((4 : Int32) &&& 31))), .val (.long (x4 ^^^ x3)), .second, .unset, .unset] [(.long y41), (.long y26), (.long y12), (.long x3), (.ref b1), (.ref b1)]))
          refine own_st (fun t k => XS.iload X1.here hx rfl (hb hby at_83) rfl  k) ?_
          show own_Go p e below G (T1.setTop (mkF m 85 #[.val (.long x0), .second, .val (.long x1), .second, .val (.long x2), .second, .val (.long x3), .second, .val (.long x4), .second, .val (.int x5), .val (.long y12), .second, .val (.long y26), .second, .val (.long y41), .second, .val (.int y56), .val (.int (x5 >>> ((4 : Int32) &&& 31))), .val (.long (x4 ^^^ x3)), .second, .unset, .unset] [(.int (x5 >>> ((4 : Int32) &&& 31))), (.long y41), (.long y26), (.long y12), (.long x3), (.ref b1), (.ref b1)]))
          refine own_st (fun t k => XS.lload X1.here hx rfl (hb hby at_85) rfl  k) ?_
          show own_Go p e below G (T1.setTop (mkF m 87 #[.val (.long x0), .second, .val (.long x1), .second, .val (.long x2), .second, .val (.long x3), .second, .val (.long x4), .second, .val (.int x5), .val (.long y12), .second, .val (.long y26), .second, .val (.long y41), .second, .val (.int y56), .val (.int (x5 >>> ((4 : Int32) &&& 31))), .val (.long (x4 ^^^ x3)), .second, .unset, .unset] [(.long x4), (.int (x5 >>> ((4 : Int32) &&& 31))), (.long y41), (.long y26), (.long y12), (.long x3), (.ref b1), (.ref b1)]))
          refine own_st (fun t k => XS.lload X1.here hx rfl (hb hby at_87) rfl  k) ?_
          show own_Go p e below G (T1.setTop (mkF m 89 #[.val (.long x0), .second, .val (.long x1), .second, .val (.long x2), .second, .val (.long x3), .second, .val (.long x4), .second, .val (.int x5), .val (.long y12), .second, .val (.long y26), .second, .val (.long y41), .second, .val (.int y56), .val (.int (x5 >>> ((4 : Int32) &&& 31))), .val (.long (x4 ^^^ x3)), .second, .unset, .unset] [(.long (x4 ^^^ x3)), (.long x4), (.int (x5 >>> ((4 : Int32) &&& 31))), (.long y41), (.long y26), (.long y12), (.long x3), (.ref b1), (.ref b1)]))
          refine own_st (fun t k => XS.iload X1.here hx rfl (hb hby at_89) rfl  k) ?_
          show own_Go p e below G (T1.setTop (mkF m 91 #[.val (.long x0), .second, .val (.long x1), .second, .val (.long x2), .second, .val (.long x3), .second, .val (.long x4), .second, .val (.int x5), .val (.long y12), .second, .val (.long y26), .second, .val (.long y41), .second, .val (.int y56), .val (.int (x5 >>> ((4 : Int32) &&& 31))), .val (.long (x4 ^^^ x3)), .second, .unset, .unset] [(.int y56), (.long (x4 ^^^ x3)), (.long x4), (.int (x5 >>> ((4 : Int32) &&& 31))), (.long y41), (.long y26), (.long y12), (.long x3), (.ref b1), (.ref b1)]))
          obtain ⟨v2, T2, L2, X2, Q2, st2⟩ := own_callC X1 hx hZ (y := (⟨"com/example/pathweave/pathweave/Explorer$Summary", "<init>", "(JJJJIJJZ)V"⟩ : MethodName)) rfl hown (hw _ (List.mem_of_getElem? (i := 3) rfl)) (hw _ (List.mem_of_getElem? (i := 4) rfl)) (hw _ (List.mem_of_getElem? (i := 2) rfl)) (hw _ (List.mem_of_getElem? (i := 5) rfl)) (by decide) (W := 1) (rm2 l Z a0 hw b1 x3 y12 y26 y41 (x5 >>> ((4 : Int32) &&& 31)) x4 (x4 ^^^ x3) y56 h1 n0 Z0 g_b1 E_b1 F_paths_b1 F_cut_b1 F_incomplete_b1 F_fixed_b1 F_inputs_b1 F_forward_b1 F_backward_b1 F_outOfTime_b1) (by decide) (by decide) e1 (g := (mkF m 91 #[.val (.long x0), .second, .val (.long x1), .second, .val (.long x2), .second, .val (.long x3), .second, .val (.long x4), .second, .val (.int x5), .val (.long y12), .second, .val (.long y26), .second, .val (.long y41), .second, .val (.int y56), .val (.int (x5 >>> ((4 : Int32) &&& 31))), .val (.long (x4 ^^^ x3)), .second, .unset, .unset] [(.int y56), (.long (x4 ^^^ x3)), (.long x4), (.int (x5 >>> ((4 : Int32) &&& 31))), (.long y41), (.long y26), (.long y12), (.long x3), (.ref b1), (.ref b1)])) rfl (by rw [hml]; rfl) (a := b1) (argsL := [(.long x3), (.long y12), (.long y26), (.long y41), (.int (x5 >>> ((4 : Int32) &&& 31))), (.long x4), (.long (x4 ^^^ x3)), (.int y56)]) (rest := [(.ref b1)]) own_pd1 rfl rfl (by show 2 * 0 + _ ≤ _; exact Nat.le_of_eq rfl) (hb hby at_91) rfl (by decide) (by decide)
          obtain ⟨rfl, Nq, Kq, Eq, Fc, Fi, Ff, Fo⟩ := Q2
          replace N0 := Fr.app N0 Nq
          refine own_st st2 ?_
          show own_Go p e below G (T2.setTop (mkF m 94 #[.val (.long x0), .second, .val (.long x1), .second, .val (.long x2), .second, .val (.long x3), .second, .val (.long x4), .second, .val (.int x5), .val (.long y12), .second, .val (.long y26), .second, .val (.long y41), .second, .val (.int y56), .val (.int (x5 >>> ((4 : Int32) &&& 31))), .val (.long (x4 ^^^ x3)), .second, .unset, .unset] [(.ref b1)]))
          refine own_st (fun t k => XS.astore X2.here hx rfl (hb hby at_94) rfl rfl (l' := #[.val (.long x0), .second, .val (.long x1), .second, .val (.long x2), .second, .val (.long x3), .second, .val (.long x4), .second, .val (.int x5), .val (.long y12), .second, .val (.long y26), .second, .val (.long y41), .second, .val (.int y56), .val (.int (x5 >>> ((4 : Int32) &&& 31))), .val (.long (x4 ^^^ x3)), .second, .val (.ref b1), .unset]) rfl k) ?_
          show own_Go p e below G (T2.setTop (mkF m 96 #[.val (.long x0), .second, .val (.long x1), .second, .val (.long x2), .second, .val (.long x3), .second, .val (.long x4), .second, .val (.int x5), .val (.long y12), .second, .val (.long y26), .second, .val (.long y41), .second, .val (.int y56), .val (.int (x5 >>> ((4 : Int32) &&& 31))), .val (.long (x4 ^^^ x3)), .second, .val (.ref b1), .unset] []))
          refine own_st (fun t k => XS.lload X2.here hx rfl (hb hby at_96) rfl  k) ?_
          show own_Go p e below G (T2.setTop (mkF m 98 #[.val (.long x0), .second, .val (.long x1), .second, .val (.long x2), .second, .val (.long x3), .second, .val (.long x4), .second, .val (.int x5), .val (.long y12), .second, .val (.long y26), .second, .val (.long y41), .second, .val (.int y56), .val (.int (x5 >>> ((4 : Int32) &&& 31))), .val (.long (x4 ^^^ x3)), .second, .val (.ref b1), .unset] [(.long y12)]))
          refine own_st (fun t k => XS.lload X2.here hx rfl (hb hby at_98) rfl  k) ?_
          show own_Go p e below G (T2.setTop (mkF m 100 #[.val (.long x0), .second, .val (.long x1), .second, .val (.long x2), .second, .val (.long x3), .second, .val (.long x4), .second, .val (.int x5), .val (.long y12), .second, .val (.long y26), .second, .val (.long y41), .second, .val (.int y56), .val (.int (x5 >>> ((4 : Int32) &&& 31))), .val (.long (x4 ^^^ x3)), .second, .val (.ref b1), .unset] [(.long y26), (.long y12)]))
          refine own_st (fun t k => XS.lor X2.here hx rfl (hb hby at_100) rfl k) ?_
          show own_Go p e below G (T2.setTop (mkF m 101 #[.val (.long x0), .second, .val (.long x1), .second, .val (.long x2), .second, .val (.long x3), .second, .val (.long x4), .second, .val (.int x5), .val (.long y12), .second, .val (.long y26), .second, .val (.long y41), .second, .val (.int y56), .val (.int (x5 >>> ((4 : Int32) &&& 31))), .val (.long (x4 ^^^ x3)), .second, .val (.ref b1), .unset] [(.long (y12 ||| y26))]))
          refine own_st (fun t k => XS.lload X2.here hx rfl (hb hby at_101) rfl  k) ?_
          show own_Go p e below G (T2.setTop (mkF m 103 #[.val (.long x0), .second, .val (.long x1), .second, .val (.long x2), .second, .val (.long x3), .second, .val (.long x4), .second, .val (.int x5), .val (.long y12), .second, .val (.long y26), .second, .val (.long y41), .second, .val (.int y56), .val (.int (x5 >>> ((4 : Int32) &&& 31))), .val (.long (x4 ^^^ x3)), .second, .val (.ref b1), .unset] [(.long y41), (.long (y12 ||| y26))]))
          refine own_st (fun t k => XS.lor X2.here hx rfl (hb hby at_103) rfl k) ?_
          show own_Go p e below G (T2.setTop (mkF m 104 #[.val (.long x0), .second, .val (.long x1), .second, .val (.long x2), .second, .val (.long x3), .second, .val (.long x4), .second, .val (.int x5), .val (.long y12), .second, .val (.long y26), .second, .val (.long y41), .second, .val (.int y56), .val (.int (x5 >>> ((4 : Int32) &&& 31))), .val (.long (x4 ^^^ x3)), .second, .val (.ref b1), .unset] [(.long ((y12 ||| y26) ||| y41))]))
          refine own_st (fun t k => XS.lconst X2.here hx rfl (hb hby at_104) k) ?_
          show own_Go p e below G (T2.setTop (mkF m 105 #[.val (.long x0), .second, .val (.long x1), .second, .val (.long x2), .second, .val (.long x3), .second, .val (.long x4), .second, .val (.int x5), .val (.long y12), .second, .val (.long y26), .second, .val (.long y41), .second, .val (.int y56), .val (.int (x5 >>> ((4 : Int32) &&& 31))), .val (.long (x4 ^^^ x3)), .second, .val (.ref b1), .unset] [(.long (0 : Int64)), (.long ((y12 ||| y26) ||| y41))]))
          refine own_st (fun t k => XS.lcmp X2.here hx rfl (hb hby at_105) rfl k) ?_
          show own_Go p e below G (T2.setTop (mkF m 106 #[.val (.long x0), .second, .val (.long x1), .second, .val (.long x2), .second, .val (.long x3), .second, .val (.long x4), .second, .val (.int x5), .val (.long y12), .second, .val (.long y26), .second, .val (.long y41), .second, .val (.int y56), .val (.int (x5 >>> ((4 : Int32) &&& 31))), .val (.long (x4 ^^^ x3)), .second, .val (.ref b1), .unset] [(.int (lcmpW ((y12 ||| y26) ||| y41) (0 : Int64)))]))
          by_cases c106_3 : ((y12 ||| y26) ||| y41) = (0 : Int64)
          · skip
            refine own_st (fun t k => XS.ifNo X2.here hx rfl (hb hby at_106) rfl ((if0 _ _).trans (teq ((lw_eq _ _).2 c106_3)).2) k) ?_
            show own_Go p e below G (T2.setTop (mkF m 109 #[.val (.long x0), .second, .val (.long x1), .second, .val (.long x2), .second, .val (.long x3), .second, .val (.long x4), .second, .val (.int x5), .val (.long y12), .second, .val (.long y26), .second, .val (.long y41), .second, .val (.int y56), .val (.int (x5 >>> ((4 : Int32) &&& 31))), .val (.long (x4 ^^^ x3)), .second, .val (.ref b1), .unset] []))
            refine own_st (fun t k => XS.iload X2.here hx rfl (hb hby at_109) rfl  k) ?_
            show own_Go p e below G (T2.setTop (mkF m 111 #[.val (.long x0), .second, .val (.long x1), .second, .val (.long x2), .second, .val (.long x3), .second, .val (.long x4), .second, .val (.int x5), .val (.long y12), .second, .val (.long y26), .second, .val (.long y41), .second, .val (.int y56), .val (.int (x5 >>> ((4 : Int32) &&& 31))), .val (.long (x4 ^^^ x3)), .second, .val (.ref b1), .unset] [(.int y56)]))
            by_cases c111_4 : y56 = (0 : Int32)
            · skip
              refine own_st (fun t k => XS.ifNo X2.here hx rfl (hb hby at_111) rfl ((if0 _ _).trans (teq c111_4).2) k) ?_
              show own_Go p e below G (T2.setTop (mkF m 114 #[.val (.long x0), .second, .val (.long x1), .second, .val (.long x2), .second, .val (.long x3), .second, .val (.long x4), .second, .val (.int x5), .val (.long y12), .second, .val (.long y26), .second, .val (.long y41), .second, .val (.int y56), .val (.int (x5 >>> ((4 : Int32) &&& 31))), .val (.long (x4 ^^^ x3)), .second, .val (.ref b1), .unset] []))
              refine own_st (fun t k => XS.iconst X2.here hx rfl (hb hby at_114) k) ?_
              show own_Go p e below G (T2.setTop (mkF m 115 #[.val (.long x0), .second, .val (.long x1), .second, .val (.long x2), .second, .val (.long x3), .second, .val (.long x4), .second, .val (.int x5), .val (.long y12), .second, .val (.long y26), .second, .val (.long y41), .second, .val (.int y56), .val (.int (x5 >>> ((4 : Int32) &&& 31))), .val (.long (x4 ^^^ x3)), .second, .val (.ref b1), .unset] [(.int (1 : Int32))]))
              refine own_st (fun t k => XS.goto X2.here hx rfl (pc0 := 115) (pc' := 119) rfl (hb hby at_115) (by decide) (by decide) k) ?_
              show own_Go p e below G (T2.setTop (mkF m 119 #[.val (.long x0), .second, .val (.long x1), .second, .val (.long x2), .second, .val (.long x3), .second, .val (.long x4), .second, .val (.int x5), .val (.long y12), .second, .val (.long y26), .second, .val (.long y41), .second, .val (.int y56), .val (.int (x5 >>> ((4 : Int32) &&& 31))), .val (.long (x4 ^^^ x3)), .second, .val (.ref b1), .unset] [(.int (1 : Int32))]))
              refine own_st (fun t k => XS.istore X2.here hx rfl (hb hby at_119) rfl (l' := #[.val (.long x0), .second, .val (.long x1), .second, .val (.long x2), .second, .val (.long x3), .second, .val (.long x4), .second, .val (.int x5), .val (.long y12), .second, .val (.long y26), .second, .val (.long y41), .second, .val (.int y56), .val (.int (x5 >>> ((4 : Int32) &&& 31))), .val (.long (x4 ^^^ x3)), .second, .val (.ref b1), .val (.int (1 : Int32))]) rfl k) ?_
              show own_Go p e below G (T2.setTop (mkF m 121 #[.val (.long x0), .second, .val (.long x1), .second, .val (.long x2), .second, .val (.long x3), .second, .val (.long x4), .second, .val (.int x5), .val (.long y12), .second, .val (.long y26), .second, .val (.long y41), .second, .val (.int y56), .val (.int (x5 >>> ((4 : Int32) &&& 31))), .val (.long (x4 ^^^ x3)), .second, .val (.ref b1), .val (.int (1 : Int32))] []))
              refine own_st (fun t k => XS.aload X2.here hx rfl (hb hby at_121) rfl rfl  k) ?_
              show own_Go p e below G (T2.setTop (mkF m 123 #[.val (.long x0), .second, .val (.long x1), .second, .val (.long x2), .second, .val (.long x3), .second, .val (.long x4), .second, .val (.int x5), .val (.long y12), .second, .val (.long y26), .second, .val (.long y41), .second, .val (.int y56), .val (.int (x5 >>> ((4 : Int32) &&& 31))), .val (.long (x4 ^^^ x3)), .second, .val (.ref b1), .val (.int (1 : Int32))] [(.ref b1)]))
              obtain ⟨v5, T5, L5, X5, Q5, st5⟩ := own_callV X2 hx hZ (y := (⟨"com/example/pathweave/pathweave/Explorer$Summary", "exhaustive", "()Z"⟩ : MethodName)) (z := (⟨"com/example/pathweave/pathweave/Explorer$Summary", "exhaustive", "()Z"⟩ : MethodName)) hown (hw _ (List.mem_of_getElem? (i := 30) rfl)) (hw _ (List.mem_of_getElem? (i := 31) rfl)) (notFace_of_selects (args := #[]) (mvT hZ (hw _ (List.mem_of_getElem? (i := 33) rfl)))) (hw _ (List.mem_of_getElem? (i := 33) rfl)) (hw _ (List.mem_of_getElem? (i := 32) rfl)) (hw _ (List.mem_of_getElem? (i := 2) rfl)) (hw _ (List.mem_of_getElem? (i := 34) rfl)) (by decide) (W := 0) (rm3 l Z a0 hw b1 y12 y26 y41 (nar .boolean y56) T2.heap Fc Fi Ff Fo) (by decide) (by decide) rfl Eq (g := (mkF m 123 #[.val (.long x0), .second, .val (.long x1), .second, .val (.long x2), .second, .val (.long x3), .second, .val (.long x4), .second, .val (.int x5), .val (.long y12), .second, .val (.long y26), .second, .val (.long y41), .second, .val (.int y56), .val (.int (x5 >>> ((4 : Int32) &&& 31))), .val (.long (x4 ^^^ x3)), .second, .val (.ref b1), .val (.int (1 : Int32))] [(.ref b1)])) rfl (by rw [hml]; rfl) (argsL := []) (rest := []) own_pd2 rfl rfl (by show 2 * 0 + _ ≤ _; exact Nat.le_of_eq rfl) (hb hby at_123) rfl (by decide) (by decide)
              obtain ⟨rfl, rfl, e5⟩ := Q5
              simp only [List.append_nil, Nat.add_zero] at X5
              refine own_st st5 ?_
              show own_Go p e below G (T5.setTop (mkF m 126 #[.val (.long x0), .second, .val (.long x1), .second, .val (.long x2), .second, .val (.long x3), .second, .val (.long x4), .second, .val (.int x5), .val (.long y12), .second, .val (.long y26), .second, .val (.long y41), .second, .val (.int y56), .val (.int (x5 >>> ((4 : Int32) &&& 31))), .val (.long (x4 ^^^ x3)), .second, .val (.ref b1), .val (.int (1 : Int32))] [(.int (own_ex y12 y26 y41 (nar .boolean y56)))]))
              refine own_st (fun t k => XS.iload X5.here hx rfl (hb hby at_126) rfl  k) ?_
              show own_Go p e below G (T5.setTop (mkF m 128 #[.val (.long x0), .second, .val (.long x1), .second, .val (.long x2), .second, .val (.long x3), .second, .val (.long x4), .second, .val (.int x5), .val (.long y12), .second, .val (.long y26), .second, .val (.long y41), .second, .val (.int y56), .val (.int (x5 >>> ((4 : Int32) &&& 31))), .val (.long (x4 ^^^ x3)), .second, .val (.ref b1), .val (.int (1 : Int32))] [(.int (1 : Int32)), (.int (own_ex y12 y26 y41 (nar .boolean y56)))]))
              refine own_st (fun t k => XS.icmpNo X5.here hx rfl (hb hby at_128) rfl (teq ((own_exL y12 y26 y41 y56 hy56).trans (if_pos ⟨c106_3, c111_4⟩))).2 k) ?_
              show own_Go p e below G (T5.setTop (mkF m 131 #[.val (.long x0), .second, .val (.long x1), .second, .val (.long x2), .second, .val (.long x3), .second, .val (.long x4), .second, .val (.int x5), .val (.long y12), .second, .val (.long y26), .second, .val (.long y41), .second, .val (.int y56), .val (.int (x5 >>> ((4 : Int32) &&& 31))), .val (.long (x4 ^^^ x3)), .second, .val (.ref b1), .val (.int (1 : Int32))] []))
              refine own_st (fun t k => XS.iconst X5.here hx rfl (hb hby at_131) k) ?_
              show own_Go p e below G (T5.setTop (mkF m 132 #[.val (.long x0), .second, .val (.long x1), .second, .val (.long x2), .second, .val (.long x3), .second, .val (.long x4), .second, .val (.int x5), .val (.long y12), .second, .val (.long y26), .second, .val (.long y41), .second, .val (.int y56), .val (.int (x5 >>> ((4 : Int32) &&& 31))), .val (.long (x4 ^^^ x3)), .second, .val (.ref b1), .val (.int (1 : Int32))] [(.int (1 : Int32))]))
              refine own_st (fun t k => XS.goto X5.here hx rfl (pc0 := 132) (pc' := 136) rfl (hb hby at_132) (by decide) (by decide) k) ?_
              show own_Go p e below G (T5.setTop (mkF m 136 #[.val (.long x0), .second, .val (.long x1), .second, .val (.long x2), .second, .val (.long x3), .second, .val (.long x4), .second, .val (.int x5), .val (.long y12), .second, .val (.long y26), .second, .val (.long y41), .second, .val (.int y56), .val (.int (x5 >>> ((4 : Int32) &&& 31))), .val (.long (x4 ^^^ x3)), .second, .val (.ref b1), .val (.int (1 : Int32))] [(.int (1 : Int32))]))
              rw [hG]
              exact own_retZ X5 hx hlk (t := .boolean) hret (by simp) (hb hby at_136) ⟨rfl, N0⟩ (by decide) (by decide)
            · skip
              refine own_st (fun t k => XS.ifYes X2.here hx rfl (pc0 := 111) (pc' := 118) rfl (hb hby at_111) rfl ((if0 _ _).trans (feq c111_4).2) (by decide) (by decide) k) ?_
              show own_Go p e below G (T2.setTop (mkF m 118 #[.val (.long x0), .second, .val (.long x1), .second, .val (.long x2), .second, .val (.long x3), .second, .val (.long x4), .second, .val (.int x5), .val (.long y12), .second, .val (.long y26), .second, .val (.long y41), .second, .val (.int y56), .val (.int (x5 >>> ((4 : Int32) &&& 31))), .val (.long (x4 ^^^ x3)), .second, .val (.ref b1), .unset] []))
              refine own_st (fun t k => XS.iconst X2.here hx rfl (hb hby at_118) k) ?_
              show own_Go p e below G (T2.setTop (mkF m 119 #[.val (.long x0), .second, .val (.long x1), .second, .val (.long x2), .second, .val (.long x3), .second, .val (.long x4), .second, .val (.int x5), .val (.long y12), .second, .val (.long y26), .second, .val (.long y41), .second, .val (.int y56), .val (.int (x5 >>> ((4 : Int32) &&& 31))), .val (.long (x4 ^^^ x3)), .second, .val (.ref b1), .unset] [(.int (0 : Int32))]))
              refine own_st (fun t k => XS.istore X2.here hx rfl (hb hby at_119) rfl (l' := #[.val (.long x0), .second, .val (.long x1), .second, .val (.long x2), .second, .val (.long x3), .second, .val (.long x4), .second, .val (.int x5), .val (.long y12), .second, .val (.long y26), .second, .val (.long y41), .second, .val (.int y56), .val (.int (x5 >>> ((4 : Int32) &&& 31))), .val (.long (x4 ^^^ x3)), .second, .val (.ref b1), .val (.int (0 : Int32))]) rfl k) ?_
              show own_Go p e below G (T2.setTop (mkF m 121 #[.val (.long x0), .second, .val (.long x1), .second, .val (.long x2), .second, .val (.long x3), .second, .val (.long x4), .second, .val (.int x5), .val (.long y12), .second, .val (.long y26), .second, .val (.long y41), .second, .val (.int y56), .val (.int (x5 >>> ((4 : Int32) &&& 31))), .val (.long (x4 ^^^ x3)), .second, .val (.ref b1), .val (.int (0 : Int32))] []))
              refine own_st (fun t k => XS.aload X2.here hx rfl (hb hby at_121) rfl rfl  k) ?_
              show own_Go p e below G (T2.setTop (mkF m 123 #[.val (.long x0), .second, .val (.long x1), .second, .val (.long x2), .second, .val (.long x3), .second, .val (.long x4), .second, .val (.int x5), .val (.long y12), .second, .val (.long y26), .second, .val (.long y41), .second, .val (.int y56), .val (.int (x5 >>> ((4 : Int32) &&& 31))), .val (.long (x4 ^^^ x3)), .second, .val (.ref b1), .val (.int (0 : Int32))] [(.ref b1)]))
              obtain ⟨v6, T6, L6, X6, Q6, st6⟩ := own_callV X2 hx hZ (y := (⟨"com/example/pathweave/pathweave/Explorer$Summary", "exhaustive", "()Z"⟩ : MethodName)) (z := (⟨"com/example/pathweave/pathweave/Explorer$Summary", "exhaustive", "()Z"⟩ : MethodName)) hown (hw _ (List.mem_of_getElem? (i := 30) rfl)) (hw _ (List.mem_of_getElem? (i := 31) rfl)) (notFace_of_selects (args := #[]) (mvT hZ (hw _ (List.mem_of_getElem? (i := 33) rfl)))) (hw _ (List.mem_of_getElem? (i := 33) rfl)) (hw _ (List.mem_of_getElem? (i := 32) rfl)) (hw _ (List.mem_of_getElem? (i := 2) rfl)) (hw _ (List.mem_of_getElem? (i := 34) rfl)) (by decide) (W := 0) (rm3 l Z a0 hw b1 y12 y26 y41 (nar .boolean y56) T2.heap Fc Fi Ff Fo) (by decide) (by decide) rfl Eq (g := (mkF m 123 #[.val (.long x0), .second, .val (.long x1), .second, .val (.long x2), .second, .val (.long x3), .second, .val (.long x4), .second, .val (.int x5), .val (.long y12), .second, .val (.long y26), .second, .val (.long y41), .second, .val (.int y56), .val (.int (x5 >>> ((4 : Int32) &&& 31))), .val (.long (x4 ^^^ x3)), .second, .val (.ref b1), .val (.int (0 : Int32))] [(.ref b1)])) rfl (by rw [hml]; rfl) (argsL := []) (rest := []) own_pd2 rfl rfl (by show 2 * 0 + _ ≤ _; exact Nat.le_of_eq rfl) (hb hby at_123) rfl (by decide) (by decide)
              obtain ⟨rfl, rfl, e6⟩ := Q6
              simp only [List.append_nil, Nat.add_zero] at X6
              refine own_st st6 ?_
              show own_Go p e below G (T6.setTop (mkF m 126 #[.val (.long x0), .second, .val (.long x1), .second, .val (.long x2), .second, .val (.long x3), .second, .val (.long x4), .second, .val (.int x5), .val (.long y12), .second, .val (.long y26), .second, .val (.long y41), .second, .val (.int y56), .val (.int (x5 >>> ((4 : Int32) &&& 31))), .val (.long (x4 ^^^ x3)), .second, .val (.ref b1), .val (.int (0 : Int32))] [(.int (own_ex y12 y26 y41 (nar .boolean y56)))]))
              refine own_st (fun t k => XS.iload X6.here hx rfl (hb hby at_126) rfl  k) ?_
              show own_Go p e below G (T6.setTop (mkF m 128 #[.val (.long x0), .second, .val (.long x1), .second, .val (.long x2), .second, .val (.long x3), .second, .val (.long x4), .second, .val (.int x5), .val (.long y12), .second, .val (.long y26), .second, .val (.long y41), .second, .val (.int y56), .val (.int (x5 >>> ((4 : Int32) &&& 31))), .val (.long (x4 ^^^ x3)), .second, .val (.ref b1), .val (.int (0 : Int32))] [(.int (0 : Int32)), (.int (own_ex y12 y26 y41 (nar .boolean y56)))]))
              refine own_st (fun t k => XS.icmpNo X6.here hx rfl (hb hby at_128) rfl (teq ((own_exL y12 y26 y41 y56 hy56).trans (if_neg (fun q => c111_4 q.2)))).2 k) ?_
              show own_Go p e below G (T6.setTop (mkF m 131 #[.val (.long x0), .second, .val (.long x1), .second, .val (.long x2), .second, .val (.long x3), .second, .val (.long x4), .second, .val (.int x5), .val (.long y12), .second, .val (.long y26), .second, .val (.long y41), .second, .val (.int y56), .val (.int (x5 >>> ((4 : Int32) &&& 31))), .val (.long (x4 ^^^ x3)), .second, .val (.ref b1), .val (.int (0 : Int32))] []))
              refine own_st (fun t k => XS.iconst X6.here hx rfl (hb hby at_131) k) ?_
              show own_Go p e below G (T6.setTop (mkF m 132 #[.val (.long x0), .second, .val (.long x1), .second, .val (.long x2), .second, .val (.long x3), .second, .val (.long x4), .second, .val (.int x5), .val (.long y12), .second, .val (.long y26), .second, .val (.long y41), .second, .val (.int y56), .val (.int (x5 >>> ((4 : Int32) &&& 31))), .val (.long (x4 ^^^ x3)), .second, .val (.ref b1), .val (.int (0 : Int32))] [(.int (1 : Int32))]))
              refine own_st (fun t k => XS.goto X6.here hx rfl (pc0 := 132) (pc' := 136) rfl (hb hby at_132) (by decide) (by decide) k) ?_
              show own_Go p e below G (T6.setTop (mkF m 136 #[.val (.long x0), .second, .val (.long x1), .second, .val (.long x2), .second, .val (.long x3), .second, .val (.long x4), .second, .val (.int x5), .val (.long y12), .second, .val (.long y26), .second, .val (.long y41), .second, .val (.int y56), .val (.int (x5 >>> ((4 : Int32) &&& 31))), .val (.long (x4 ^^^ x3)), .second, .val (.ref b1), .val (.int (0 : Int32))] [(.int (1 : Int32))]))
              rw [hG]
              exact own_retZ X6 hx hlk (t := .boolean) hret (by simp) (hb hby at_136) ⟨rfl, N0⟩ (by decide) (by decide)
          · skip
            refine own_st (fun t k => XS.ifYes X2.here hx rfl (pc0 := 106) (pc' := 118) rfl (hb hby at_106) rfl ((if0 _ _).trans (feq (fun q => c106_3 ((lw_eq _ _).1 q))).2) (by decide) (by decide) k) ?_
            show own_Go p e below G (T2.setTop (mkF m 118 #[.val (.long x0), .second, .val (.long x1), .second, .val (.long x2), .second, .val (.long x3), .second, .val (.long x4), .second, .val (.int x5), .val (.long y12), .second, .val (.long y26), .second, .val (.long y41), .second, .val (.int y56), .val (.int (x5 >>> ((4 : Int32) &&& 31))), .val (.long (x4 ^^^ x3)), .second, .val (.ref b1), .unset] []))
            refine own_st (fun t k => XS.iconst X2.here hx rfl (hb hby at_118) k) ?_
            show own_Go p e below G (T2.setTop (mkF m 119 #[.val (.long x0), .second, .val (.long x1), .second, .val (.long x2), .second, .val (.long x3), .second, .val (.long x4), .second, .val (.int x5), .val (.long y12), .second, .val (.long y26), .second, .val (.long y41), .second, .val (.int y56), .val (.int (x5 >>> ((4 : Int32) &&& 31))), .val (.long (x4 ^^^ x3)), .second, .val (.ref b1), .unset] [(.int (0 : Int32))]))
            refine own_st (fun t k => XS.istore X2.here hx rfl (hb hby at_119) rfl (l' := #[.val (.long x0), .second, .val (.long x1), .second, .val (.long x2), .second, .val (.long x3), .second, .val (.long x4), .second, .val (.int x5), .val (.long y12), .second, .val (.long y26), .second, .val (.long y41), .second, .val (.int y56), .val (.int (x5 >>> ((4 : Int32) &&& 31))), .val (.long (x4 ^^^ x3)), .second, .val (.ref b1), .val (.int (0 : Int32))]) rfl k) ?_
            show own_Go p e below G (T2.setTop (mkF m 121 #[.val (.long x0), .second, .val (.long x1), .second, .val (.long x2), .second, .val (.long x3), .second, .val (.long x4), .second, .val (.int x5), .val (.long y12), .second, .val (.long y26), .second, .val (.long y41), .second, .val (.int y56), .val (.int (x5 >>> ((4 : Int32) &&& 31))), .val (.long (x4 ^^^ x3)), .second, .val (.ref b1), .val (.int (0 : Int32))] []))
            refine own_st (fun t k => XS.aload X2.here hx rfl (hb hby at_121) rfl rfl  k) ?_
            show own_Go p e below G (T2.setTop (mkF m 123 #[.val (.long x0), .second, .val (.long x1), .second, .val (.long x2), .second, .val (.long x3), .second, .val (.long x4), .second, .val (.int x5), .val (.long y12), .second, .val (.long y26), .second, .val (.long y41), .second, .val (.int y56), .val (.int (x5 >>> ((4 : Int32) &&& 31))), .val (.long (x4 ^^^ x3)), .second, .val (.ref b1), .val (.int (0 : Int32))] [(.ref b1)]))
            obtain ⟨v7, T7, L7, X7, Q7, st7⟩ := own_callV X2 hx hZ (y := (⟨"com/example/pathweave/pathweave/Explorer$Summary", "exhaustive", "()Z"⟩ : MethodName)) (z := (⟨"com/example/pathweave/pathweave/Explorer$Summary", "exhaustive", "()Z"⟩ : MethodName)) hown (hw _ (List.mem_of_getElem? (i := 30) rfl)) (hw _ (List.mem_of_getElem? (i := 31) rfl)) (notFace_of_selects (args := #[]) (mvT hZ (hw _ (List.mem_of_getElem? (i := 33) rfl)))) (hw _ (List.mem_of_getElem? (i := 33) rfl)) (hw _ (List.mem_of_getElem? (i := 32) rfl)) (hw _ (List.mem_of_getElem? (i := 2) rfl)) (hw _ (List.mem_of_getElem? (i := 34) rfl)) (by decide) (W := 0) (rm3 l Z a0 hw b1 y12 y26 y41 (nar .boolean y56) T2.heap Fc Fi Ff Fo) (by decide) (by decide) rfl Eq (g := (mkF m 123 #[.val (.long x0), .second, .val (.long x1), .second, .val (.long x2), .second, .val (.long x3), .second, .val (.long x4), .second, .val (.int x5), .val (.long y12), .second, .val (.long y26), .second, .val (.long y41), .second, .val (.int y56), .val (.int (x5 >>> ((4 : Int32) &&& 31))), .val (.long (x4 ^^^ x3)), .second, .val (.ref b1), .val (.int (0 : Int32))] [(.ref b1)])) rfl (by rw [hml]; rfl) (argsL := []) (rest := []) own_pd2 rfl rfl (by show 2 * 0 + _ ≤ _; exact Nat.le_of_eq rfl) (hb hby at_123) rfl (by decide) (by decide)
            obtain ⟨rfl, rfl, e7⟩ := Q7
            simp only [List.append_nil, Nat.add_zero] at X7
            refine own_st st7 ?_
            show own_Go p e below G (T7.setTop (mkF m 126 #[.val (.long x0), .second, .val (.long x1), .second, .val (.long x2), .second, .val (.long x3), .second, .val (.long x4), .second, .val (.int x5), .val (.long y12), .second, .val (.long y26), .second, .val (.long y41), .second, .val (.int y56), .val (.int (x5 >>> ((4 : Int32) &&& 31))), .val (.long (x4 ^^^ x3)), .second, .val (.ref b1), .val (.int (0 : Int32))] [(.int (own_ex y12 y26 y41 (nar .boolean y56)))]))
            refine own_st (fun t k => XS.iload X7.here hx rfl (hb hby at_126) rfl  k) ?_
            show own_Go p e below G (T7.setTop (mkF m 128 #[.val (.long x0), .second, .val (.long x1), .second, .val (.long x2), .second, .val (.long x3), .second, .val (.long x4), .second, .val (.int x5), .val (.long y12), .second, .val (.long y26), .second, .val (.long y41), .second, .val (.int y56), .val (.int (x5 >>> ((4 : Int32) &&& 31))), .val (.long (x4 ^^^ x3)), .second, .val (.ref b1), .val (.int (0 : Int32))] [(.int (0 : Int32)), (.int (own_ex y12 y26 y41 (nar .boolean y56)))]))
            refine own_st (fun t k => XS.icmpNo X7.here hx rfl (hb hby at_128) rfl (teq ((own_exL y12 y26 y41 y56 hy56).trans (if_neg (fun q => c106_3 q.1)))).2 k) ?_
            show own_Go p e below G (T7.setTop (mkF m 131 #[.val (.long x0), .second, .val (.long x1), .second, .val (.long x2), .second, .val (.long x3), .second, .val (.long x4), .second, .val (.int x5), .val (.long y12), .second, .val (.long y26), .second, .val (.long y41), .second, .val (.int y56), .val (.int (x5 >>> ((4 : Int32) &&& 31))), .val (.long (x4 ^^^ x3)), .second, .val (.ref b1), .val (.int (0 : Int32))] []))
            refine own_st (fun t k => XS.iconst X7.here hx rfl (hb hby at_131) k) ?_
            show own_Go p e below G (T7.setTop (mkF m 132 #[.val (.long x0), .second, .val (.long x1), .second, .val (.long x2), .second, .val (.long x3), .second, .val (.long x4), .second, .val (.int x5), .val (.long y12), .second, .val (.long y26), .second, .val (.long y41), .second, .val (.int y56), .val (.int (x5 >>> ((4 : Int32) &&& 31))), .val (.long (x4 ^^^ x3)), .second, .val (.ref b1), .val (.int (0 : Int32))] [(.int (1 : Int32))]))
            refine own_st (fun t k => XS.goto X7.here hx rfl (pc0 := 132) (pc' := 136) rfl (hb hby at_132) (by decide) (by decide) k) ?_
            show own_Go p e below G (T7.setTop (mkF m 136 #[.val (.long x0), .second, .val (.long x1), .second, .val (.long x2), .second, .val (.long x3), .second, .val (.long x4), .second, .val (.int x5), .val (.long y12), .second, .val (.long y26), .second, .val (.long y41), .second, .val (.int y56), .val (.int (x5 >>> ((4 : Int32) &&& 31))), .val (.long (x4 ^^^ x3)), .second, .val (.ref b1), .val (.int (0 : Int32))] [(.int (1 : Int32))]))
            rw [hG]
            exact own_retZ X7 hx hlk (t := .boolean) hret (by simp) (hb hby at_136) ⟨rfl, N0⟩ (by decide) (by decide)
        by_cases c48_8 : (x5 &&& (8 : Int32)) = (0 : Int32)
        · skip
          refine own_st (fun t k => XS.ifYes X0.here hx rfl (pc0 := 48) (pc' := 55) rfl (hb hby at_48) rfl ((if0 _ _).trans (teq c48_8).1) (by decide) (by decide) k) ?_
          show own_Go p e below G (s₁.setTop (mkF m 55 #[.val (.long x0), .second, .val (.long x1), .second, .val (.long x2), .second, .val (.long x3), .second, .val (.long x4), .second, .val (.int x5), .val (.long y12), .second, .val (.long y26), .second, .val (.long y41), .second, .unset, .unset, .unset, .unset, .unset, .unset] []))
          refine own_st (fun t k => XS.iconst X0.here hx rfl (hb hby at_55) k) ?_
          show own_Go p e below G (s₁.setTop (mkF m 56 #[.val (.long x0), .second, .val (.long x1), .second, .val (.long x2), .second, .val (.long x3), .second, .val (.long x4), .second, .val (.int x5), .val (.long y12), .second, .val (.long y26), .second, .val (.long y41), .second, .unset, .unset, .unset, .unset, .unset, .unset] [(.int (0 : Int32))]))
          exact J56 _ (Or.inl rfl)
        · skip
          refine own_st (fun t k => XS.ifNo X0.here hx rfl (hb hby at_48) rfl ((if0 _ _).trans (feq c48_8).1) k) ?_
          show own_Go p e below G (s₁.setTop (mkF m 51 #[.val (.long x0), .second, .val (.long x1), .second, .val (.long x2), .second, .val (.long x3), .second, .val (.long x4), .second, .val (.int x5), .val (.long y12), .second, .val (.long y26), .second, .val (.long y41), .second, .unset, .unset, .unset, .unset, .unset, .unset] []))
          refine own_st (fun t k => XS.iconst X0.here hx rfl (hb hby at_51) k) ?_
          show own_Go p e below G (s₁.setTop (mkF m 52 #[.val (.long x0), .second, .val (.long x1), .second, .val (.long x2), .second, .val (.long x3), .second, .val (.long x4), .second, .val (.int x5), .val (.long y12), .second, .val (.long y26), .second, .val (.long y41), .second, .unset, .unset, .unset, .unset, .unset, .unset] [(.int (1 : Int32))]))
          refine own_st (fun t k => XS.goto X0.here hx rfl (pc0 := 52) (pc' := 56) rfl (hb hby at_52) (by decide) (by decide) k) ?_
          show own_Go p e below G (s₁.setTop (mkF m 56 #[.val (.long x0), .second, .val (.long x1), .second, .val (.long x2), .second, .val (.long x3), .second, .val (.long x4), .second, .val (.int x5), .val (.long y12), .second, .val (.long y26), .second, .val (.long y41), .second, .unset, .unset, .unset, .unset, .unset, .unset] [(.int (1 : Int32))]))
          exact J56 _ (Or.inr rfl)
      by_cases c32_9 : (x5 &&& (4 : Int32)) = (0 : Int32)
      · skip
        refine own_st (fun t k => XS.ifYes X0.here hx rfl (pc0 := 32) (pc' := 39) rfl (hb hby at_32) rfl ((if0 _ _).trans (teq c32_9).1) (by decide) (by decide) k) ?_
        show own_Go p e below G (s₁.setTop (mkF m 39 #[.val (.long x0), .second, .val (.long x1), .second, .val (.long x2), .second, .val (.long x3), .second, .val (.long x4), .second, .val (.int x5), .val (.long y12), .second, .val (.long y26), .second, .unset, .unset, .unset, .unset, .unset, .unset, .unset, .unset] []))
        refine own_st (fun t k => XS.lload X0.here hx rfl (hb hby at_39) rfl  k) ?_
        show own_Go p e below G (s₁.setTop (mkF m 41 #[.val (.long x0), .second, .val (.long x1), .second, .val (.long x2), .second, .val (.long x3), .second, .val (.long x4), .second, .val (.int x5), .val (.long y12), .second, .val (.long y26), .second, .unset, .unset, .unset, .unset, .unset, .unset, .unset, .unset] [(.long x2)]))
        exact J41 _
      · skip
        refine own_st (fun t k => XS.ifNo X0.here hx rfl (hb hby at_32) rfl ((if0 _ _).trans (feq c32_9).1) k) ?_
        show own_Go p e below G (s₁.setTop (mkF m 35 #[.val (.long x0), .second, .val (.long x1), .second, .val (.long x2), .second, .val (.long x3), .second, .val (.long x4), .second, .val (.int x5), .val (.long y12), .second, .val (.long y26), .second, .unset, .unset, .unset, .unset, .unset, .unset, .unset, .unset] []))
        refine own_st (fun t k => XS.lconst X0.here hx rfl (hb hby at_35) k) ?_
        show own_Go p e below G (s₁.setTop (mkF m 36 #[.val (.long x0), .second, .val (.long x1), .second, .val (.long x2), .second, .val (.long x3), .second, .val (.long x4), .second, .val (.int x5), .val (.long y12), .second, .val (.long y26), .second, .unset, .unset, .unset, .unset, .unset, .unset, .unset, .unset] [(.long (0 : Int64))]))
        refine own_st (fun t k => XS.goto X0.here hx rfl (pc0 := 36) (pc' := 41) rfl (hb hby at_36) (by decide) (by decide) k) ?_
        show own_Go p e below G (s₁.setTop (mkF m 41 #[.val (.long x0), .second, .val (.long x1), .second, .val (.long x2), .second, .val (.long x3), .second, .val (.long x4), .second, .val (.int x5), .val (.long y12), .second, .val (.long y26), .second, .unset, .unset, .unset, .unset, .unset, .unset, .unset, .unset] [(.long (0 : Int64))]))
        exact J41 _
    by_cases c18_10 : (x5 &&& (2 : Int32)) = (0 : Int32)
    · skip
      refine own_st (fun t k => XS.ifYes X0.here hx rfl (pc0 := 18) (pc' := 25) rfl (hb hby at_18) rfl ((if0 _ _).trans (teq c18_10).1) (by decide) (by decide) k) ?_
      show own_Go p e below G (s₁.setTop (mkF m 25 #[.val (.long x0), .second, .val (.long x1), .second, .val (.long x2), .second, .val (.long x3), .second, .val (.long x4), .second, .val (.int x5), .val (.long y12), .second, .unset, .unset, .unset, .unset, .unset, .unset, .unset, .unset, .unset, .unset] []))
      refine own_st (fun t k => XS.lloadN X0.here hx rfl (hb hby at_25) rfl  k) ?_
      show own_Go p e below G (s₁.setTop (mkF m 26 #[.val (.long x0), .second, .val (.long x1), .second, .val (.long x2), .second, .val (.long x3), .second, .val (.long x4), .second, .val (.int x5), .val (.long y12), .second, .unset, .unset, .unset, .unset, .unset, .unset, .unset, .unset, .unset, .unset] [(.long x1)]))
      exact J26 _
    · skip
      refine own_st (fun t k => XS.ifNo X0.here hx rfl (hb hby at_18) rfl ((if0 _ _).trans (feq c18_10).1) k) ?_
      show own_Go p e below G (s₁.setTop (mkF m 21 #[.val (.long x0), .second, .val (.long x1), .second, .val (.long x2), .second, .val (.long x3), .second, .val (.long x4), .second, .val (.int x5), .val (.long y12), .second, .unset, .unset, .unset, .unset, .unset, .unset, .unset, .unset, .unset, .unset] []))
      refine own_st (fun t k => XS.lconst X0.here hx rfl (hb hby at_21) k) ?_
      show own_Go p e below G (s₁.setTop (mkF m 22 #[.val (.long x0), .second, .val (.long x1), .second, .val (.long x2), .second, .val (.long x3), .second, .val (.long x4), .second, .val (.int x5), .val (.long y12), .second, .unset, .unset, .unset, .unset, .unset, .unset, .unset, .unset, .unset, .unset] [(.long (0 : Int64))]))
      refine own_st (fun t k => XS.goto X0.here hx rfl (pc0 := 22) (pc' := 26) rfl (hb hby at_22) (by decide) (by decide) k) ?_
      show own_Go p e below G (s₁.setTop (mkF m 26 #[.val (.long x0), .second, .val (.long x1), .second, .val (.long x2), .second, .val (.long x3), .second, .val (.long x4), .second, .val (.int x5), .val (.long y12), .second, .unset, .unset, .unset, .unset, .unset, .unset, .unset, .unset, .unset, .unset] [(.long (0 : Int64))]))
      exact J26 _
  by_cases c4_11 : (x5 &&& (1 : Int32)) = (0 : Int32)
  · skip
    refine own_st (fun t k => XS.ifYes X0.here hx rfl (pc0 := 4) (pc' := 11) rfl (hb hby at_4) rfl ((if0 _ _).trans (teq c4_11).1) (by decide) (by decide) k) ?_
    show own_Go p e below G (s₁.setTop (mkF m 11 #[.val (.long x0), .second, .val (.long x1), .second, .val (.long x2), .second, .val (.long x3), .second, .val (.long x4), .second, .val (.int x5), .unset, .unset, .unset, .unset, .unset, .unset, .unset, .unset, .unset, .unset, .unset, .unset] []))
    refine own_st (fun t k => XS.lloadN X0.here hx rfl (hb hby at_11) rfl  k) ?_
    show own_Go p e below G (s₁.setTop (mkF m 12 #[.val (.long x0), .second, .val (.long x1), .second, .val (.long x2), .second, .val (.long x3), .second, .val (.long x4), .second, .val (.int x5), .unset, .unset, .unset, .unset, .unset, .unset, .unset, .unset, .unset, .unset, .unset, .unset] [(.long x0)]))
    exact J12 _
  · skip
    refine own_st (fun t k => XS.ifNo X0.here hx rfl (hb hby at_4) rfl ((if0 _ _).trans (feq c4_11).1) k) ?_
    show own_Go p e below G (s₁.setTop (mkF m 7 #[.val (.long x0), .second, .val (.long x1), .second, .val (.long x2), .second, .val (.long x3), .second, .val (.long x4), .second, .val (.int x5), .unset, .unset, .unset, .unset, .unset, .unset, .unset, .unset, .unset, .unset, .unset, .unset] []))
    refine own_st (fun t k => XS.lconst X0.here hx rfl (hb hby at_7) k) ?_
    show own_Go p e below G (s₁.setTop (mkF m 8 #[.val (.long x0), .second, .val (.long x1), .second, .val (.long x2), .second, .val (.long x3), .second, .val (.long x4), .second, .val (.int x5), .unset, .unset, .unset, .unset, .unset, .unset, .unset, .unset, .unset, .unset, .unset, .unset] [(.long (0 : Int64))]))
    refine own_st (fun t k => XS.goto X0.here hx rfl (pc0 := 8) (pc' := 12) rfl (hb hby at_8) (by decide) (by decide) k) ?_
    show own_Go p e below G (s₁.setTop (mkF m 12 #[.val (.long x0), .second, .val (.long x1), .second, .val (.long x2), .second, .val (.long x3), .second, .val (.long x4), .second, .val (.int x5), .unset, .unset, .unset, .unset, .unset, .unset, .unset, .unset, .unset, .unset, .unset, .unset] [(.long (0 : Int64))]))
    exact J12 _
set_option maxRecDepth 65536 in
set_option maxHeartbeats 40000000 in
theorem comes_1 {Post : Tables → Env → Array Value → State → Outcome → State → Prop} (hpost : ∀ tb e args s v u, (limb_1_1.after args s (.returned v) u = true ∧ limb_1_2.after args s (.returned v) u = true) → FrameEnd s (.returned v) u (Jvm.fieldLocs frame_1_writes args s ++ Jvm.arrayLocs frame_1_arrays args s ++ Jvm.staticLocs frame_1_statics s) 16 128 → Post tb e args s (.returned v) u) :
    ArmFor flags0 classFile x code maxLocals ret World_1 tables_1 room_1 Calls_1 rest_1 Pre_1 Post := by
  intro l hfl _ _ p e ha hc hk s m args below hf hA hF happ hP
  obtain ⟨hcalls, hrest, hpre⟩ := hP
  obtain ⟨-, -, -, hnamed, -, -, -, hat⟩ := (Spec.applies_iff hf).mp happ
  obtain ⟨hg, hn⟩ := and_e (Cond.before_iff.mp (show (Jvm.Cond.and given_1 narrow_1).before args s = true from hpre))
  obtain ⟨gc, gr0⟩ := and_e hg
  obtain ⟨gv0, gr1⟩ := and_e gr0
  obtain ⟨gv1, gr2⟩ := and_e gr1
  obtain ⟨gv2, gr3⟩ := and_e gr2
  obtain ⟨gv3, gr4⟩ := and_e gr3
  obtain ⟨gv4, gv5⟩ := and_e gr4
  obtain ⟨w0, w1, w2, w3, w4, w5, rfl⟩ : ∃ w0 w1 w2 w3 w4 w5 : Value, args = #[w0, w1, w2, w3, w4, w5] := by
    have hs : args.size = 6 := by simpa [Cond.value, given_1] using gc
    obtain ⟨L⟩ := args
    match L, hs with
    | [w0, w1, w2, w3, w4, w5], _ => exact ⟨w0, w1, w2, w3, w4, w5, rfl⟩
  have hw := fun d (hd : d ∈ tables_1) => atoms_spec (ws := Jvm.Cond.code x code maxLocals ret :: tables_1) hat d (List.mem_cons_of_mem _ hd)
  have hfit : Fit s := fun {y c} hc i hi => by
    obtain ⟨ha, rfl⟩ := Array.getElem?_eq_some_iff.mp hc
    have q := List.all_eq_true.mp ((Array.all_eq_true_iff_forall_mem.mp hF) _ (Array.getElem_mem ha)) i (List.mem_range.mpr hi)
    simpa [Array.getElem?_eq_getElem hi] using q
  obtain ⟨i0, ei0⟩ := isL_v gv0
  obtain rfl : w0 = (.long i0) := Option.some.inj ei0
  obtain ⟨i1, ei1⟩ := isL_v gv1
  obtain rfl : w1 = (.long i1) := Option.some.inj ei1
  obtain ⟨i2, ei2⟩ := isL_v gv2
  obtain rfl : w2 = (.long i2) := Option.some.inj ei2
  obtain ⟨i3, ei3⟩ := isL_v gv3
  obtain rfl : w3 = (.long i3) := Option.some.inj ei3
  obtain ⟨i4, ei4⟩ := isL_v gv4
  obtain rfl : w4 = (.long i4) := Option.some.inj ei4
  obtain ⟨i5, ei5⟩ := is_v gv5
  obtain rfl : w5 = (.int i5) := Option.some.inj ei5
  obtain ⟨n, o, h1, h2, h3, _, L, rfl, ⟨rfl, N⟩, hq⟩ := rm0 l s _ hw tables_1 i0 i1 i2 i3 i4 i5 s.heap s.heap.size (Nat.le_refl _) p e ha hc hk s m _ below hf ((Spec.applies_iff_loose hf).mp happ).1 ⟨rfl, State.Warmed39.refl s, rfl⟩ trivial
  refine ⟨n, _, h1, h2, h3, hpost _ _ _ _ _ _ ⟨Cond.after_iff.mpr rfl, Cond.after_iff.mpr (eq_i res_at (Term.int_eval (1)) rfl)⟩ ⟨hq.1, hq.2.1, (hq.2.2.sift fun y hy => Or.inr (N y hy)).mono (by decide) (by decide)⟩⟩
theorem main_1_1 : Claimed_1_1 := comes_1 fun _ _ _ _ _ _ h hF => ⟨h.1, hF⟩
theorem main_1_2 : Claimed_1_2 := comes_1 fun _ _ _ _ _ _ h hF => ⟨h.2, hF⟩
end Jvm.Pilot.@@N@@
namespace Jvm.Pilot.@@N@@
open Jvm Jvm.ClassFile Sem Op Lib Jvm.Free Jvm.Stand Jvm.Pilot.@@N@@.Jvm.D
/-! MADE BY PROGRAM (witnessworld.py) out of the Statement's table words and the real class files: 10 classes; the members and pool entries that the words name. The judged class is class 1, her method 1. -/
namespace start1
open Jvm.ClassFile
def u (s : String) : CpInfo := .utf8 (stringToUtf16 s)
/-- a pool by its gaps: so many unusable entries, then the entry; so many at the end -/
def gap : Nat → List CpInfo → List CpInfo
  | 0, r => r
  | n + 1, r => .unusable :: gap n r
def poolList (es : List (Nat × CpInfo)) (last : Nat) : List CpInfo := es.foldr (fun e r => gap e.1 (e.2 :: r)) (gap last [])
def pool (es : List (Nat × CpInfo)) (last : Nat) : Array CpInfo := ⟨poolList es last⟩
def fileOf (pool : Array CpInfo) (this : Nat) (attrs : Array Attribute := #[]) (ms : Array MethodInfo := #[]) (fl : Nat := 33) (sup : Nat := 0) (ifs : Array Nat := #[]) (fds : Array FieldInfo := #[]) : ClassFile where
  minorVersion := 0
  majorVersion := 65
  constantPool := pool
  accessFlags := fl
  thisClass := this
  superClass := sup
  interfaces := ifs
  fields := fds
  methods := ms
  attributes := attrs
def plain (name : String) (sup : Option ClassId) : Class where
  name := name
  kind := .ordinary
  loader := none
  accessFlags := 33
  super := sup
  interfaces := #[]
  cf := none
  fields := #[]
  methods := #[]
  instanceTypes := #[]
  staticTypes := #[]
  resolved := #[]
  callSites := []
  init := .initialized
  statics := none
  mirror := none

def pool0 : Array CpInfo := pool [(5, u "<init>"), (0, u "()V"), (1, .class_ 10), (1, u "java/lang/Object")] 113

def k0c0 : Code := { maxStack := 0, maxLocals := 1, code := object_method_1_code, exceptionTable := #[], attributes := #[] }
def k0m0 : Method := { name := "<init>", desc := "()V", sig := { parameters := [], returnType := none }, accessFlags := 1, code := some k0c0 }
/-- java/lang/Object -/
def k0 : Class := { plain "java/lang/Object" none with
  accessFlags := 33
  interfaces := #[]
  cf := some (fileOf pool0 8 #[] #[{ accessFlags := 1, nameIndex := 5, descriptorIndex := 6, attributes := #[] }] 33 0 #[] #[])
  fields := #[]
  methods := #[k0m0]
  instanceTypes := #[]
  staticTypes := #[]
  resolved := Array.replicate 124 none
  statics := none }

def pool1 : Array CpInfo := pool [(2, .class_ 4), (1, u "java/lang/Object"), (0, u "<init>"), (0, u "()V"), (0, .class_ 8), (0, u "com/example/pathweave/pathweave/Explorer$Summary"), (0, .methodref 7 10), (0, .nameAndType 5 11), (0, u "(JJJJIJJZ)V"), (0, .methodref 7 13), (0, .nameAndType 14 15), (0, u "exhaustive"), (0, u "()Z"), (0, .class_ 17), (0, u "com/example/pathweave/pathweave/SummaryExhaustivePinLaw"), (2, u "law"), (0, u "(JJJJJI)Z")] 7

def k1m0 : Method := { name := "<init>", desc := "()V", sig := { parameters := [], returnType := none }, accessFlags := 1, code := none }
def k1c1 : Code := { maxStack := 16, maxLocals := 23, code := code, exceptionTable := #[], attributes := #[] }
def k1m1 : Method := { name := "law", desc := "(JJJJJI)Z", sig := { parameters := [.long, .long, .long, .long, .long, .int], returnType := some .boolean }, accessFlags := 9, code := some k1c1 }
/-- com/example/pathweave/pathweave/SummaryExhaustivePinLaw -/
def k1 : Class := { plain "com/example/pathweave/pathweave/SummaryExhaustivePinLaw" (some 0) with
  accessFlags := 49
  interfaces := #[]
  cf := some (fileOf pool1 16 #[] #[{ accessFlags := 1, nameIndex := 5, descriptorIndex := 6, attributes := #[] }, { accessFlags := 9, nameIndex := 20, descriptorIndex := 21, attributes := #[] }] 49 2 #[] #[])
  fields := #[]
  methods := #[k1m0, k1m1]
  instanceTypes := #[]
  staticTypes := #[]
  resolved := Array.replicate 29 none
  statics := none }

def pool2 : Array CpInfo := pool [(1, .methodref 2 3), (0, .class_ 4), (0, .nameAndType 5 6), (0, u "java/lang/Object"), (0, u "<init>"), (0, u "()V"), (0, .class_ 8), (0, u "java/lang/Record")] 13

def k2c0 : Code := { maxStack := 1, maxLocals := 1, code := jdk_30_method_1_code, exceptionTable := #[], attributes := #[] }
def k2m0 : Method := { name := "<init>", desc := "()V", sig := { parameters := [], returnType := none }, accessFlags := 4, code := some k2c0 }
/-- java/lang/Record -/
def k2 : Class := { plain "java/lang/Record" (some 0) with
  accessFlags := 1057
  interfaces := #[]
  cf := some (fileOf pool2 7 #[] #[{ accessFlags := 4, nameIndex := 5, descriptorIndex := 6, attributes := #[] }] 1057 2 #[] #[])
  fields := #[]
  methods := #[k2m0]
  instanceTypes := #[]
  staticTypes := #[]
  resolved := Array.replicate 22 none
  statics := none }

def pool3 : Array CpInfo := pool [(1, .methodref 2 3), (0, .class_ 4), (0, .nameAndType 5 6), (0, u "java/lang/Record"), (0, u "<init>"), (0, u "()V"), (0, .fieldref 8 9), (0, .class_ 10), (0, .nameAndType 11 12), (0, u "com/example/pathweave/pathweave/Explorer$Summary"), (0, u "paths"), (0, u "J"), (0, .fieldref 8 14), (0, .nameAndType 15 12), (0, u "cut"), (0, .fieldref 8 17), (0, .nameAndType 18 12), (0, u "incomplete"), (0, .fieldref 8 20), (0, .nameAndType 21 12), (0, u "fixed"), (0, .fieldref 8 23), (0, .nameAndType 24 25), (0, u "inputs"), (0, u "I"), (0, .fieldref 8 27), (0, .nameAndType 28 12), (0, u "forward"), (0, .fieldref 8 30), (0, .nameAndType 31 12), (0, u "backward"), (0, .fieldref 8 33), (0, .nameAndType 34 35), (0, u "outOfTime"), (0, u "Z"), (12, u "(JJJJIJJZ)V"), (3, u "exhaustive"), (0, u "()Z"), (8, .class_ 63), (0, u "com/example/pathweave/pathweave/Explorer")] 26

def k3c0 : Code := { maxStack := 3, maxLocals := 15, code := prog_57_method_1_code, exceptionTable := #[], attributes := #[] }
def k3m0 : Method := { name := "<init>", desc := "(JJJJIJJZ)V", sig := { parameters := [.long, .long, .long, .long, .int, .long, .long, .boolean], returnType := none }, accessFlags := 0, code := some k3c0 }
def k3c1 : Code := { maxStack := 4, maxLocals := 1, code := prog_57_method_2_code, exceptionTable := #[], attributes := #[] }
def k3m1 : Method := { name := "exhaustive", desc := "()Z", sig := { parameters := [], returnType := some .boolean }, accessFlags := 0, code := some k3c1 }
/-- com/example/pathweave/pathweave/Explorer$Summary -/
def k3 : Class := { plain "com/example/pathweave/pathweave/Explorer$Summary" (some 2) with
  accessFlags := 48
  interfaces := #[]
  cf := some (fileOf pool3 8 #[.nestHost 62] #[{ accessFlags := 0, nameIndex := 5, descriptorIndex := 48, attributes := #[] }, { accessFlags := 0, nameIndex := 52, descriptorIndex := 53, attributes := #[] }] 48 2 #[] #[{ accessFlags := 18, nameIndex := 11, descriptorIndex := 12, attributes := #[] }, { accessFlags := 18, nameIndex := 15, descriptorIndex := 12, attributes := #[] }, { accessFlags := 18, nameIndex := 18, descriptorIndex := 12, attributes := #[] }, { accessFlags := 18, nameIndex := 21, descriptorIndex := 12, attributes := #[] }, { accessFlags := 18, nameIndex := 24, descriptorIndex := 25, attributes := #[] }, { accessFlags := 18, nameIndex := 28, descriptorIndex := 12, attributes := #[] }, { accessFlags := 18, nameIndex := 31, descriptorIndex := 12, attributes := #[] }, { accessFlags := 18, nameIndex := 34, descriptorIndex := 35, attributes := #[] }])
  fields := #[{ name := "paths", type := .long, accessFlags := 18, slot := 0, constantValue := 0 }, { name := "cut", type := .long, accessFlags := 18, slot := 1, constantValue := 0 }, { name := "incomplete", type := .long, accessFlags := 18, slot := 2, constantValue := 0 }, { name := "fixed", type := .long, accessFlags := 18, slot := 3, constantValue := 0 }, { name := "inputs", type := .int, accessFlags := 18, slot := 4, constantValue := 0 }, { name := "forward", type := .long, accessFlags := 18, slot := 5, constantValue := 0 }, { name := "backward", type := .long, accessFlags := 18, slot := 6, constantValue := 0 }, { name := "outOfTime", type := .boolean, accessFlags := 18, slot := 7, constantValue := 0 }]
  methods := #[k3m0, k3m1]
  instanceTypes := #[.long, .long, .long, .long, .int, .long, .long, .boolean]
  staticTypes := #[]
  resolved := Array.replicate 90 none
  statics := none }

def pool4 : Array CpInfo := pool [(1, u "java/lang/Cloneable"), (0, .class_ 1), (0, u "java/lang/Object"), (0, .class_ 3)] 3

/-- java/lang/Cloneable -/
def k4 : Class := { plain "java/lang/Cloneable" (some 0) with
  accessFlags := 1537
  interfaces := #[]
  cf := some (fileOf pool4 2 #[] #[] 1537 4 #[] #[])
  fields := #[]
  methods := #[]
  instanceTypes := #[]
  staticTypes := #[]
  resolved := Array.replicate 8 none
  statics := none }

def pool5 : Array CpInfo := pool [(1, u "java/io/Serializable"), (0, .class_ 1), (0, u "java/lang/Object"), (0, .class_ 3)] 3

/-- java/io/Serializable -/
def k5 : Class := { plain "java/io/Serializable" (some 0) with
  accessFlags := 1537
  interfaces := #[]
  cf := some (fileOf pool5 2 #[] #[] 1537 4 #[] #[])
  fields := #[]
  methods := #[]
  instanceTypes := #[]
  staticTypes := #[]
  resolved := Array.replicate 8 none
  statics := none }

/-- the primitive byte -/
def k6 : Class := { plain "byte" none with kind := .primitive 'B', accessFlags := 0x411 }
/-- [B -/
def k7 : Class := { plain "[B" (some 0) with kind := .array 6 .byte, interfaces := #[4, 5], accessFlags := 1041 }

/-- the primitive int -/
def k8 : Class := { plain "int" none with kind := .primitive 'I', accessFlags := 0x411 }
/-- [I -/
def k9 : Class := { plain "[I" (some 0) with kind := .array 8 .int, interfaces := #[4, 5], accessFlags := 1041 }

def heap : Heap := #[]
def classes : Array Class := #[k0, k1, k2, k3, k4, k5, k6, k7, k8, k9]
def interned : List (Array UInt16 × Addr) := []
def slotsUsed : Nat := 0
def theMethod : MethodId := ⟨1, 1⟩
def args0 : Array Value := #[.long 5, .long 6, .long 7, .long 8, .long 9, .int 5]
def aboutOver (below : List Frame) : State where
  vm := { classes := classes, interned := interned.toArray }
  heap := heap
  slotsUsed := slotsUsed
  threads := #[{ frames := .invoking theMethod args0 :: below }]
def below0 : List Frame := [.native { method := ⟨0, 0⟩, args := #[] }]
def about1 : State := aboutOver below0
def p0 : Program := .bare "" "" ""
def e0 : Env := launch0.env 0 0 0
theorem w_frames : about1.frames = Frame.invoking theMethod args0 :: below0 := rfl
set_option maxRecDepth 65536 in
theorem w_args : argsFit about1.vm theMethod args0 = true := by decide +kernel
set_option maxRecDepth 65536 in
theorem w_heap : heapFits about1 = true := by decide +kernel
set_option maxRecDepth 65536 in
theorem w_runnable : about1.curStatus? = some .runnable := by decide +kernel
set_option maxRecDepth 65536 in
theorem w_alone : about1.alone = true := by decide +kernel
set_option maxRecDepth 65536 in
theorem w_named : about1.methodNamed? x = some theMethod := by decide +kernel
set_option maxRecDepth 65536 in
theorem w_hears : about1.hears theMethod below0 = true := by decide +kernel
set_option maxRecDepth 65536 in
theorem w_ripe : about1.ripe theMethod args0 below0 = true := by decide +kernel
theorem w_running : about1.status = .running := rfl
set_option maxRecDepth 65536 in
theorem w_room : about1.hasRoom e0.platform room_1 = true :=
  launch0.hasRoom_least _ room_1 (by decide +kernel) (by decide +kernel) (by decide +kernel) (by decide +kernel) (by decide +kernel) (by decide +kernel)
theorem allAtoms_all (ts : List Jvm.Cond) (a : Array Jvm.Value) (st : Jvm.State) : (allAtoms ts).before a st = ts.all (fun c => c.before a st) := by
  induction ts with
  | nil => rfl
  | cons c t ih =>
    show (Jvm.Cond.and c (allAtoms t)).before a st = _
    rw [Jvm.Cond.before_and, ih, List.all_cons]
def words1 : List Jvm.Cond := Jvm.Cond.code x code maxLocals ret :: tables_1
/-- a 'code' word, met by the world's own term for the bytes: nothing is compared byte by byte -/
theorem code_word {y : MethodName} {bytes : ByteArray} {mx : Nat} {rt : Option FieldType} {a : Array Value} {s : State} {m : MethodId} {meth : Method} {c : Code} (h1 : s.methodNamed? y = some m) (h2 : s.vm.method? m = some meth) (h3 : meth.code = some c) (h4 : c.code = bytes)
    (h5 : (c.maxLocals == mx && c.exceptionTable.isEmpty && decide (c.maxStack ≤ mostOperands) && decide (meth.sig.returnType = rt) && !meth.locks && decide (parseMethodDescriptor y.desc = some meth.sig)) = true) : (Jvm.Cond.code y bytes mx rt).before a s = true := by
  simp only [Bool.and_eq_true, beq_iff_eq, Bool.not_eq_true', decide_eq_true_eq] at h5
  obtain ⟨⟨⟨⟨⟨g1, g2⟩, g3⟩, g4⟩, g5⟩, g6⟩ := h5
  simp [Cond.before, Cond.holds, Cond.value, h1, h2, h3, h4, g1, g2, g3, g4, g5, g6]
def isCode : Jvm.Cond → Bool
  | .code _ _ _ _ => true
  | _ => false
theorem all_split {L : List Jvm.Cond} {P : Jvm.Cond → Bool} (h1 : L.all (fun c => isCode c || P c) = true) (h2 : ∀ c ∈ L.filter isCode, P c = true) : L.all P = true := by
  refine List.all_eq_true.mpr fun c hc => ?_
  have h := List.all_eq_true.mp h1 c hc
  rcases Bool.eq_false_or_eq_true (isCode c) with hi | hi
  · exact h2 c (List.mem_filter.mpr ⟨hc, hi⟩)
  · simpa [hi] using h
set_option maxRecDepth 65536 in
theorem w_c0 : (Jvm.Cond.code x code maxLocals ret).before args0 about1 = true := code_word (m := ⟨1, 1⟩) (meth := k1m1) (c := k1c1) (by decide +kernel) rfl rfl rfl (by decide +kernel)
set_option maxRecDepth 65536 in
theorem w_c1 : (Jvm.Cond.code ({ cls := "com/example/pathweave/pathweave/Explorer$Summary", name := "<init>", desc := "(JJJJIJJZ)V" } : Jvm.MethodName) prog_57_method_1_code (15 : Nat) (Option.none : Option Jvm.ClassFile.FieldType)).before args0 about1 = true := code_word (m := ⟨3, 0⟩) (meth := k3m0) (c := k3c0) (by decide +kernel) rfl rfl rfl (by decide +kernel)
set_option maxRecDepth 65536 in
theorem w_c2 : (Jvm.Cond.code ({ cls := "java/lang/Record", name := "<init>", desc := "()V" } : Jvm.MethodName) jdk_30_method_1_code (1 : Nat) (Option.none : Option Jvm.ClassFile.FieldType)).before args0 about1 = true := code_word (m := ⟨2, 0⟩) (meth := k2m0) (c := k2c0) (by decide +kernel) rfl rfl rfl (by decide +kernel)
set_option maxRecDepth 65536 in
theorem w_c3 : (Jvm.Cond.code ({ cls := "java/lang/Object", name := "<init>", desc := "()V" } : Jvm.MethodName) object_method_1_code (1 : Nat) (Option.none : Option Jvm.ClassFile.FieldType)).before args0 about1 = true := code_word (m := ⟨0, 0⟩) (meth := k0m0) (c := k0c0) (by decide +kernel) rfl rfl rfl (by decide +kernel)
set_option maxRecDepth 65536 in
theorem w_c4 : (Jvm.Cond.code ({ cls := "com/example/pathweave/pathweave/Explorer$Summary", name := "exhaustive", desc := "()Z" } : Jvm.MethodName) prog_57_method_2_code (1 : Nat) (Option.some Jvm.ClassFile.FieldType.boolean)).before args0 about1 = true := code_word (m := ⟨3, 1⟩) (meth := k3m1) (c := k3c1) (by decide +kernel) rfl rfl rfl (by decide +kernel)
def codes1 : List Jvm.Cond := [Jvm.Cond.code x code maxLocals ret, Jvm.Cond.code ({ cls := "com/example/pathweave/pathweave/Explorer$Summary", name := "<init>", desc := "(JJJJIJJZ)V" } : Jvm.MethodName) prog_57_method_1_code (15 : Nat) (Option.none : Option Jvm.ClassFile.FieldType), Jvm.Cond.code ({ cls := "java/lang/Record", name := "<init>", desc := "()V" } : Jvm.MethodName) jdk_30_method_1_code (1 : Nat) (Option.none : Option Jvm.ClassFile.FieldType), Jvm.Cond.code ({ cls := "java/lang/Object", name := "<init>", desc := "()V" } : Jvm.MethodName) object_method_1_code (1 : Nat) (Option.none : Option Jvm.ClassFile.FieldType), Jvm.Cond.code ({ cls := "com/example/pathweave/pathweave/Explorer$Summary", name := "exhaustive", desc := "()Z" } : Jvm.MethodName) prog_57_method_2_code (1 : Nat) (Option.some Jvm.ClassFile.FieldType.boolean)]
set_option maxRecDepth 65536 in
theorem codes_eq : words1.filter isCode = codes1 := rfl
theorem w_codes : ∀ c ∈ words1.filter isCode, c.before args0 about1 = true := by
  rw [codes_eq]
  intro c hc
  simp only [codes1, List.mem_cons, List.not_mem_nil, or_false] at hc
  rcases hc with rfl | rfl | rfl | rfl | rfl
  · exact w_c0
  · exact w_c1
  · exact w_c2
  · exact w_c3
  · exact w_c4
set_option maxRecDepth 65536 in
theorem w_t1 : (words1.take 24).all (fun c => isCode c || c.before args0 about1) = true := by decide +kernel
set_option maxRecDepth 65536 in
theorem w_t2 : (words1.drop 24).all (fun c => isCode c || c.before args0 about1) = true := by decide +kernel
theorem w_tables : (allAtoms (Jvm.Cond.code x code maxLocals ret :: tables_1)).before args0 about1 = true := by
  rw [allAtoms_all]
  show words1.all (fun c => c.before args0 about1) = true
  refine all_split ?_ w_codes
  rw [← List.take_append_drop 24 words1, List.all_append, w_t1, w_t2]
  rfl
set_option maxRecDepth 65536 in
theorem w_case : (Jvm.Cond.and given_1 narrow_1).before args0 about1 = true := by decide +kernel
theorem w_applies : (headSpec (Jvm.Cond.code x code maxLocals ret :: tables_1) room_1).applies x e0.platform about1 = true :=
  (Spec.applies_iff w_frames).mpr ⟨w_running, w_runnable, w_alone, w_named, w_hears, w_ripe, w_room, w_tables⟩
theorem atStart : AtStart classFile x code maxLocals ret World_1 tables_1 room_1 Calls_1 rest_1 Pre_1 launch0 p0 e0 about1 theMethod args0 below0 :=
  ⟨lists_1, trivial, launch0.admits_env _ _ _, launch0.least_env, fairChoices_fair.cas, fairChoices_fair.clock, w_frames, w_args, w_heap, w_applies, trivial, trivial, w_case⟩
end start1
theorem witness_1 : WitnessClaimed_1 := ⟨start1.p0, start1.e0, start1.about1, start1.theMethod, start1.args0, start1.below0, start1.atStart⟩
end Jvm.Pilot.@@N@@
