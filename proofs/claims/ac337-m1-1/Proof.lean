import JvmDerived
import JvmDerived.Pilot.@@N@@Statement
import JvmDerived.Pilot.@@N@@Code
set_option linter.unusedVariables false
set_option linter.unusedSimpArgs false
namespace Jvm.RoadKit
open Sem ClassFile Op Lib Jvm.Stand Jvm.Free Jvm.LawKit
section New
variable {p : Program} {l : Launch} {e : Env} {R : Room} {s : State} {m : MethodId} {args : Array Value} {below : List Frame} {meth : Method} {c : Code} {T : State} {locs : List Loc} {cells slots : Nat}
theorem retI (X : Stand p l e R s m args below meth c T locs cells slots) (hx : p.tables.exec = Jvm.exec) {pc : Nat} {Ls : Array Slot} {z : Int32} {rest : List Value} (hret : meth.sig.returnType = some .int) (hd : decode c.code pc = .ok (.ireturn, 1)) {fs : List Frame}
    (hl : ∀ (f : JFrame) (acts : List Action), f.method = m → f.locked = none → f.entered = [] → (doReturn e (T.setTop f) acts (some (.int z))).1 = T.setFrames fs) : Steps p.tables e below (T.setTop (mkF m pc Ls (.int z :: rest))) (T.setFrames fs) := by
  have hm' : T.vm.method? m = some meth := X.method'
  have hn : narrow .int (.int z) = .int z := rfl
  show Steps p.tables e below (T.setTop { method := m, pc := pc, locals := Ls, stack := _ :: rest, locked := none }) _
  jvm_step X.here [X.here.top, hx, hd, hm', hret, hn]
  first | (intro acts; rw [hl _ acts rfl rfl rfl]) | rw [hl _ _ rfl rfl rfl]
  exact Steps.refl _
/-- where a run is to come: it has ended, returning, with Q of what it returned, its heap and what it wrote -/
def own_End (s : State) (below : List Frame) (Q : Option Value → Heap → List Loc → Prop) (cc nn : Nat) (t : State) (o : Outcome) : Prop :=
  t.status = .running ∧ Ended t below o ∧ ∃ v L, o = .returned v ∧ Q v t.heap L ∧ FrameEnd s o t L cc nn
/-- from A the run comes to such an end -/
def own_Go (p : Program) (e : Env) (below : List Frame) (G : State → Outcome → Prop) (A : State) : Prop := ∃ t o, Steps p.tables e below A t ∧ G t o
theorem own_st {G : State → Outcome → Prop} {A B : State} (h : ∀ t, Steps p.tables e below B t → Steps p.tables e below A t) (k : own_Go p e below G B) : own_Go p e below G A := by
  obtain ⟨t, o, h1, h2⟩ := k
  exact ⟨t, o, h t h1, h2⟩
theorem own_retZ (X : Stand p l e R s m args below meth c T locs cells slots) (hx : p.tables.exec = Jvm.exec) (hlk : meth.locks = false) {t : FieldType} (hret : meth.sig.returnType = some t) (ht : t = .boolean ∨ t = .byte ∨ t = .char ∨ t = .short)
    {pc : Nat} {Ls : Array Slot} {z : Int32} {rest : List Value} (hd : decode c.code pc = .ok (.ireturn, 1)) {Q : Option Value → Heap → List Loc → Prop} {cc nn : Nat} (hq : Q (some (.int (nar t z))) T.heap locs) (hc : cells ≤ cc) (hn : slots ≤ nn) :
    own_Go p e below (own_End s below Q cc nn) (T.setTop (mkF m pc Ls (.int z :: rest))) := by
  obtain ⟨fs, hr, hrun, hended, hW, hsame⟩ := X.leave (v := some (.int (nar t z))) (fun h => by rw [hret] at h; cases h) hlk
  exact ⟨_, _, retN X hx hret ht hd hr, hrun, hended, _, _, rfl, hq, ⟨_, rfl⟩, hW, hsame.mono hc hn⟩
theorem own_retI (X : Stand p l e R s m args below meth c T locs cells slots) (hx : p.tables.exec = Jvm.exec) (hlk : meth.locks = false) (hret : meth.sig.returnType = some .int)
    {pc : Nat} {Ls : Array Slot} {z : Int32} {rest : List Value} (hd : decode c.code pc = .ok (.ireturn, 1)) {Q : Option Value → Heap → List Loc → Prop} {cc nn : Nat} (hq : Q (some (.int z)) T.heap locs) (hc : cells ≤ cc) (hn : slots ≤ nn) :
    own_Go p e below (own_End s below Q cc nn) (T.setTop (mkF m pc Ls (.int z :: rest))) := by
  obtain ⟨fs, hr, hrun, hended, hW, hsame⟩ := X.leave (v := some (.int z)) (fun h => by rw [hret] at h; cases h) hlk
  exact ⟨_, _, retI X hx hret hd hr, hrun, hended, _, _, rfl, hq, ⟨_, rfl⟩, hW, hsame.mono hc hn⟩
theorem own_retA (X : Stand p l e R s m args below meth c T locs cells slots) (hx : p.tables.exec = Jvm.exec) (hlk : meth.locks = false) {ty : FieldType} (hret : meth.sig.returnType = some ty) (hty : ty.isReference = true)
    {pc : Nat} {Ls : Array Slot} {v : Value} (hv : v.isRef = true) {rest : List Value} (hd : decode c.code pc = .ok (.areturn, 1)) {Q : Option Value → Heap → List Loc → Prop} {cc nn : Nat} (hq : Q (some v) T.heap locs) (hc : cells ≤ cc) (hn : slots ≤ nn) :
    own_Go p e below (own_End s below Q cc nn) (T.setTop (mkF m pc Ls (v :: rest))) := by
  obtain ⟨fs, hr, hrun, hended, hW, hsame⟩ := X.leave (v := some v) (fun h => by rw [hret] at h; cases h) hlk
  refine ⟨_, _, ?_, hrun, hended, _, _, rfl, hq, ⟨_, rfl⟩, hW, hsame.mono hc hn⟩
  have hm' : T.vm.method? m = some meth := X.method'
  show Steps p.tables e below (T.setTop { method := m, pc := pc, locals := Ls, stack := _ :: rest, locked := none }) _
  jvm_step X.here [X.here.top, hx, hd, hm', hret, hv, hty]
  first | (intro acts; rw [hr _ acts rfl rfl rfl]) | rw [hr _ _ rfl rfl rfl]
  exact Steps.refl _
theorem own_retV (X : Stand p l e R s m args below meth c T locs cells slots) (hx : p.tables.exec = Jvm.exec) (hlk : meth.locks = false) (hret : meth.sig.returnType = none)
    {pc : Nat} {Ls : Array Slot} (hd : decode c.code pc = .ok (.return_, 1)) {Q : Option Value → Heap → List Loc → Prop} {cc nn : Nat} (hq : Q none T.heap locs) (hc : cells ≤ cc) (hn : slots ≤ nn) :
    own_Go p e below (own_End s below Q cc nn) (T.setTop (mkF m pc Ls [])) := by
  obtain ⟨fs, hr, hrun, hended, hW, hsame⟩ := X.leave (v := none) (fun _ => rfl) hlk
  exact ⟨_, _, X.returnOut hx hret hd hr, hrun, hended, _, _, rfl, hq, ⟨_, rfl⟩, hW, hsame.mono hc hn⟩
/-- a body's contract: called with these values over this heap it returns, with Q -/
def own_Met (l : Launch) (Z : State) (y : MethodName) (bytes : ByteArray) (maxL : Nat) (ret : Option FieldType) (ws : List Cond) (rm : Room) (as' : Array Value) (h0 : Heap) (Q : Option Value → Heap → List Loc → Prop) : Prop :=
  MetFree l y (head1 (Cond.code y bytes maxL ret :: ws) rm) (fun a U => a = as' ∧ Z.Warmed39 U.vm ∧ U.heap = h0) (fun _ _ _ _ _ => True) (fun _ U o U' => ∃ v L, o = .returned v ∧ Q v U'.heap L ∧ FrameEnd U o U' L rm.cells rm.slots)
theorem own_body {Z : State} {y : MethodName} {bytes : ByteArray} {maxL : Nat} {ret : Option FieldType} {ws : List Cond} {rm : Room} {as' : Array Value} {h0 : Heap} {Q : Option Value → Heap → List Loc → Prop} (hpl : plainFor y = true)
    (k : ∀ (p : Program) (e : Env) (s : State) (m : MethodId) (below : List Frame) (meth : Method) (c : Code) (s₁ : State), p.tables.exec = Jvm.exec → c.code = bytes → c.maxLocals = maxL → s.vm.findClass y.cls = some m.cls → meth.name = y.name → meth.sig.returnType = ret → meth.locks = false → Z.Warmed39 s.vm →
      Stand p l e rm s m as' below meth c s₁ [] 0 0 → s₁.heap = h0 → ∀ G, G = own_End s below Q rm.cells rm.slots → own_Go p e below G (s₁.setTop (entryFrame m as' maxL))) :
    own_Met l Z y bytes maxL ret ws rm as' h0 Q := by
  refine MetFree.of_bodySF hpl hisR ?_
  intro p e s m args below meth c s₁ Bd hml0 hP hK
  obtain ⟨rfl, hZ, hh⟩ := hP
  have e0 : s₁.heap = h0 := by rw [← hh, Bd.state]; rfl
  exact k p e s m below meth c s₁ Bd.exec Bd.bytes hml0 (findClass_of_methodNamed Bd.named) (name_of_methodNamed Bd.named Bd.method).1 Bd.returns Bd.notSynchronized hZ (Stand.of_body Bd) e0 _ rfl
section Calls
variable {Z : State} {a0 : Array Value} {h : Heap}
theorem own_callS (X : Stand p l e R s m args below meth c T locs cells slots) (hx : p.tables.exec = Jvm.exec) (hZ : Z.Warmed39 s.vm) {own : String} {index : Nat} {y : MethodName} {bytes : ByteArray} {maxL : Nat} {ret : Option FieldType} (hown : s.vm.findClass own = some m.cls)
    (w1 : (Cond.methodLink own index y).before a0 Z = true) (w2 : (Cond.static y).before a0 Z = true) (w3 : (Cond.initialized y.cls).before a0 Z = true) (w4 : (Cond.code y bytes maxL ret).before a0 Z = true)
    (hy : y.cls ≠ "java/lang/invoke/MethodHandle" ∧ y.cls ≠ "java/lang/invoke/VarHandle") {rm : Room} {as' : Array Value} {Q : Option Value → Heap → List Loc → Prop} {W : Nat} (hM : own_Met l Z y bytes maxL ret [] rm as' h Q)
    (hf : rm.frames + 1 ≤ R.frames) (hl : W + (maxL + 11) + rm.locals ≤ R.locals) (eT : T.heap = h) {g : JFrame} (hg : g.method = m) (hsize : g.locals.size = c.maxLocals) {argsL rest : List Value}
    {ps : List FieldType} {r : Option FieldType} (hd : parseMethodDescriptor y.desc = some ⟨ps, r⟩) (hlen : argsL.length = ps.length) (hstack : g.stack = argsL.reverse ++ rest) (hW : 2 * g.monitorRoom + (rest.map fun v => v.category).sum ≤ W)
    (hdg : decode c.code g.pc = .ok (.invokestatic index, 3)) (ha : argsL.toArray = as') (hc : cells + rm.cells ≤ R.cells) (hn : slots + rm.slots ≤ R.slots) :
    ∃ (v : Option Value) (T' : State) (L : List Loc), Stand p l e R s m args below meth c T' (locs ++ L) (cells + rm.cells) (slots + rm.slots) ∧ Q v T'.heap L ∧
      ∀ target, Steps p.tables e below (T'.setTop { g with pc := g.pc + 3, stack := v.toList ++ rest }) target → Steps p.tables e below (T.setTop g) target := by
  obtain ⟨v, vm1, ⟨T', L', k', n'⟩, -, X', ⟨Lc, hQ, l1, l2, l3⟩, st⟩ := Jvm.LawKit.callS X hx (y := y) hown (mvT hZ w1) (mvT hZ w2) (mvT hZ w3) (mvT hZ w4) hy (backOf (W := W) hM hZ w4 w3 hf hl) hg hsize (argsL := argsL) (rest := rest) (lenOf hd hlen) hstack hW hdg (fun _ _ => ⟨ha, eT, hc, hn⟩)
  dsimp only [Pt.U, Pt.locs, Pt.cells, Pt.slots] at X' l1 l2 l3 st hQ
  subst l1 l2 l3
  exact ⟨v, T', Lc, X', hQ, st⟩
theorem own_callC (X : Stand p l e R s m args below meth c T locs cells slots) (hx : p.tables.exec = Jvm.exec) (hZ : Z.Warmed39 s.vm) {own : String} {index : Nat} {y : MethodName} {bytes : ByteArray} {maxL : Nat} (hn1 : y.name = "<init>") (hown : s.vm.findClass own = some m.cls)
    (w1 : (Cond.methodLink own index y).before a0 Z = true) (w2 : (Cond.instanceMethod y).before a0 Z = true) (w3 : (Cond.initialized y.cls).before a0 Z = true) (w4 : (Cond.code y bytes maxL none).before a0 Z = true)
    (hy : y.cls ≠ "java/lang/invoke/MethodHandle" ∧ y.cls ≠ "java/lang/invoke/VarHandle") {rm : Room} {as' : Array Value} {Q : Option Value → Heap → List Loc → Prop} {W : Nat} (hM : own_Met l Z y bytes maxL none [] rm as' h Q)
    (hf : rm.frames + 1 ≤ R.frames) (hl : W + (maxL + 11) + rm.locals ≤ R.locals) (eT : T.heap = h) {g : JFrame} (hg : g.method = m) (hsize : g.locals.size = c.maxLocals) {a : Addr} {argsL rest : List Value}
    {ps : List FieldType} {r : Option FieldType} (hd : parseMethodDescriptor y.desc = some ⟨ps, r⟩) (hlen : argsL.length = ps.length) (hstack : g.stack = argsL.reverse ++ .ref a :: rest) (hW : 2 * g.monitorRoom + (rest.map fun v => v.category).sum ≤ W)
    (hdg : decode c.code g.pc = .ok (.invokespecial index, 3)) (ha : (.ref a :: argsL).toArray = as') (hc : cells + rm.cells ≤ R.cells) (hn : slots + rm.slots ≤ R.slots) :
    ∃ (v : Option Value) (T' : State) (L : List Loc), Stand p l e R s m args below meth c T' (locs ++ L) (cells + rm.cells) (slots + rm.slots) ∧ Q v T'.heap L ∧
      ∀ target, Steps p.tables e below (T'.setTop { g with pc := g.pc + 3, stack := v.toList ++ rest }) target → Steps p.tables e below (T.setTop g) target := by
  obtain ⟨v, vm1, ⟨T', L', k', n'⟩, -, X', ⟨Lc, hQ, l1, l2, l3⟩, st⟩ := X.specialBack hx (y := y) hn1 hown (mvT hZ w1) (mvT hZ w2) (mvT hZ w4) hy (backOf (W := W) hM hZ w4 w3 hf hl) hg hsize (Steps.refl _) (a := a) (argsL := argsL) (rest := rest) (lenOf hd hlen) hstack hW hdg (fun _ _ => ⟨ha, eT, hc, hn⟩)
  dsimp only [Pt.U, Pt.locs, Pt.cells, Pt.slots] at X' l1 l2 l3 st hQ
  subst l1 l2 l3
  exact ⟨v, T', Lc, X', hQ, fun t k => st.trans k⟩
theorem own_callV (X : Stand p l e R s m args below meth c T locs cells slots) (hx : p.tables.exec = Jvm.exec) (hZ : Z.Warmed39 s.vm) {own C : String} {index : Nat} {y z : MethodName} {bytes : ByteArray} {maxL : Nat} {ret : Option FieldType} (hown : s.vm.findClass own = some m.cls)
    (w1 : (Cond.methodLink own index y).before a0 Z = true) (w2 : (Cond.declares y).before a0 Z = true) (hnf : NotFace s y) (w5 : (Cond.selects C y z).before a0 Z = true) (w6 : (Cond.instanceMethod z).before a0 Z = true) (w3 : (Cond.initialized z.cls).before a0 Z = true) (w4 : (Cond.code z bytes maxL ret).before a0 Z = true)
    (hy : y.cls ≠ "java/lang/invoke/MethodHandle" ∧ y.cls ≠ "java/lang/invoke/VarHandle") {rm : Room} {as' : Array Value} {Q : Option Value → Heap → List Loc → Prop} {W : Nat} (hM : own_Met l Z z bytes maxL ret [] rm as' h Q)
    (hf : rm.frames + 1 ≤ R.frames) (hl : W + (maxL + 11) + rm.locals ≤ R.locals) (eT : T.heap = h) {a : Addr} (E : Exa Z h a C) {g : JFrame} (hg : g.method = m) (hsize : g.locals.size = c.maxLocals) {argsL rest : List Value}
    {ps : List FieldType} {r : Option FieldType} (hd : parseMethodDescriptor y.desc = some ⟨ps, r⟩) (hlen : argsL.length = ps.length) (hstack : g.stack = argsL.reverse ++ .ref a :: rest) (hW : 2 * g.monitorRoom + (rest.map fun v => v.category).sum ≤ W)
    (hdg : decode c.code g.pc = .ok (.invokevirtual index, 3)) (ha : (.ref a :: argsL).toArray = as') (hc : cells + rm.cells ≤ R.cells) (hn : slots + rm.slots ≤ R.slots) :
    ∃ (v : Option Value) (T' : State) (L : List Loc), Stand p l e R s m args below meth c T' (locs ++ L) (cells + rm.cells) (slots + rm.slots) ∧ Q v T'.heap L ∧
      ∀ target, Steps p.tables e below (T'.setTop { g with pc := g.pc + 3, stack := v.toList ++ rest }) target → Steps p.tables e below (T.setTop g) target := by
  obtain ⟨cq, kq, q1, q2, q3⟩ := isOf hZ eT E
  obtain ⟨v, vm1, ⟨T', L', k', n'⟩, -, X', ⟨Lc, hQ, l1, l2, l3⟩, st⟩ := X.virtualBack hx (y := y) (z := z) hown (mvT hZ w1) (mvT hZ w2) hnf (mvT hZ w5) (mvT hZ w6) hy (backOf (W := W) hM hZ w4 w3 hf hl) q1 q3 hg hsize (Steps.refl _) (argsL := argsL) (rest := rest) (lenOf hd hlen) hstack hW hdg (fun _ _ => ⟨ha, eT, hc, hn⟩)
  dsimp only [Pt.U, Pt.locs, Pt.cells, Pt.slots] at X' l1 l2 l3 st hQ
  subst l1 l2 l3
  exact ⟨v, T', Lc, X', hQ, fun t k => st.trans k⟩
end Calls
section Words
variable {Z : State} {a0 : Array Value}
theorem own_exa {t : Term} {C : String} (h : (Cond.exactly t C).value a0 Z none Z [] = some true) : ∃ a, t.eval a0 Z none [] Z = some (.ref a) ∧ Exa Z Z.heap a C := by
  obtain ⟨a, e⟩ := exa_v h
  exact ⟨a, e, Exa.start e h⟩
theorem own_fldI {t : Term} {O n d : String} {k : Int32} {a : Addr} (h : (Cond.eq (.field t O n d) (.int k)).value a0 Z none Z [] = some true) (e : t.eval a0 Z none [] Z = some (.ref a)) : Fld Z Z.heap a O n d (.int k) := by
  obtain ⟨x, y, h1, h2, h3, h4⟩ := cmp_v (Or.inl h)
  cases (Term.int_eval k).symm.trans h2
  obtain ⟨q, rfl⟩ := h4
  obtain rfl := gotT (Cond.eq_ints h1 (Term.int_eval k)) h
  exact Fld.start ((fld_at e).symm.trans h1)
theorem own_fldJ {t : Term} {O n d : String} {k : Int64} {a : Addr} (h : (Cond.eq (.field t O n d) (.long k)).value a0 Z none Z [] = some true) (e : t.eval a0 Z none [] Z = some (.ref a)) : Fld Z Z.heap a O n d (.long k) := by
  obtain ⟨x, y, h1, h2, h3, h4⟩ := cmp_v (Or.inl h)
  cases (long_at k).symm.trans h2
  obtain ⟨q, rfl⟩ := h4
  obtain rfl := gotT (eq_L h1 (long_at k)) h
  exact Fld.start ((fld_at e).symm.trans h1)
theorem own_el {t u : Term} {i : Int32} {ca a : Addr} {cl : Cell} (h : (Cond.eq (.elem t (.int i)) u).value a0 Z none Z [] = some true) (ht : t.eval a0 Z none [] Z = some (.ref ca)) (hu : u.eval a0 Z none [] Z = some (.ref a)) (hc : Z.heap[ca]? = some cl) : cl.slots[i.toNatClampNeg]? = some (.ref a) := by
  obtain ⟨x, y, h1, h2, h3, h4⟩ := cmp_v (Or.inl h)
  cases hu.symm.trans h2
  have hx : x.isRef = true := by cases x <;> simp [Kin, Value.isRef] at h3 h4 ⊢
  have e := gotT (eq_R h1 h2 hx rfl) h
  subst e
  exact (elem_in h1 ht (Term.int_eval i) hc).2
theorem own_len {t : Term} {n : Int32} {ca : Addr} {cl : Cell} (h : (Cond.eq (.length t) (.int n)).value a0 Z none Z [] = some true) (ht : t.eval a0 Z none [] Z = some (.ref ca)) (hc : Z.heap[ca]? = some cl) : cl.slots.size < 2 ^ 31 ∧ cl.slots.size.toInt32 = n := by
  obtain ⟨x, y, h1, h2, h3, h4⟩ := cmp_v (Or.inl h)
  obtain ⟨b, cell, e1, e2, e3, rfl⟩ := Jvm.Lib.length_spec h1
  cases ht.symm.trans e1
  cases hc.symm.trans (Jvm.Lib.arrayAt_spec e2).1
  exact ⟨e3, gotT (Cond.eq_ints h1 (Term.int_eval n)) h⟩
end Words
end New
end Jvm.RoadKit
namespace Jvm.Pilot.@@N@@
open Jvm Jvm.ClassFile Sem Op Lib Jvm.Free Jvm.Stand Jvm.LawKit Jvm.RoadKit Bundle Jvm.Pilot.@@N@@.Jvm.D
theorem own_pd0 : parseMethodDescriptor "(J)Lcom/example/pathweave/pathweave/SystemCall;" = some ⟨[.long], some (.object "com/example/pathweave/pathweave/SystemCall")⟩ := by decide +kernel
def own_sc (x : Int64) (a0 a1 a2 a3 a4 : Addr) : Value := if x = 56 then .ref a0 else if x = 63 then .ref a1 else if x = 64 then .ref a2 else if x = 93 then .ref a3 else if x = 214 then .ref a4 else .null
theorem own_idx (k : Int32) : ¬ (((k.toUInt32 >>> ((4 : Int32) &&& 31).toUInt32).toInt32) % 5) < 0 ∧ (((k.toUInt32 >>> ((4 : Int32) &&& 31).toUInt32).toInt32) % 5) < 5 := by
  have h0 : 0 ≤ ((k.toUInt32 >>> ((4 : Int32) &&& 31).toUInt32).toInt32).toInt := by
    rw [c_iushr k 4 4 (by decide) (by decide)]
    exact Int.ediv_nonneg (Int.emod_nonneg _ (by decide)) (by decide)
  generalize ((k.toUInt32 >>> ((4 : Int32) &&& 31).toUInt32).toInt32) = z at h0 ⊢
  have h2 := (c_irem z 5 5 rfl).1 h0
  simp only [Int32.lt_iff_toInt_lt, show (0 : Int32).toInt = 0 from rfl, show (5 : Int32).toInt = 5 from rfl]
  omega
theorem own_get5 {a b c d e : Int64} (i : Nat) : ∃ q, [(Value.long a), (.long b), (.long c), (.long d), (.long e)].getD i (.long 0) = .long q := by
  match i with
  | 0 => exact ⟨_, rfl⟩
  | 1 => exact ⟨_, rfl⟩
  | 2 => exact ⟨_, rfl⟩
  | 3 => exact ⟨_, rfl⟩
  | 4 => exact ⟨_, rfl⟩
  | n + 5 => exact ⟨0, by simp [List.getD]⟩
theorem d1_0 : decode prog_184_method_4_code 0 = .ok (.getstatic 42, 3) := by decide +kernel
theorem d1_3 : decode prog_184_method_4_code 3 = .ok (.astore_n 2, 1) := by decide +kernel
theorem d1_4 : decode prog_184_method_4_code 4 = .ok (.aload_n 2, 1) := by decide +kernel
theorem d1_5 : decode prog_184_method_4_code 5 = .ok (.arraylength, 1) := by decide +kernel
theorem d1_6 : decode prog_184_method_4_code 6 = .ok (.istore_n 3, 1) := by decide +kernel
theorem d1_7 : decode prog_184_method_4_code 7 = .ok (.iconst 0, 1) := by decide +kernel
theorem d1_8 : decode prog_184_method_4_code 8 = .ok (.istore 4, 2) := by decide +kernel
theorem d1_10 : decode prog_184_method_4_code 10 = .ok (.iload 4, 2) := by decide +kernel
theorem d1_12 : decode prog_184_method_4_code 12 = .ok (.iload_n 3, 1) := by decide +kernel
theorem d1_13 : decode prog_184_method_4_code 13 = .ok (.if_icmp .ge 28, 3) := by decide +kernel
theorem d1_16 : decode prog_184_method_4_code 16 = .ok (.aload_n 2, 1) := by decide +kernel
theorem d1_17 : decode prog_184_method_4_code 17 = .ok (.iload 4, 2) := by decide +kernel
theorem d1_19 : decode prog_184_method_4_code 19 = .ok (.aaload, 1) := by decide +kernel
theorem d1_20 : decode prog_184_method_4_code 20 = .ok (.astore 5, 2) := by decide +kernel
theorem d1_22 : decode prog_184_method_4_code 22 = .ok (.aload 5, 2) := by decide +kernel
theorem d1_24 : decode prog_184_method_4_code 24 = .ok (.getfield 38, 3) := by decide +kernel
theorem d1_27 : decode prog_184_method_4_code 27 = .ok (.lload_n 0, 1) := by decide +kernel
theorem d1_28 : decode prog_184_method_4_code 28 = .ok (.lcmp, 1) := by decide +kernel
theorem d1_29 : decode prog_184_method_4_code 29 = .ok (.ifCond .ne 6, 3) := by decide +kernel
theorem d1_32 : decode prog_184_method_4_code 32 = .ok (.aload 5, 2) := by decide +kernel
theorem d1_34 : decode prog_184_method_4_code 34 = .ok (.areturn, 1) := by decide +kernel
theorem d1_35 : decode prog_184_method_4_code 35 = .ok (.iinc 4 1, 3) := by decide +kernel
theorem d1_38 : decode prog_184_method_4_code 38 = .ok (.goto (-28), 3) := by decide +kernel
theorem d1_41 : decode prog_184_method_4_code 41 = .ok (.aconst_null, 1) := by decide +kernel
theorem d1_42 : decode prog_184_method_4_code 42 = .ok (.areturn, 1) := by decide +kernel
theorem pn_rm1 : plainFor (⟨"com/example/pathweave/pathweave/SystemCall", "numbered", "(J)Lcom/example/pathweave/pathweave/SystemCall;"⟩ : MethodName) = true := by decide +kernel
theorem ef_rm1 (m : MethodId) (x0 : Int64) : entryFrame m #[(.long x0)] 6 = mkF m 0 #[.val (.long x0), .second, .unset, .unset, .unset, .unset] [] := by first | (simp [entryFrame, mkF, argsToLocals, Value.category]; done) | rfl
set_option maxRecDepth 65536 in
set_option maxHeartbeats 40000000 in
theorem rm1 (l : Launch) (Z : State) (a0 : Array Value) (hw : ∀ d ∈ tables_1, d.before a0 Z = true) (x0 : Int64) (ca : Addr) (kc : ClassId) (u0 u1 u2 u3 u4 : Addr) (r0 : Value) (h0 : Heap) (hr : own_sc x0 u0 u1 u2 u3 u4 = r0) (SC0 : Sta Z h0 "com/example/pathweave/pathweave/SystemCall" "CALLS" "[Lcom/example/pathweave/pathweave/SystemCall;" (.ref ca)) (VC : Arv Z h0 ca kc (.object "com/example/pathweave/pathweave/SystemCall") (5 : Int32) [(.ref u0), (.ref u1), (.ref u2), (.ref u3), (.ref u4)] .null) (F0 : Fld Z h0 u0 "com/example/pathweave/pathweave/SystemCall" "number" "J" (.long (56 : Int64))) (F1 : Fld Z h0 u1 "com/example/pathweave/pathweave/SystemCall" "number" "J" (.long (63 : Int64))) (F2 : Fld Z h0 u2 "com/example/pathweave/pathweave/SystemCall" "number" "J" (.long (64 : Int64))) (F3 : Fld Z h0 u3 "com/example/pathweave/pathweave/SystemCall" "number" "J" (.long (93 : Int64))) (F4 : Fld Z h0 u4 "com/example/pathweave/pathweave/SystemCall" "number" "J" (.long (214 : Int64))) :
    own_Met l Z (⟨"com/example/pathweave/pathweave/SystemCall", "numbered", "(J)Lcom/example/pathweave/pathweave/SystemCall;"⟩ : MethodName) prog_184_method_4_code 6 (some (.object "com/example/pathweave/pathweave/SystemCall")) [] ({ frames := 0, cells := 0, slots := 0, locals := 0 } : Room) #[(.long x0)] h0 (fun v h L => v = some r0 ∧ L = [] ∧ h = h0) := by
  refine own_body pn_rm1 ?_
  intro p e s m below meth c s₁ hx hby hml hown hnm hret hlk hZ X0 e0 G hG
  replace hml : c.maxLocals = 6 := hml
  replace hown : s.vm.findClass "com/example/pathweave/pathweave/SystemCall" = some m.cls := hown
  rw [ef_rm1]
  show own_Go p e below G (s₁.setTop (mkF m 0 #[.val (.long x0), .second, .unset, .unset, .unset, .unset] []))
  obtain ⟨T1, X1, e1, st1⟩ := getS X0 hx hZ hown (host := "") (hw _ (List.mem_of_getElem? (i := 10) rfl)) Via.refl e0 SC0 (g := (mkF m 0 #[.val (.long x0), .second, .unset, .unset, .unset, .unset] [])) rfl (hb hby d1_0)
  refine own_st st1 ?_
  show own_Go p e below G (T1.setTop (mkF m 3 #[.val (.long x0), .second, .unset, .unset, .unset, .unset] [(.ref ca)]))
  refine own_st (fun t k => XS.astoreN X1.here hx rfl (hb hby d1_3) rfl rfl (l' := #[.val (.long x0), .second, .val (.ref ca), .unset, .unset, .unset]) rfl k) ?_
  show own_Go p e below G (T1.setTop (mkF m 4 #[.val (.long x0), .second, .val (.ref ca), .unset, .unset, .unset] []))
  refine own_st (fun t k => XS.aloadN X1.here hx rfl (hb hby d1_4) rfl rfl  k) ?_
  show own_Go p e below G (T1.setTop (mkF m 5 #[.val (.long x0), .second, .val (.ref ca), .unset, .unset, .unset] [(.ref ca)]))
  have Vc2 := VC
  obtain ⟨cl2, Ar2, -, Sa2, Na2, -, -⟩ := Vc2
  refine own_st (fun t k => X1.arraylength hx (by rw [e1]; exact Ar2.1) (State.isArrayOf_alike hZ.alike Ar2.2.1) (g := (mkF m 5 #[.val (.long x0), .second, .val (.ref ca), .unset, .unset, .unset] [(.ref ca)])) rfl rfl (hb hby d1_5) t k) ?_
  rw [len_of Sa2 Na2]
  show own_Go p e below G (T1.setTop (mkF m 6 #[.val (.long x0), .second, .val (.ref ca), .unset, .unset, .unset] [(.int (5 : Int32))]))
  refine own_st (fun t k => XS.istoreN X1.here hx rfl (hb hby d1_6) rfl (l' := #[.val (.long x0), .second, .val (.ref ca), .val (.int (5 : Int32)), .unset, .unset]) rfl k) ?_
  show own_Go p e below G (T1.setTop (mkF m 7 #[.val (.long x0), .second, .val (.ref ca), .val (.int (5 : Int32)), .unset, .unset] []))
  refine own_st (fun t k => XS.iconst X1.here hx rfl (hb hby d1_7) k) ?_
  show own_Go p e below G (T1.setTop (mkF m 8 #[.val (.long x0), .second, .val (.ref ca), .val (.int (5 : Int32)), .unset, .unset] [(.int (0 : Int32))]))
  refine own_st (fun t k => XS.istore X1.here hx rfl (hb hby d1_8) rfl (l' := #[.val (.long x0), .second, .val (.ref ca), .val (.int (5 : Int32)), .val (.int (0 : Int32)), .unset]) rfl k) ?_
  show own_Go p e below G (T1.setTop (mkF m 10 #[.val (.long x0), .second, .val (.ref ca), .val (.int (5 : Int32)), .val (.int (0 : Int32)), .unset] []))
  refine own_st (fun t k => XS.iload X1.here hx rfl (hb hby d1_10) rfl  k) ?_
  show own_Go p e below G (T1.setTop (mkF m 12 #[.val (.long x0), .second, .val (.ref ca), .val (.int (5 : Int32)), .val (.int (0 : Int32)), .unset] [(.int (0 : Int32))]))
  refine own_st (fun t k => XS.iloadN X1.here hx rfl (hb hby d1_12) rfl  k) ?_
  show own_Go p e below G (T1.setTop (mkF m 13 #[.val (.long x0), .second, .val (.ref ca), .val (.int (5 : Int32)), .val (.int (0 : Int32)), .unset] [(.int (5 : Int32)), (.int (0 : Int32))]))
  refine own_st (fun t k => XS.icmpNo X1.here hx rfl (hb hby d1_13) rfl (tlt (by decide)).2.1 k) ?_
  show own_Go p e below G (T1.setTop (mkF m 16 #[.val (.long x0), .second, .val (.ref ca), .val (.int (5 : Int32)), .val (.int (0 : Int32)), .unset] []))
  refine own_st (fun t k => XS.aloadN X1.here hx rfl (hb hby d1_16) rfl rfl  k) ?_
  show own_Go p e below G (T1.setTop (mkF m 17 #[.val (.long x0), .second, .val (.ref ca), .val (.int (5 : Int32)), .val (.int (0 : Int32)), .unset] [(.ref ca)]))
  refine own_st (fun t k => XS.iload X1.here hx rfl (hb hby d1_17) rfl  k) ?_
  show own_Go p e below G (T1.setTop (mkF m 19 #[.val (.long x0), .second, .val (.ref ca), .val (.int (5 : Int32)), .val (.int (0 : Int32)), .unset] [(.int (0 : Int32)), (.ref ca)]))
  have Vc3 := VC
  obtain ⟨cl3, Ar3, -, Sa3, -, Ha3, -⟩ := Vc3
  have hin3 : ¬ ((0 : Int32) < 0 ∨ cl3.slots.size ≤ ((0 : Int32)).toNatClampNeg) := inb_of Sa3 ⟨by decide, by decide⟩
  refine own_st (fun t k => X1.aaload hx (j := (0 : Int32)) (v := (.ref u0)) (by rw [e1]; exact Ar3.1) (State.isArrayOf_alike hZ.alike Ar3.2.1) rfl Ar3.2.2 hin3 (Ha3.at hin3 rfl) (g := (mkF m 19 #[.val (.long x0), .second, .val (.ref ca), .val (.int (5 : Int32)), .val (.int (0 : Int32)), .unset] [(.int (0 : Int32)), (.ref ca)])) rfl rfl (hb hby d1_19) t k) ?_
  show own_Go p e below G (T1.setTop (mkF m 20 #[.val (.long x0), .second, .val (.ref ca), .val (.int (5 : Int32)), .val (.int (0 : Int32)), .unset] [(.ref u0)]))
  refine own_st (fun t k => XS.astore X1.here hx rfl (hb hby d1_20) rfl rfl (l' := #[.val (.long x0), .second, .val (.ref ca), .val (.int (5 : Int32)), .val (.int (0 : Int32)), .val (.ref u0)]) rfl k) ?_
  show own_Go p e below G (T1.setTop (mkF m 22 #[.val (.long x0), .second, .val (.ref ca), .val (.int (5 : Int32)), .val (.int (0 : Int32)), .val (.ref u0)] []))
  refine own_st (fun t k => XS.aload X1.here hx rfl (hb hby d1_22) rfl rfl  k) ?_
  show own_Go p e below G (T1.setTop (mkF m 24 #[.val (.long x0), .second, .val (.ref ca), .val (.int (5 : Int32)), .val (.int (0 : Int32)), .val (.ref u0)] [(.ref u0)]))
  obtain ⟨T4, X4, e4, st4⟩ := getF X1 hx hZ hown (host := "") (Or.inl (hw _ (List.mem_of_getElem? (i := 13) rfl))) Via.refl e1 F0 (g := (mkF m 24 #[.val (.long x0), .second, .val (.ref ca), .val (.int (5 : Int32)), .val (.int (0 : Int32)), .val (.ref u0)] [(.ref u0)])) rfl rfl (hb hby d1_24)
  refine own_st st4 ?_
  show own_Go p e below G (T4.setTop (mkF m 27 #[.val (.long x0), .second, .val (.ref ca), .val (.int (5 : Int32)), .val (.int (0 : Int32)), .val (.ref u0)] [(.long (56 : Int64))]))
  refine own_st (fun t k => XS.lloadN X4.here hx rfl (hb hby d1_27) rfl  k) ?_
  show own_Go p e below G (T4.setTop (mkF m 28 #[.val (.long x0), .second, .val (.ref ca), .val (.int (5 : Int32)), .val (.int (0 : Int32)), .val (.ref u0)] [(.long x0), (.long (56 : Int64))]))
  refine own_st (fun t k => XS.lcmp X4.here hx rfl (hb hby d1_28) rfl k) ?_
  show own_Go p e below G (T4.setTop (mkF m 29 #[.val (.long x0), .second, .val (.ref ca), .val (.int (5 : Int32)), .val (.int (0 : Int32)), .val (.ref u0)] [(.int (lcmpW (56 : Int64) x0))]))
  by_cases c29_5 : (56 : Int64) = x0
  · skip
    refine own_st (fun t k => XS.ifNo X4.here hx rfl (hb hby d1_29) rfl ((if0 _ _).trans (teq ((lw_eq _ _).2 c29_5)).2) k) ?_
    show own_Go p e below G (T4.setTop (mkF m 32 #[.val (.long x0), .second, .val (.ref ca), .val (.int (5 : Int32)), .val (.int (0 : Int32)), .val (.ref u0)] []))
    refine own_st (fun t k => XS.aload X4.here hx rfl (hb hby d1_32) rfl rfl  k) ?_
    show own_Go p e below G (T4.setTop (mkF m 34 #[.val (.long x0), .second, .val (.ref ca), .val (.int (5 : Int32)), .val (.int (0 : Int32)), .val (.ref u0)] [(.ref u0)]))
    rw [hG]
    exact own_retA X4 hx hlk hret rfl rfl (hb hby d1_34) ⟨congrArg some ((show (.ref u0) = own_sc x0 u0 u1 u2 u3 u4 by unfold own_sc; rw [if_pos c29_5.symm]).trans hr), rfl, e4⟩ (by decide) (by decide)
  · skip
    refine own_st (fun t k => XS.ifYes X4.here hx rfl (pc0 := 29) (pc' := 35) rfl (hb hby d1_29) rfl ((if0 _ _).trans (feq (fun q => c29_5 ((lw_eq _ _).1 q))).2) (by decide) (by decide) k) ?_
    show own_Go p e below G (T4.setTop (mkF m 35 #[.val (.long x0), .second, .val (.ref ca), .val (.int (5 : Int32)), .val (.int (0 : Int32)), .val (.ref u0)] []))
    refine own_st (fun t k => XS.iinc X4.here hx rfl (hb hby d1_35) rfl (l' := #[.val (.long x0), .second, .val (.ref ca), .val (.int (5 : Int32)), .val (.int (1 : Int32)), .val (.ref u0)]) rfl k) ?_
    show own_Go p e below G (T4.setTop (mkF m 38 #[.val (.long x0), .second, .val (.ref ca), .val (.int (5 : Int32)), .val (.int (1 : Int32)), .val (.ref u0)] []))
    refine own_st (fun t k => XS.goto X4.here hx rfl (pc0 := 38) (pc' := 10) rfl (hb hby d1_38) (by decide) (by decide) k) ?_
    show own_Go p e below G (T4.setTop (mkF m 10 #[.val (.long x0), .second, .val (.ref ca), .val (.int (5 : Int32)), .val (.int (1 : Int32)), .val (.ref u0)] []))
    refine own_st (fun t k => XS.iload X4.here hx rfl (hb hby d1_10) rfl  k) ?_
    show own_Go p e below G (T4.setTop (mkF m 12 #[.val (.long x0), .second, .val (.ref ca), .val (.int (5 : Int32)), .val (.int (1 : Int32)), .val (.ref u0)] [(.int (1 : Int32))]))
    refine own_st (fun t k => XS.iloadN X4.here hx rfl (hb hby d1_12) rfl  k) ?_
    show own_Go p e below G (T4.setTop (mkF m 13 #[.val (.long x0), .second, .val (.ref ca), .val (.int (5 : Int32)), .val (.int (1 : Int32)), .val (.ref u0)] [(.int (5 : Int32)), (.int (1 : Int32))]))
    refine own_st (fun t k => XS.icmpNo X4.here hx rfl (hb hby d1_13) rfl (tlt (by decide)).2.1 k) ?_
    show own_Go p e below G (T4.setTop (mkF m 16 #[.val (.long x0), .second, .val (.ref ca), .val (.int (5 : Int32)), .val (.int (1 : Int32)), .val (.ref u0)] []))
    refine own_st (fun t k => XS.aloadN X4.here hx rfl (hb hby d1_16) rfl rfl  k) ?_
    show own_Go p e below G (T4.setTop (mkF m 17 #[.val (.long x0), .second, .val (.ref ca), .val (.int (5 : Int32)), .val (.int (1 : Int32)), .val (.ref u0)] [(.ref ca)]))
    refine own_st (fun t k => XS.iload X4.here hx rfl (hb hby d1_17) rfl  k) ?_
    show own_Go p e below G (T4.setTop (mkF m 19 #[.val (.long x0), .second, .val (.ref ca), .val (.int (5 : Int32)), .val (.int (1 : Int32)), .val (.ref u0)] [(.int (1 : Int32)), (.ref ca)]))
    have Vc6 := VC
    obtain ⟨cl6, Ar6, -, Sa6, -, Ha6, -⟩ := Vc6
    have hin6 : ¬ ((1 : Int32) < 0 ∨ cl6.slots.size ≤ ((1 : Int32)).toNatClampNeg) := inb_of Sa6 ⟨by decide, by decide⟩
    refine own_st (fun t k => X4.aaload hx (j := (1 : Int32)) (v := (.ref u1)) (by rw [e4]; exact Ar6.1) (State.isArrayOf_alike hZ.alike Ar6.2.1) rfl Ar6.2.2 hin6 (Ha6.at hin6 rfl) (g := (mkF m 19 #[.val (.long x0), .second, .val (.ref ca), .val (.int (5 : Int32)), .val (.int (1 : Int32)), .val (.ref u0)] [(.int (1 : Int32)), (.ref ca)])) rfl rfl (hb hby d1_19) t k) ?_
    show own_Go p e below G (T4.setTop (mkF m 20 #[.val (.long x0), .second, .val (.ref ca), .val (.int (5 : Int32)), .val (.int (1 : Int32)), .val (.ref u0)] [(.ref u1)]))
    refine own_st (fun t k => XS.astore X4.here hx rfl (hb hby d1_20) rfl rfl (l' := #[.val (.long x0), .second, .val (.ref ca), .val (.int (5 : Int32)), .val (.int (1 : Int32)), .val (.ref u1)]) rfl k) ?_
    show own_Go p e below G (T4.setTop (mkF m 22 #[.val (.long x0), .second, .val (.ref ca), .val (.int (5 : Int32)), .val (.int (1 : Int32)), .val (.ref u1)] []))
    refine own_st (fun t k => XS.aload X4.here hx rfl (hb hby d1_22) rfl rfl  k) ?_
    show own_Go p e below G (T4.setTop (mkF m 24 #[.val (.long x0), .second, .val (.ref ca), .val (.int (5 : Int32)), .val (.int (1 : Int32)), .val (.ref u1)] [(.ref u1)]))
    obtain ⟨T7, X7, e7, st7⟩ := getF X4 hx hZ hown (host := "") (Or.inl (hw _ (List.mem_of_getElem? (i := 13) rfl))) Via.refl e4 F1 (g := (mkF m 24 #[.val (.long x0), .second, .val (.ref ca), .val (.int (5 : Int32)), .val (.int (1 : Int32)), .val (.ref u1)] [(.ref u1)])) rfl rfl (hb hby d1_24)
    refine own_st st7 ?_
    show own_Go p e below G (T7.setTop (mkF m 27 #[.val (.long x0), .second, .val (.ref ca), .val (.int (5 : Int32)), .val (.int (1 : Int32)), .val (.ref u1)] [(.long (63 : Int64))]))
    refine own_st (fun t k => XS.lloadN X7.here hx rfl (hb hby d1_27) rfl  k) ?_
    show own_Go p e below G (T7.setTop (mkF m 28 #[.val (.long x0), .second, .val (.ref ca), .val (.int (5 : Int32)), .val (.int (1 : Int32)), .val (.ref u1)] [(.long x0), (.long (63 : Int64))]))
    refine own_st (fun t k => XS.lcmp X7.here hx rfl (hb hby d1_28) rfl k) ?_
    show own_Go p e below G (T7.setTop (mkF m 29 #[.val (.long x0), .second, .val (.ref ca), .val (.int (5 : Int32)), .val (.int (1 : Int32)), .val (.ref u1)] [(.int (lcmpW (63 : Int64) x0))]))
    by_cases c29_8 : (63 : Int64) = x0
    · skip
      refine own_st (fun t k => XS.ifNo X7.here hx rfl (hb hby d1_29) rfl ((if0 _ _).trans (teq ((lw_eq _ _).2 c29_8)).2) k) ?_
      show own_Go p e below G (T7.setTop (mkF m 32 #[.val (.long x0), .second, .val (.ref ca), .val (.int (5 : Int32)), .val (.int (1 : Int32)), .val (.ref u1)] []))
      refine own_st (fun t k => XS.aload X7.here hx rfl (hb hby d1_32) rfl rfl  k) ?_
      show own_Go p e below G (T7.setTop (mkF m 34 #[.val (.long x0), .second, .val (.ref ca), .val (.int (5 : Int32)), .val (.int (1 : Int32)), .val (.ref u1)] [(.ref u1)]))
      rw [hG]
      exact own_retA X7 hx hlk hret rfl rfl (hb hby d1_34) ⟨congrArg some ((show (.ref u1) = own_sc x0 u0 u1 u2 u3 u4 by unfold own_sc; rw [if_neg (fun q => c29_5 q.symm), if_pos c29_8.symm]).trans hr), rfl, e7⟩ (by decide) (by decide)
    · skip
      refine own_st (fun t k => XS.ifYes X7.here hx rfl (pc0 := 29) (pc' := 35) rfl (hb hby d1_29) rfl ((if0 _ _).trans (feq (fun q => c29_8 ((lw_eq _ _).1 q))).2) (by decide) (by decide) k) ?_
      show own_Go p e below G (T7.setTop (mkF m 35 #[.val (.long x0), .second, .val (.ref ca), .val (.int (5 : Int32)), .val (.int (1 : Int32)), .val (.ref u1)] []))
      refine own_st (fun t k => XS.iinc X7.here hx rfl (hb hby d1_35) rfl (l' := #[.val (.long x0), .second, .val (.ref ca), .val (.int (5 : Int32)), .val (.int (2 : Int32)), .val (.ref u1)]) rfl k) ?_
      show own_Go p e below G (T7.setTop (mkF m 38 #[.val (.long x0), .second, .val (.ref ca), .val (.int (5 : Int32)), .val (.int (2 : Int32)), .val (.ref u1)] []))
      refine own_st (fun t k => XS.goto X7.here hx rfl (pc0 := 38) (pc' := 10) rfl (hb hby d1_38) (by decide) (by decide) k) ?_
      show own_Go p e below G (T7.setTop (mkF m 10 #[.val (.long x0), .second, .val (.ref ca), .val (.int (5 : Int32)), .val (.int (2 : Int32)), .val (.ref u1)] []))
      refine own_st (fun t k => XS.iload X7.here hx rfl (hb hby d1_10) rfl  k) ?_
      show own_Go p e below G (T7.setTop (mkF m 12 #[.val (.long x0), .second, .val (.ref ca), .val (.int (5 : Int32)), .val (.int (2 : Int32)), .val (.ref u1)] [(.int (2 : Int32))]))
      refine own_st (fun t k => XS.iloadN X7.here hx rfl (hb hby d1_12) rfl  k) ?_
      show own_Go p e below G (T7.setTop (mkF m 13 #[.val (.long x0), .second, .val (.ref ca), .val (.int (5 : Int32)), .val (.int (2 : Int32)), .val (.ref u1)] [(.int (5 : Int32)), (.int (2 : Int32))]))
      refine own_st (fun t k => XS.icmpNo X7.here hx rfl (hb hby d1_13) rfl (tlt (by decide)).2.1 k) ?_
      show own_Go p e below G (T7.setTop (mkF m 16 #[.val (.long x0), .second, .val (.ref ca), .val (.int (5 : Int32)), .val (.int (2 : Int32)), .val (.ref u1)] []))
      refine own_st (fun t k => XS.aloadN X7.here hx rfl (hb hby d1_16) rfl rfl  k) ?_
      show own_Go p e below G (T7.setTop (mkF m 17 #[.val (.long x0), .second, .val (.ref ca), .val (.int (5 : Int32)), .val (.int (2 : Int32)), .val (.ref u1)] [(.ref ca)]))
      refine own_st (fun t k => XS.iload X7.here hx rfl (hb hby d1_17) rfl  k) ?_
      show own_Go p e below G (T7.setTop (mkF m 19 #[.val (.long x0), .second, .val (.ref ca), .val (.int (5 : Int32)), .val (.int (2 : Int32)), .val (.ref u1)] [(.int (2 : Int32)), (.ref ca)]))
      have Vc9 := VC
      obtain ⟨cl9, Ar9, -, Sa9, -, Ha9, -⟩ := Vc9
      have hin9 : ¬ ((2 : Int32) < 0 ∨ cl9.slots.size ≤ ((2 : Int32)).toNatClampNeg) := inb_of Sa9 ⟨by decide, by decide⟩
      refine own_st (fun t k => X7.aaload hx (j := (2 : Int32)) (v := (.ref u2)) (by rw [e7]; exact Ar9.1) (State.isArrayOf_alike hZ.alike Ar9.2.1) rfl Ar9.2.2 hin9 (Ha9.at hin9 rfl) (g := (mkF m 19 #[.val (.long x0), .second, .val (.ref ca), .val (.int (5 : Int32)), .val (.int (2 : Int32)), .val (.ref u1)] [(.int (2 : Int32)), (.ref ca)])) rfl rfl (hb hby d1_19) t k) ?_
      show own_Go p e below G (T7.setTop (mkF m 20 #[.val (.long x0), .second, .val (.ref ca), .val (.int (5 : Int32)), .val (.int (2 : Int32)), .val (.ref u1)] [(.ref u2)]))
      refine own_st (fun t k => XS.astore X7.here hx rfl (hb hby d1_20) rfl rfl (l' := #[.val (.long x0), .second, .val (.ref ca), .val (.int (5 : Int32)), .val (.int (2 : Int32)), .val (.ref u2)]) rfl k) ?_
      show own_Go p e below G (T7.setTop (mkF m 22 #[.val (.long x0), .second, .val (.ref ca), .val (.int (5 : Int32)), .val (.int (2 : Int32)), .val (.ref u2)] []))
      refine own_st (fun t k => XS.aload X7.here hx rfl (hb hby d1_22) rfl rfl  k) ?_
      show own_Go p e below G (T7.setTop (mkF m 24 #[.val (.long x0), .second, .val (.ref ca), .val (.int (5 : Int32)), .val (.int (2 : Int32)), .val (.ref u2)] [(.ref u2)]))
      obtain ⟨T10, X10, e10, st10⟩ := getF X7 hx hZ hown (host := "") (Or.inl (hw _ (List.mem_of_getElem? (i := 13) rfl))) Via.refl e7 F2 (g := (mkF m 24 #[.val (.long x0), .second, .val (.ref ca), .val (.int (5 : Int32)), .val (.int (2 : Int32)), .val (.ref u2)] [(.ref u2)])) rfl rfl (hb hby d1_24)
      refine own_st st10 ?_
      show own_Go p e below G (T10.setTop (mkF m 27 #[.val (.long x0), .second, .val (.ref ca), .val (.int (5 : Int32)), .val (.int (2 : Int32)), .val (.ref u2)] [(.long (64 : Int64))]))
      refine own_st (fun t k => XS.lloadN X10.here hx rfl (hb hby d1_27) rfl  k) ?_
      show own_Go p e below G (T10.setTop (mkF m 28 #[.val (.long x0), .second, .val (.ref ca), .val (.int (5 : Int32)), .val (.int (2 : Int32)), .val (.ref u2)] [(.long x0), (.long (64 : Int64))]))
      refine own_st (fun t k => XS.lcmp X10.here hx rfl (hb hby d1_28) rfl k) ?_
      show own_Go p e below G (T10.setTop (mkF m 29 #[.val (.long x0), .second, .val (.ref ca), .val (.int (5 : Int32)), .val (.int (2 : Int32)), .val (.ref u2)] [(.int (lcmpW (64 : Int64) x0))]))
      by_cases c29_11 : (64 : Int64) = x0
      · skip
        refine own_st (fun t k => XS.ifNo X10.here hx rfl (hb hby d1_29) rfl ((if0 _ _).trans (teq ((lw_eq _ _).2 c29_11)).2) k) ?_
        show own_Go p e below G (T10.setTop (mkF m 32 #[.val (.long x0), .second, .val (.ref ca), .val (.int (5 : Int32)), .val (.int (2 : Int32)), .val (.ref u2)] []))
        refine own_st (fun t k => XS.aload X10.here hx rfl (hb hby d1_32) rfl rfl  k) ?_
        show own_Go p e below G (T10.setTop (mkF m 34 #[.val (.long x0), .second, .val (.ref ca), .val (.int (5 : Int32)), .val (.int (2 : Int32)), .val (.ref u2)] [(.ref u2)]))
        rw [hG]
        exact own_retA X10 hx hlk hret rfl rfl (hb hby d1_34) ⟨congrArg some ((show (.ref u2) = own_sc x0 u0 u1 u2 u3 u4 by unfold own_sc; rw [if_neg (fun q => c29_5 q.symm), if_neg (fun q => c29_8 q.symm), if_pos c29_11.symm]).trans hr), rfl, e10⟩ (by decide) (by decide)
      · skip
        refine own_st (fun t k => XS.ifYes X10.here hx rfl (pc0 := 29) (pc' := 35) rfl (hb hby d1_29) rfl ((if0 _ _).trans (feq (fun q => c29_11 ((lw_eq _ _).1 q))).2) (by decide) (by decide) k) ?_
        show own_Go p e below G (T10.setTop (mkF m 35 #[.val (.long x0), .second, .val (.ref ca), .val (.int (5 : Int32)), .val (.int (2 : Int32)), .val (.ref u2)] []))
        refine own_st (fun t k => XS.iinc X10.here hx rfl (hb hby d1_35) rfl (l' := #[.val (.long x0), .second, .val (.ref ca), .val (.int (5 : Int32)), .val (.int (3 : Int32)), .val (.ref u2)]) rfl k) ?_
        show own_Go p e below G (T10.setTop (mkF m 38 #[.val (.long x0), .second, .val (.ref ca), .val (.int (5 : Int32)), .val (.int (3 : Int32)), .val (.ref u2)] []))
        refine own_st (fun t k => XS.goto X10.here hx rfl (pc0 := 38) (pc' := 10) rfl (hb hby d1_38) (by decide) (by decide) k) ?_
        show own_Go p e below G (T10.setTop (mkF m 10 #[.val (.long x0), .second, .val (.ref ca), .val (.int (5 : Int32)), .val (.int (3 : Int32)), .val (.ref u2)] []))
        refine own_st (fun t k => XS.iload X10.here hx rfl (hb hby d1_10) rfl  k) ?_
        show own_Go p e below G (T10.setTop (mkF m 12 #[.val (.long x0), .second, .val (.ref ca), .val (.int (5 : Int32)), .val (.int (3 : Int32)), .val (.ref u2)] [(.int (3 : Int32))]))
        refine own_st (fun t k => XS.iloadN X10.here hx rfl (hb hby d1_12) rfl  k) ?_
        show own_Go p e below G (T10.setTop (mkF m 13 #[.val (.long x0), .second, .val (.ref ca), .val (.int (5 : Int32)), .val (.int (3 : Int32)), .val (.ref u2)] [(.int (5 : Int32)), (.int (3 : Int32))]))
        refine own_st (fun t k => XS.icmpNo X10.here hx rfl (hb hby d1_13) rfl (tlt (by decide)).2.1 k) ?_
        show own_Go p e below G (T10.setTop (mkF m 16 #[.val (.long x0), .second, .val (.ref ca), .val (.int (5 : Int32)), .val (.int (3 : Int32)), .val (.ref u2)] []))
        refine own_st (fun t k => XS.aloadN X10.here hx rfl (hb hby d1_16) rfl rfl  k) ?_
        show own_Go p e below G (T10.setTop (mkF m 17 #[.val (.long x0), .second, .val (.ref ca), .val (.int (5 : Int32)), .val (.int (3 : Int32)), .val (.ref u2)] [(.ref ca)]))
        refine own_st (fun t k => XS.iload X10.here hx rfl (hb hby d1_17) rfl  k) ?_
        show own_Go p e below G (T10.setTop (mkF m 19 #[.val (.long x0), .second, .val (.ref ca), .val (.int (5 : Int32)), .val (.int (3 : Int32)), .val (.ref u2)] [(.int (3 : Int32)), (.ref ca)]))
        have Vc12 := VC
        obtain ⟨cl12, Ar12, -, Sa12, -, Ha12, -⟩ := Vc12
        have hin12 : ¬ ((3 : Int32) < 0 ∨ cl12.slots.size ≤ ((3 : Int32)).toNatClampNeg) := inb_of Sa12 ⟨by decide, by decide⟩
        refine own_st (fun t k => X10.aaload hx (j := (3 : Int32)) (v := (.ref u3)) (by rw [e10]; exact Ar12.1) (State.isArrayOf_alike hZ.alike Ar12.2.1) rfl Ar12.2.2 hin12 (Ha12.at hin12 rfl) (g := (mkF m 19 #[.val (.long x0), .second, .val (.ref ca), .val (.int (5 : Int32)), .val (.int (3 : Int32)), .val (.ref u2)] [(.int (3 : Int32)), (.ref ca)])) rfl rfl (hb hby d1_19) t k) ?_
        show own_Go p e below G (T10.setTop (mkF m 20 #[.val (.long x0), .second, .val (.ref ca), .val (.int (5 : Int32)), .val (.int (3 : Int32)), .val (.ref u2)] [(.ref u3)]))
        refine own_st (fun t k => XS.astore X10.here hx rfl (hb hby d1_20) rfl rfl (l' := #[.val (.long x0), .second, .val (.ref ca), .val (.int (5 : Int32)), .val (.int (3 : Int32)), .val (.ref u3)]) rfl k) ?_
        show own_Go p e below G (T10.setTop (mkF m 22 #[.val (.long x0), .second, .val (.ref ca), .val (.int (5 : Int32)), .val (.int (3 : Int32)), .val (.ref u3)] []))
        refine own_st (fun t k => XS.aload X10.here hx rfl (hb hby d1_22) rfl rfl  k) ?_
        show own_Go p e below G (T10.setTop (mkF m 24 #[.val (.long x0), .second, .val (.ref ca), .val (.int (5 : Int32)), .val (.int (3 : Int32)), .val (.ref u3)] [(.ref u3)]))
        obtain ⟨T13, X13, e13, st13⟩ := getF X10 hx hZ hown (host := "") (Or.inl (hw _ (List.mem_of_getElem? (i := 13) rfl))) Via.refl e10 F3 (g := (mkF m 24 #[.val (.long x0), .second, .val (.ref ca), .val (.int (5 : Int32)), .val (.int (3 : Int32)), .val (.ref u3)] [(.ref u3)])) rfl rfl (hb hby d1_24)
        refine own_st st13 ?_
        show own_Go p e below G (T13.setTop (mkF m 27 #[.val (.long x0), .second, .val (.ref ca), .val (.int (5 : Int32)), .val (.int (3 : Int32)), .val (.ref u3)] [(.long (93 : Int64))]))
        refine own_st (fun t k => XS.lloadN X13.here hx rfl (hb hby d1_27) rfl  k) ?_
        show own_Go p e below G (T13.setTop (mkF m 28 #[.val (.long x0), .second, .val (.ref ca), .val (.int (5 : Int32)), .val (.int (3 : Int32)), .val (.ref u3)] [(.long x0), (.long (93 : Int64))]))
        refine own_st (fun t k => XS.lcmp X13.here hx rfl (hb hby d1_28) rfl k) ?_
        show own_Go p e below G (T13.setTop (mkF m 29 #[.val (.long x0), .second, .val (.ref ca), .val (.int (5 : Int32)), .val (.int (3 : Int32)), .val (.ref u3)] [(.int (lcmpW (93 : Int64) x0))]))
        by_cases c29_14 : (93 : Int64) = x0
        · skip
          refine own_st (fun t k => XS.ifNo X13.here hx rfl (hb hby d1_29) rfl ((if0 _ _).trans (teq ((lw_eq _ _).2 c29_14)).2) k) ?_
          show own_Go p e below G (T13.setTop (mkF m 32 #[.val (.long x0), .second, .val (.ref ca), .val (.int (5 : Int32)), .val (.int (3 : Int32)), .val (.ref u3)] []))
          refine own_st (fun t k => XS.aload X13.here hx rfl (hb hby d1_32) rfl rfl  k) ?_
          show own_Go p e below G (T13.setTop (mkF m 34 #[.val (.long x0), .second, .val (.ref ca), .val (.int (5 : Int32)), .val (.int (3 : Int32)), .val (.ref u3)] [(.ref u3)]))
          rw [hG]
          exact own_retA X13 hx hlk hret rfl rfl (hb hby d1_34) ⟨congrArg some ((show (.ref u3) = own_sc x0 u0 u1 u2 u3 u4 by unfold own_sc; rw [if_neg (fun q => c29_5 q.symm), if_neg (fun q => c29_8 q.symm), if_neg (fun q => c29_11 q.symm), if_pos c29_14.symm]).trans hr), rfl, e13⟩ (by decide) (by decide)
        · skip
          refine own_st (fun t k => XS.ifYes X13.here hx rfl (pc0 := 29) (pc' := 35) rfl (hb hby d1_29) rfl ((if0 _ _).trans (feq (fun q => c29_14 ((lw_eq _ _).1 q))).2) (by decide) (by decide) k) ?_
          show own_Go p e below G (T13.setTop (mkF m 35 #[.val (.long x0), .second, .val (.ref ca), .val (.int (5 : Int32)), .val (.int (3 : Int32)), .val (.ref u3)] []))
          refine own_st (fun t k => XS.iinc X13.here hx rfl (hb hby d1_35) rfl (l' := #[.val (.long x0), .second, .val (.ref ca), .val (.int (5 : Int32)), .val (.int (4 : Int32)), .val (.ref u3)]) rfl k) ?_
          show own_Go p e below G (T13.setTop (mkF m 38 #[.val (.long x0), .second, .val (.ref ca), .val (.int (5 : Int32)), .val (.int (4 : Int32)), .val (.ref u3)] []))
          refine own_st (fun t k => XS.goto X13.here hx rfl (pc0 := 38) (pc' := 10) rfl (hb hby d1_38) (by decide) (by decide) k) ?_
          show own_Go p e below G (T13.setTop (mkF m 10 #[.val (.long x0), .second, .val (.ref ca), .val (.int (5 : Int32)), .val (.int (4 : Int32)), .val (.ref u3)] []))
          refine own_st (fun t k => XS.iload X13.here hx rfl (hb hby d1_10) rfl  k) ?_
          show own_Go p e below G (T13.setTop (mkF m 12 #[.val (.long x0), .second, .val (.ref ca), .val (.int (5 : Int32)), .val (.int (4 : Int32)), .val (.ref u3)] [(.int (4 : Int32))]))
          refine own_st (fun t k => XS.iloadN X13.here hx rfl (hb hby d1_12) rfl  k) ?_
          show own_Go p e below G (T13.setTop (mkF m 13 #[.val (.long x0), .second, .val (.ref ca), .val (.int (5 : Int32)), .val (.int (4 : Int32)), .val (.ref u3)] [(.int (5 : Int32)), (.int (4 : Int32))]))
          refine own_st (fun t k => XS.icmpNo X13.here hx rfl (hb hby d1_13) rfl (tlt (by decide)).2.1 k) ?_
          show own_Go p e below G (T13.setTop (mkF m 16 #[.val (.long x0), .second, .val (.ref ca), .val (.int (5 : Int32)), .val (.int (4 : Int32)), .val (.ref u3)] []))
          refine own_st (fun t k => XS.aloadN X13.here hx rfl (hb hby d1_16) rfl rfl  k) ?_
          show own_Go p e below G (T13.setTop (mkF m 17 #[.val (.long x0), .second, .val (.ref ca), .val (.int (5 : Int32)), .val (.int (4 : Int32)), .val (.ref u3)] [(.ref ca)]))
          refine own_st (fun t k => XS.iload X13.here hx rfl (hb hby d1_17) rfl  k) ?_
          show own_Go p e below G (T13.setTop (mkF m 19 #[.val (.long x0), .second, .val (.ref ca), .val (.int (5 : Int32)), .val (.int (4 : Int32)), .val (.ref u3)] [(.int (4 : Int32)), (.ref ca)]))
          have Vc15 := VC
          obtain ⟨cl15, Ar15, -, Sa15, -, Ha15, -⟩ := Vc15
          have hin15 : ¬ ((4 : Int32) < 0 ∨ cl15.slots.size ≤ ((4 : Int32)).toNatClampNeg) := inb_of Sa15 ⟨by decide, by decide⟩
          refine own_st (fun t k => X13.aaload hx (j := (4 : Int32)) (v := (.ref u4)) (by rw [e13]; exact Ar15.1) (State.isArrayOf_alike hZ.alike Ar15.2.1) rfl Ar15.2.2 hin15 (Ha15.at hin15 rfl) (g := (mkF m 19 #[.val (.long x0), .second, .val (.ref ca), .val (.int (5 : Int32)), .val (.int (4 : Int32)), .val (.ref u3)] [(.int (4 : Int32)), (.ref ca)])) rfl rfl (hb hby d1_19) t k) ?_
          show own_Go p e below G (T13.setTop (mkF m 20 #[.val (.long x0), .second, .val (.ref ca), .val (.int (5 : Int32)), .val (.int (4 : Int32)), .val (.ref u3)] [(.ref u4)]))
          refine own_st (fun t k => XS.astore X13.here hx rfl (hb hby d1_20) rfl rfl (l' := #[.val (.long x0), .second, .val (.ref ca), .val (.int (5 : Int32)), .val (.int (4 : Int32)), .val (.ref u4)]) rfl k) ?_
          show own_Go p e below G (T13.setTop (mkF m 22 #[.val (.long x0), .second, .val (.ref ca), .val (.int (5 : Int32)), .val (.int (4 : Int32)), .val (.ref u4)] []))
          refine own_st (fun t k => XS.aload X13.here hx rfl (hb hby d1_22) rfl rfl  k) ?_
          show own_Go p e below G (T13.setTop (mkF m 24 #[.val (.long x0), .second, .val (.ref ca), .val (.int (5 : Int32)), .val (.int (4 : Int32)), .val (.ref u4)] [(.ref u4)]))
          obtain ⟨T16, X16, e16, st16⟩ := getF X13 hx hZ hown (host := "") (Or.inl (hw _ (List.mem_of_getElem? (i := 13) rfl))) Via.refl e13 F4 (g := (mkF m 24 #[.val (.long x0), .second, .val (.ref ca), .val (.int (5 : Int32)), .val (.int (4 : Int32)), .val (.ref u4)] [(.ref u4)])) rfl rfl (hb hby d1_24)
          refine own_st st16 ?_
          show own_Go p e below G (T16.setTop (mkF m 27 #[.val (.long x0), .second, .val (.ref ca), .val (.int (5 : Int32)), .val (.int (4 : Int32)), .val (.ref u4)] [(.long (214 : Int64))]))
          refine own_st (fun t k => XS.lloadN X16.here hx rfl (hb hby d1_27) rfl  k) ?_
          show own_Go p e below G (T16.setTop (mkF m 28 #[.val (.long x0), .second, .val (.ref ca), .val (.int (5 : Int32)), .val (.int (4 : Int32)), .val (.ref u4)] [(.long x0), (.long (214 : Int64))]))
          refine own_st (fun t k => XS.lcmp X16.here hx rfl (hb hby d1_28) rfl k) ?_
          show own_Go p e below G (T16.setTop (mkF m 29 #[.val (.long x0), .second, .val (.ref ca), .val (.int (5 : Int32)), .val (.int (4 : Int32)), .val (.ref u4)] [(.int (lcmpW (214 : Int64) x0))]))
          by_cases c29_17 : (214 : Int64) = x0
          · skip
            refine own_st (fun t k => XS.ifNo X16.here hx rfl (hb hby d1_29) rfl ((if0 _ _).trans (teq ((lw_eq _ _).2 c29_17)).2) k) ?_
            show own_Go p e below G (T16.setTop (mkF m 32 #[.val (.long x0), .second, .val (.ref ca), .val (.int (5 : Int32)), .val (.int (4 : Int32)), .val (.ref u4)] []))
            refine own_st (fun t k => XS.aload X16.here hx rfl (hb hby d1_32) rfl rfl  k) ?_
            show own_Go p e below G (T16.setTop (mkF m 34 #[.val (.long x0), .second, .val (.ref ca), .val (.int (5 : Int32)), .val (.int (4 : Int32)), .val (.ref u4)] [(.ref u4)]))
            rw [hG]
            exact own_retA X16 hx hlk hret rfl rfl (hb hby d1_34) ⟨congrArg some ((show (.ref u4) = own_sc x0 u0 u1 u2 u3 u4 by unfold own_sc; rw [if_neg (fun q => c29_5 q.symm), if_neg (fun q => c29_8 q.symm), if_neg (fun q => c29_11 q.symm), if_neg (fun q => c29_14 q.symm), if_pos c29_17.symm]).trans hr), rfl, e16⟩ (by decide) (by decide)
          · skip
            refine own_st (fun t k => XS.ifYes X16.here hx rfl (pc0 := 29) (pc' := 35) rfl (hb hby d1_29) rfl ((if0 _ _).trans (feq (fun q => c29_17 ((lw_eq _ _).1 q))).2) (by decide) (by decide) k) ?_
            show own_Go p e below G (T16.setTop (mkF m 35 #[.val (.long x0), .second, .val (.ref ca), .val (.int (5 : Int32)), .val (.int (4 : Int32)), .val (.ref u4)] []))
            refine own_st (fun t k => XS.iinc X16.here hx rfl (hb hby d1_35) rfl (l' := #[.val (.long x0), .second, .val (.ref ca), .val (.int (5 : Int32)), .val (.int (5 : Int32)), .val (.ref u4)]) rfl k) ?_
            show own_Go p e below G (T16.setTop (mkF m 38 #[.val (.long x0), .second, .val (.ref ca), .val (.int (5 : Int32)), .val (.int (5 : Int32)), .val (.ref u4)] []))
            refine own_st (fun t k => XS.goto X16.here hx rfl (pc0 := 38) (pc' := 10) rfl (hb hby d1_38) (by decide) (by decide) k) ?_
            show own_Go p e below G (T16.setTop (mkF m 10 #[.val (.long x0), .second, .val (.ref ca), .val (.int (5 : Int32)), .val (.int (5 : Int32)), .val (.ref u4)] []))
            refine own_st (fun t k => XS.iload X16.here hx rfl (hb hby d1_10) rfl  k) ?_
            show own_Go p e below G (T16.setTop (mkF m 12 #[.val (.long x0), .second, .val (.ref ca), .val (.int (5 : Int32)), .val (.int (5 : Int32)), .val (.ref u4)] [(.int (5 : Int32))]))
            refine own_st (fun t k => XS.iloadN X16.here hx rfl (hb hby d1_12) rfl  k) ?_
            show own_Go p e below G (T16.setTop (mkF m 13 #[.val (.long x0), .second, .val (.ref ca), .val (.int (5 : Int32)), .val (.int (5 : Int32)), .val (.ref u4)] [(.int (5 : Int32)), (.int (5 : Int32))]))
            refine own_st (fun t k => XS.icmpYes X16.here hx rfl (pc0 := 13) (pc' := 41) rfl (hb hby d1_13) rfl (flt (by decide)).2.1 (by decide) (by decide) k) ?_
            show own_Go p e below G (T16.setTop (mkF m 41 #[.val (.long x0), .second, .val (.ref ca), .val (.int (5 : Int32)), .val (.int (5 : Int32)), .val (.ref u4)] []))
            refine own_st (fun t k => XS.aconstNull X16.here hx rfl (hb hby d1_41) k) ?_
            show own_Go p e below G (T16.setTop (mkF m 42 #[.val (.long x0), .second, .val (.ref ca), .val (.int (5 : Int32)), .val (.int (5 : Int32)), .val (.ref u4)] [.null]))
            rw [hG]
            exact own_retA X16 hx hlk hret rfl rfl (hb hby d1_42) ⟨congrArg some ((show (.null : Value) = own_sc x0 u0 u1 u2 u3 u4 by unfold own_sc; rw [if_neg (fun q => c29_5 q.symm), if_neg (fun q => c29_8 q.symm), if_neg (fun q => c29_11 q.symm), if_neg (fun q => c29_14 q.symm), if_neg (fun q => c29_17 q.symm)]).trans hr), rfl, e16⟩ (by decide) (by decide)
theorem d2_0 : decode method_3_code 0 = .ok (.lload_n 0, 1) := by decide +kernel
theorem d2_1 : decode method_3_code 1 = .ok (.ldc2_w 7, 3) := by decide +kernel
theorem d2_4 : decode method_3_code 4 = .ok (.lcmp, 1) := by decide +kernel
theorem d2_5 : decode method_3_code 5 = .ok (.ifCond .ne 7, 3) := by decide +kernel
theorem d2_8 : decode method_3_code 8 = .ok (.getstatic 28, 3) := by decide +kernel
theorem d2_11 : decode method_3_code 11 = .ok (.areturn, 1) := by decide +kernel
theorem d2_12 : decode method_3_code 12 = .ok (.lload_n 0, 1) := by decide +kernel
theorem d2_13 : decode method_3_code 13 = .ok (.ldc2_w 9, 3) := by decide +kernel
theorem d2_16 : decode method_3_code 16 = .ok (.lcmp, 1) := by decide +kernel
theorem d2_17 : decode method_3_code 17 = .ok (.ifCond .ne 7, 3) := by decide +kernel
theorem d2_20 : decode method_3_code 20 = .ok (.getstatic 32, 3) := by decide +kernel
theorem d2_23 : decode method_3_code 23 = .ok (.areturn, 1) := by decide +kernel
theorem d2_24 : decode method_3_code 24 = .ok (.lload_n 0, 1) := by decide +kernel
theorem d2_25 : decode method_3_code 25 = .ok (.ldc2_w 11, 3) := by decide +kernel
theorem d2_28 : decode method_3_code 28 = .ok (.lcmp, 1) := by decide +kernel
theorem d2_29 : decode method_3_code 29 = .ok (.ifCond .ne 7, 3) := by decide +kernel
theorem d2_32 : decode method_3_code 32 = .ok (.getstatic 35, 3) := by decide +kernel
theorem d2_35 : decode method_3_code 35 = .ok (.areturn, 1) := by decide +kernel
theorem d2_36 : decode method_3_code 36 = .ok (.lload_n 0, 1) := by decide +kernel
theorem d2_37 : decode method_3_code 37 = .ok (.ldc2_w 13, 3) := by decide +kernel
theorem d2_40 : decode method_3_code 40 = .ok (.lcmp, 1) := by decide +kernel
theorem d2_41 : decode method_3_code 41 = .ok (.ifCond .ne 7, 3) := by decide +kernel
theorem d2_44 : decode method_3_code 44 = .ok (.getstatic 38, 3) := by decide +kernel
theorem d2_47 : decode method_3_code 47 = .ok (.areturn, 1) := by decide +kernel
theorem d2_48 : decode method_3_code 48 = .ok (.lload_n 0, 1) := by decide +kernel
theorem d2_49 : decode method_3_code 49 = .ok (.ldc2_w 15, 3) := by decide +kernel
theorem d2_52 : decode method_3_code 52 = .ok (.lcmp, 1) := by decide +kernel
theorem d2_53 : decode method_3_code 53 = .ok (.ifCond .ne 7, 3) := by decide +kernel
theorem d2_56 : decode method_3_code 56 = .ok (.getstatic 41, 3) := by decide +kernel
theorem d2_59 : decode method_3_code 59 = .ok (.areturn, 1) := by decide +kernel
theorem d2_60 : decode method_3_code 60 = .ok (.aconst_null, 1) := by decide +kernel
theorem d2_61 : decode method_3_code 61 = .ok (.areturn, 1) := by decide +kernel
theorem pn_rm2 : plainFor (⟨"com/example/pathweave/pathweave/SystemCallNumberedPinLaw", "expected", "(J)Lcom/example/pathweave/pathweave/SystemCall;"⟩ : MethodName) = true := by decide +kernel
theorem ef_rm2 (m : MethodId) (x0 : Int64) : entryFrame m #[(.long x0)] 2 = mkF m 0 #[.val (.long x0), .second] [] := by first | (simp [entryFrame, mkF, argsToLocals, Value.category]; done) | rfl
set_option maxRecDepth 65536 in
set_option maxHeartbeats 40000000 in
theorem rm2 (l : Launch) (Z : State) (a0 : Array Value) (hw : ∀ d ∈ tables_1, d.before a0 Z = true) (x0 : Int64) (u0 u1 u2 u3 u4 : Addr) (r0 : Value) (h0 : Heap) (hr : own_sc x0 u0 u1 u2 u3 u4 = r0) (S0 : Sta Z h0 "com/example/pathweave/pathweave/SystemCall" "OPENAT" "Lcom/example/pathweave/pathweave/SystemCall;" (.ref u0)) (S1 : Sta Z h0 "com/example/pathweave/pathweave/SystemCall" "READ" "Lcom/example/pathweave/pathweave/SystemCall;" (.ref u1)) (S2 : Sta Z h0 "com/example/pathweave/pathweave/SystemCall" "WRITE" "Lcom/example/pathweave/pathweave/SystemCall;" (.ref u2)) (S3 : Sta Z h0 "com/example/pathweave/pathweave/SystemCall" "EXIT" "Lcom/example/pathweave/pathweave/SystemCall;" (.ref u3)) (S4 : Sta Z h0 "com/example/pathweave/pathweave/SystemCall" "BRK" "Lcom/example/pathweave/pathweave/SystemCall;" (.ref u4)) :
    own_Met l Z (⟨"com/example/pathweave/pathweave/SystemCallNumberedPinLaw", "expected", "(J)Lcom/example/pathweave/pathweave/SystemCall;"⟩ : MethodName) method_3_code 2 (some (.object "com/example/pathweave/pathweave/SystemCall")) [] ({ frames := 0, cells := 0, slots := 0, locals := 0 } : Room) #[(.long x0)] h0 (fun v h L => v = some r0 ∧ L = [] ∧ h = h0) := by
  refine own_body pn_rm2 ?_
  intro p e s m below meth c s₁ hx hby hml hown hnm hret hlk hZ X0 e0 G hG
  replace hml : c.maxLocals = 2 := hml
  replace hown : s.vm.findClass "com/example/pathweave/pathweave/SystemCallNumberedPinLaw" = some m.cls := hown
  rw [ef_rm2]
  show own_Go p e below G (s₁.setTop (mkF m 0 #[.val (.long x0), .second] []))
  refine own_st (fun t k => XS.lloadN X0.here hx rfl (hb hby d2_0) rfl  k) ?_
  show own_Go p e below G (s₁.setTop (mkF m 1 #[.val (.long x0), .second] [(.long x0)]))
  refine own_st (fun t k => X0.ldc2Long hx hown (mvT hZ (hw _ (List.mem_of_getElem? (i := 1) rfl))) (g := (mkF m 1 #[.val (.long x0), .second] [(.long x0)])) rfl (hb hby d2_1) t k) ?_
  show own_Go p e below G (s₁.setTop (mkF m 4 #[.val (.long x0), .second] [(.long (56 : Int64)), (.long x0)]))
  refine own_st (fun t k => XS.lcmp X0.here hx rfl (hb hby d2_4) rfl k) ?_
  show own_Go p e below G (s₁.setTop (mkF m 5 #[.val (.long x0), .second] [(.int (lcmpW x0 (56 : Int64)))]))
  by_cases c5_1 : x0 = (56 : Int64)
  · skip
    refine own_st (fun t k => XS.ifNo X0.here hx rfl (hb hby d2_5) rfl ((if0 _ _).trans (teq ((lw_eq _ _).2 c5_1)).2) k) ?_
    show own_Go p e below G (s₁.setTop (mkF m 8 #[.val (.long x0), .second] []))
    obtain ⟨T2, X2, e2, st2⟩ := getS X0 hx hZ hown (host := "") (hw _ (List.mem_of_getElem? (i := 19) rfl)) Via.refl e0 S0 (g := (mkF m 8 #[.val (.long x0), .second] [])) rfl (hb hby d2_8)
    refine own_st st2 ?_
    show own_Go p e below G (T2.setTop (mkF m 11 #[.val (.long x0), .second] [(.ref u0)]))
    rw [hG]
    exact own_retA X2 hx hlk hret rfl rfl (hb hby d2_11) ⟨congrArg some ((show (.ref u0) = own_sc x0 u0 u1 u2 u3 u4 by unfold own_sc; rw [if_pos c5_1]).trans hr), rfl, e2⟩ (by decide) (by decide)
  · skip
    refine own_st (fun t k => XS.ifYes X0.here hx rfl (pc0 := 5) (pc' := 12) rfl (hb hby d2_5) rfl ((if0 _ _).trans (feq (fun q => c5_1 ((lw_eq _ _).1 q))).2) (by decide) (by decide) k) ?_
    show own_Go p e below G (s₁.setTop (mkF m 12 #[.val (.long x0), .second] []))
    refine own_st (fun t k => XS.lloadN X0.here hx rfl (hb hby d2_12) rfl  k) ?_
    show own_Go p e below G (s₁.setTop (mkF m 13 #[.val (.long x0), .second] [(.long x0)]))
    refine own_st (fun t k => X0.ldc2Long hx hown (mvT hZ (hw _ (List.mem_of_getElem? (i := 2) rfl))) (g := (mkF m 13 #[.val (.long x0), .second] [(.long x0)])) rfl (hb hby d2_13) t k) ?_
    show own_Go p e below G (s₁.setTop (mkF m 16 #[.val (.long x0), .second] [(.long (63 : Int64)), (.long x0)]))
    refine own_st (fun t k => XS.lcmp X0.here hx rfl (hb hby d2_16) rfl k) ?_
    show own_Go p e below G (s₁.setTop (mkF m 17 #[.val (.long x0), .second] [(.int (lcmpW x0 (63 : Int64)))]))
    by_cases c17_3 : x0 = (63 : Int64)
    · skip
      refine own_st (fun t k => XS.ifNo X0.here hx rfl (hb hby d2_17) rfl ((if0 _ _).trans (teq ((lw_eq _ _).2 c17_3)).2) k) ?_
      show own_Go p e below G (s₁.setTop (mkF m 20 #[.val (.long x0), .second] []))
      obtain ⟨T4, X4, e4, st4⟩ := getS X0 hx hZ hown (host := "") (hw _ (List.mem_of_getElem? (i := 24) rfl)) Via.refl e0 S1 (g := (mkF m 20 #[.val (.long x0), .second] [])) rfl (hb hby d2_20)
      refine own_st st4 ?_
      show own_Go p e below G (T4.setTop (mkF m 23 #[.val (.long x0), .second] [(.ref u1)]))
      rw [hG]
      exact own_retA X4 hx hlk hret rfl rfl (hb hby d2_23) ⟨congrArg some ((show (.ref u1) = own_sc x0 u0 u1 u2 u3 u4 by unfold own_sc; rw [if_neg c5_1, if_pos c17_3]).trans hr), rfl, e4⟩ (by decide) (by decide)
    · skip
      refine own_st (fun t k => XS.ifYes X0.here hx rfl (pc0 := 17) (pc' := 24) rfl (hb hby d2_17) rfl ((if0 _ _).trans (feq (fun q => c17_3 ((lw_eq _ _).1 q))).2) (by decide) (by decide) k) ?_
      show own_Go p e below G (s₁.setTop (mkF m 24 #[.val (.long x0), .second] []))
      refine own_st (fun t k => XS.lloadN X0.here hx rfl (hb hby d2_24) rfl  k) ?_
      show own_Go p e below G (s₁.setTop (mkF m 25 #[.val (.long x0), .second] [(.long x0)]))
      refine own_st (fun t k => X0.ldc2Long hx hown (mvT hZ (hw _ (List.mem_of_getElem? (i := 3) rfl))) (g := (mkF m 25 #[.val (.long x0), .second] [(.long x0)])) rfl (hb hby d2_25) t k) ?_
      show own_Go p e below G (s₁.setTop (mkF m 28 #[.val (.long x0), .second] [(.long (64 : Int64)), (.long x0)]))
      refine own_st (fun t k => XS.lcmp X0.here hx rfl (hb hby d2_28) rfl k) ?_
      show own_Go p e below G (s₁.setTop (mkF m 29 #[.val (.long x0), .second] [(.int (lcmpW x0 (64 : Int64)))]))
      by_cases c29_5 : x0 = (64 : Int64)
      · skip
        refine own_st (fun t k => XS.ifNo X0.here hx rfl (hb hby d2_29) rfl ((if0 _ _).trans (teq ((lw_eq _ _).2 c29_5)).2) k) ?_
        show own_Go p e below G (s₁.setTop (mkF m 32 #[.val (.long x0), .second] []))
        obtain ⟨T6, X6, e6, st6⟩ := getS X0 hx hZ hown (host := "") (hw _ (List.mem_of_getElem? (i := 25) rfl)) Via.refl e0 S2 (g := (mkF m 32 #[.val (.long x0), .second] [])) rfl (hb hby d2_32)
        refine own_st st6 ?_
        show own_Go p e below G (T6.setTop (mkF m 35 #[.val (.long x0), .second] [(.ref u2)]))
        rw [hG]
        exact own_retA X6 hx hlk hret rfl rfl (hb hby d2_35) ⟨congrArg some ((show (.ref u2) = own_sc x0 u0 u1 u2 u3 u4 by unfold own_sc; rw [if_neg c5_1, if_neg c17_3, if_pos c29_5]).trans hr), rfl, e6⟩ (by decide) (by decide)
      · skip
        refine own_st (fun t k => XS.ifYes X0.here hx rfl (pc0 := 29) (pc' := 36) rfl (hb hby d2_29) rfl ((if0 _ _).trans (feq (fun q => c29_5 ((lw_eq _ _).1 q))).2) (by decide) (by decide) k) ?_
        show own_Go p e below G (s₁.setTop (mkF m 36 #[.val (.long x0), .second] []))
        refine own_st (fun t k => XS.lloadN X0.here hx rfl (hb hby d2_36) rfl  k) ?_
        show own_Go p e below G (s₁.setTop (mkF m 37 #[.val (.long x0), .second] [(.long x0)]))
        refine own_st (fun t k => X0.ldc2Long hx hown (mvT hZ (hw _ (List.mem_of_getElem? (i := 4) rfl))) (g := (mkF m 37 #[.val (.long x0), .second] [(.long x0)])) rfl (hb hby d2_37) t k) ?_
        show own_Go p e below G (s₁.setTop (mkF m 40 #[.val (.long x0), .second] [(.long (93 : Int64)), (.long x0)]))
        refine own_st (fun t k => XS.lcmp X0.here hx rfl (hb hby d2_40) rfl k) ?_
        show own_Go p e below G (s₁.setTop (mkF m 41 #[.val (.long x0), .second] [(.int (lcmpW x0 (93 : Int64)))]))
        by_cases c41_7 : x0 = (93 : Int64)
        · skip
          refine own_st (fun t k => XS.ifNo X0.here hx rfl (hb hby d2_41) rfl ((if0 _ _).trans (teq ((lw_eq _ _).2 c41_7)).2) k) ?_
          show own_Go p e below G (s₁.setTop (mkF m 44 #[.val (.long x0), .second] []))
          obtain ⟨T8, X8, e8, st8⟩ := getS X0 hx hZ hown (host := "") (hw _ (List.mem_of_getElem? (i := 26) rfl)) Via.refl e0 S3 (g := (mkF m 44 #[.val (.long x0), .second] [])) rfl (hb hby d2_44)
          refine own_st st8 ?_
          show own_Go p e below G (T8.setTop (mkF m 47 #[.val (.long x0), .second] [(.ref u3)]))
          rw [hG]
          exact own_retA X8 hx hlk hret rfl rfl (hb hby d2_47) ⟨congrArg some ((show (.ref u3) = own_sc x0 u0 u1 u2 u3 u4 by unfold own_sc; rw [if_neg c5_1, if_neg c17_3, if_neg c29_5, if_pos c41_7]).trans hr), rfl, e8⟩ (by decide) (by decide)
        · skip
          refine own_st (fun t k => XS.ifYes X0.here hx rfl (pc0 := 41) (pc' := 48) rfl (hb hby d2_41) rfl ((if0 _ _).trans (feq (fun q => c41_7 ((lw_eq _ _).1 q))).2) (by decide) (by decide) k) ?_
          show own_Go p e below G (s₁.setTop (mkF m 48 #[.val (.long x0), .second] []))
          refine own_st (fun t k => XS.lloadN X0.here hx rfl (hb hby d2_48) rfl  k) ?_
          show own_Go p e below G (s₁.setTop (mkF m 49 #[.val (.long x0), .second] [(.long x0)]))
          refine own_st (fun t k => X0.ldc2Long hx hown (mvT hZ (hw _ (List.mem_of_getElem? (i := 5) rfl))) (g := (mkF m 49 #[.val (.long x0), .second] [(.long x0)])) rfl (hb hby d2_49) t k) ?_
          show own_Go p e below G (s₁.setTop (mkF m 52 #[.val (.long x0), .second] [(.long (214 : Int64)), (.long x0)]))
          refine own_st (fun t k => XS.lcmp X0.here hx rfl (hb hby d2_52) rfl k) ?_
          show own_Go p e below G (s₁.setTop (mkF m 53 #[.val (.long x0), .second] [(.int (lcmpW x0 (214 : Int64)))]))
          by_cases c53_9 : x0 = (214 : Int64)
          · skip
            refine own_st (fun t k => XS.ifNo X0.here hx rfl (hb hby d2_53) rfl ((if0 _ _).trans (teq ((lw_eq _ _).2 c53_9)).2) k) ?_
            show own_Go p e below G (s₁.setTop (mkF m 56 #[.val (.long x0), .second] []))
            obtain ⟨T10, X10, e10, st10⟩ := getS X0 hx hZ hown (host := "") (hw _ (List.mem_of_getElem? (i := 27) rfl)) Via.refl e0 S4 (g := (mkF m 56 #[.val (.long x0), .second] [])) rfl (hb hby d2_56)
            refine own_st st10 ?_
            show own_Go p e below G (T10.setTop (mkF m 59 #[.val (.long x0), .second] [(.ref u4)]))
            rw [hG]
            exact own_retA X10 hx hlk hret rfl rfl (hb hby d2_59) ⟨congrArg some ((show (.ref u4) = own_sc x0 u0 u1 u2 u3 u4 by unfold own_sc; rw [if_neg c5_1, if_neg c17_3, if_neg c29_5, if_neg c41_7, if_pos c53_9]).trans hr), rfl, e10⟩ (by decide) (by decide)
          · skip
            refine own_st (fun t k => XS.ifYes X0.here hx rfl (pc0 := 53) (pc' := 60) rfl (hb hby d2_53) rfl ((if0 _ _).trans (feq (fun q => c53_9 ((lw_eq _ _).1 q))).2) (by decide) (by decide) k) ?_
            show own_Go p e below G (s₁.setTop (mkF m 60 #[.val (.long x0), .second] []))
            refine own_st (fun t k => XS.aconstNull X0.here hx rfl (hb hby d2_60) k) ?_
            show own_Go p e below G (s₁.setTop (mkF m 61 #[.val (.long x0), .second] [.null]))
            rw [hG]
            exact own_retA X0 hx hlk hret rfl rfl (hb hby d2_61) ⟨congrArg some ((show (.null : Value) = own_sc x0 u0 u1 u2 u3 u4 by unfold own_sc; rw [if_neg c5_1, if_neg c17_3, if_neg c29_5, if_neg c41_7, if_neg c53_9]).trans hr), rfl, e0⟩ (by decide) (by decide)
theorem pn_rm0 : plainFor (⟨"com/example/pathweave/pathweave/SystemCallNumberedPinLaw", "law", "(JI)Z"⟩ : MethodName) = true := by decide +kernel
theorem ef_rm0 (m : MethodId) (x0 : Int64) (x1 : Int32) : entryFrame m #[(.long x0), (.int x1)] maxLocals = mkF m 0 #[.val (.long x0), .second, .val (.int x1), .unset, .unset, .unset, .unset, .unset, .unset] [] := by first | (simp [entryFrame, mkF, argsToLocals, Value.category, maxLocals]; done) | rfl
set_option maxRecDepth 65536 in
set_option maxHeartbeats 40000000 in
theorem rm0 (l : Launch) (Z : State) (a0 : Array Value) (hw : ∀ d ∈ tables_1, d.before a0 Z = true) (ws : List Jvm.Cond) (x0 : Int64) (x1 : Int32) (ca : Addr) (kc : ClassId) (u0 u1 u2 u3 u4 : Addr) (h0 : Heap) (n0 : Nat) (Z0 : n0 ≤ h0.size) (OL : Old Z n0 h0) (SC0 : Sta Z Z.heap "com/example/pathweave/pathweave/SystemCall" "CALLS" "[Lcom/example/pathweave/pathweave/SystemCall;" (.ref ca)) (VC : Arv Z Z.heap ca kc (.object "com/example/pathweave/pathweave/SystemCall") (5 : Int32) [(.ref u0), (.ref u1), (.ref u2), (.ref u3), (.ref u4)] .null) (F0 : Fld Z Z.heap u0 "com/example/pathweave/pathweave/SystemCall" "number" "J" (.long (56 : Int64))) (S0 : Sta Z Z.heap "com/example/pathweave/pathweave/SystemCall" "OPENAT" "Lcom/example/pathweave/pathweave/SystemCall;" (.ref u0)) (F1 : Fld Z Z.heap u1 "com/example/pathweave/pathweave/SystemCall" "number" "J" (.long (63 : Int64))) (S1 : Sta Z Z.heap "com/example/pathweave/pathweave/SystemCall" "READ" "Lcom/example/pathweave/pathweave/SystemCall;" (.ref u1)) (F2 : Fld Z Z.heap u2 "com/example/pathweave/pathweave/SystemCall" "number" "J" (.long (64 : Int64))) (S2 : Sta Z Z.heap "com/example/pathweave/pathweave/SystemCall" "WRITE" "Lcom/example/pathweave/pathweave/SystemCall;" (.ref u2)) (F3 : Fld Z Z.heap u3 "com/example/pathweave/pathweave/SystemCall" "number" "J" (.long (93 : Int64))) (S3 : Sta Z Z.heap "com/example/pathweave/pathweave/SystemCall" "EXIT" "Lcom/example/pathweave/pathweave/SystemCall;" (.ref u3)) (F4 : Fld Z Z.heap u4 "com/example/pathweave/pathweave/SystemCall" "number" "J" (.long (214 : Int64))) (S4 : Sta Z Z.heap "com/example/pathweave/pathweave/SystemCall" "BRK" "Lcom/example/pathweave/pathweave/SystemCall;" (.ref u4)) :
    own_Met l Z x code maxLocals ret ws room_1 #[(.long x0), (.int x1)] h0 (fun v h L => v = some (.int 1) ∧ Fr n0 L) := by
  refine own_body pn_rm0 ?_
  intro p e s m below meth c s₁ hx hby hml hown hnm hret hlk hZ X0 e0 G hG
  replace hml : c.maxLocals = 9 := hml
  replace hown : s.vm.findClass "com/example/pathweave/pathweave/SystemCallNumberedPinLaw" = some m.cls := hown
  rw [ef_rm0]
  have N0 := Fr.nil n0
  show own_Go p e below G (s₁.setTop (mkF m 0 #[.val (.long x0), .second, .val (.int x1), .unset, .unset, .unset, .unset, .unset, .unset] []))
  refine own_st (fun t k => XS.iconst X0.here hx rfl (hb hby at_0) k) ?_
  show own_Go p e below G (s₁.setTop (mkF m 1 #[.val (.long x0), .second, .val (.int x1), .unset, .unset, .unset, .unset, .unset, .unset] [(.int (5 : Int32))]))
  obtain ⟨T1, h1, k1, X1, e1, E1, A1, st1⟩ := newP X0 hx hZ (hw _ (List.mem_of_getElem? (i := 0) rfl)) e0 (g := (mkF m 1 #[.val (.long x0), .second, .val (.int x1), .unset, .unset, .unset, .unset, .unset, .unset] [(.int (5 : Int32))])) rfl (hb hby at_1) rfl (by decide) (cap := 5) (by decide) (by decide) (by decide) (by decide)
  obtain ⟨b1, gb1⟩ : ∃ z, z = h0.size := ⟨_, rfl⟩
  rw [← gb1] at A1 st1
  have g_b1 : n0 ≤ b1 := Nat.le_trans Z0 (Nat.le_of_eq gb1.symm)
  replace Z0 := Nat.le_trans Z0 E1.1
  replace OL := OL.ext E1
  have V_b1 : Arv Z h1 b1 k1 .long (5 : Int32) [(.long (0 : Int64)), (.long (0 : Int64)), (.long (0 : Int64)), (.long (0 : Int64)), (.long (0 : Int64))] (.long (0 : Int64)) := (Arv.new A1 (by decide)).pad (pad_rep [] (.long (0 : Int64)) 5)
  refine own_st st1 ?_
  show own_Go p e below G (T1.setTop (mkF m 3 #[.val (.long x0), .second, .val (.int x1), .unset, .unset, .unset, .unset, .unset, .unset] [(.ref b1)]))
  refine own_st (fun t k => XS.dup X1.here hx rfl (hb hby at_3) rfl rfl k) ?_
  show own_Go p e below G (T1.setTop (mkF m 4 #[.val (.long x0), .second, .val (.int x1), .unset, .unset, .unset, .unset, .unset, .unset] [(.ref b1), (.ref b1)]))
  refine own_st (fun t k => XS.iconst X1.here hx rfl (hb hby at_4) k) ?_
  show own_Go p e below G (T1.setTop (mkF m 5 #[.val (.long x0), .second, .val (.int x1), .unset, .unset, .unset, .unset, .unset, .unset] [(.int (0 : Int32)), (.ref b1), (.ref b1)]))
  refine own_st (fun t k => X1.ldc2Long hx hown (mvT hZ (hw _ (List.mem_of_getElem? (i := 1) rfl))) (g := (mkF m 5 #[.val (.long x0), .second, .val (.int x1), .unset, .unset, .unset, .unset, .unset, .unset] [(.int (0 : Int32)), (.ref b1), (.ref b1)])) rfl (hb hby at_5) t k) ?_
  show own_Go p e below G (T1.setTop (mkF m 8 #[.val (.long x0), .second, .val (.int x1), .unset, .unset, .unset, .unset, .unset, .unset] [(.long (56 : Int64)), (.int (0 : Int32)), (.ref b1), (.ref b1)]))
  obtain ⟨cl2, Ar2, qa2, Sa2, Na2, Ha2, Ga2⟩ := V_b1
  have hin2 : ¬ ((0 : Int32) < 0 ∨ cl2.slots.size ≤ ((0 : Int32)).toNatClampNeg) := inb_of Sa2 ⟨by decide, by decide⟩
  obtain ⟨T2, h2, X2, e2, W2, st2⟩ := stJ X1 hx hZ e1 Ar2 (j := (0 : Int32)) hin2 (g := (mkF m 8 #[.val (.long x0), .second, .val (.int x1), .unset, .unset, .unset, .unset, .unset, .unset] [(.long (56 : Int64)), (.int (0 : Int32)), (.ref b1), (.ref b1)])) rfl rfl (hb hby at_8)
  have V_b1 : Arv Z h2 b1 k1 .long (5 : Int32) [(.long (56 : Int64)), (.long (0 : Int64)), (.long (0 : Int64)), (.long (0 : Int64)), (.long (0 : Int64))] (.long (0 : Int64)) := Arv.set Ar2 qa2 Sa2 Na2 Ha2 Ga2 rfl W2 0 rfl (Nat.le_of_ble_eq_true rfl)
  replace OL := OL.wr W2 g_b1
  replace Z0 := Nat.le_trans Z0 (Keep.of_wr W2).1
  replace N0 := Fr.snoc X2 N0 g_b1
  refine own_st st2 ?_
  show own_Go p e below G (T2.setTop (mkF m 9 #[.val (.long x0), .second, .val (.int x1), .unset, .unset, .unset, .unset, .unset, .unset] [(.ref b1)]))
  refine own_st (fun t k => XS.dup X2.here hx rfl (hb hby at_9) rfl rfl k) ?_
  show own_Go p e below G (T2.setTop (mkF m 10 #[.val (.long x0), .second, .val (.int x1), .unset, .unset, .unset, .unset, .unset, .unset] [(.ref b1), (.ref b1)]))
  refine own_st (fun t k => XS.iconst X2.here hx rfl (hb hby at_10) k) ?_
  show own_Go p e below G (T2.setTop (mkF m 11 #[.val (.long x0), .second, .val (.int x1), .unset, .unset, .unset, .unset, .unset, .unset] [(.int (1 : Int32)), (.ref b1), (.ref b1)]))
  refine own_st (fun t k => X2.ldc2Long hx hown (mvT hZ (hw _ (List.mem_of_getElem? (i := 2) rfl))) (g := (mkF m 11 #[.val (.long x0), .second, .val (.int x1), .unset, .unset, .unset, .unset, .unset, .unset] [(.int (1 : Int32)), (.ref b1), (.ref b1)])) rfl (hb hby at_11) t k) ?_
  show own_Go p e below G (T2.setTop (mkF m 14 #[.val (.long x0), .second, .val (.int x1), .unset, .unset, .unset, .unset, .unset, .unset] [(.long (63 : Int64)), (.int (1 : Int32)), (.ref b1), (.ref b1)]))
  obtain ⟨cl3, Ar3, qa3, Sa3, Na3, Ha3, Ga3⟩ := V_b1
  have hin3 : ¬ ((1 : Int32) < 0 ∨ cl3.slots.size ≤ ((1 : Int32)).toNatClampNeg) := inb_of Sa3 ⟨by decide, by decide⟩
  obtain ⟨T3, h3, X3, e3, W3, st3⟩ := stJ X2 hx hZ e2 Ar3 (j := (1 : Int32)) hin3 (g := (mkF m 14 #[.val (.long x0), .second, .val (.int x1), .unset, .unset, .unset, .unset, .unset, .unset] [(.long (63 : Int64)), (.int (1 : Int32)), (.ref b1), (.ref b1)])) rfl rfl (hb hby at_14)
  have V_b1 : Arv Z h3 b1 k1 .long (5 : Int32) [(.long (56 : Int64)), (.long (63 : Int64)), (.long (0 : Int64)), (.long (0 : Int64)), (.long (0 : Int64))] (.long (0 : Int64)) := Arv.set Ar3 qa3 Sa3 Na3 Ha3 Ga3 rfl W3 1 rfl (Nat.le_of_ble_eq_true rfl)
  replace OL := OL.wr W3 g_b1
  replace Z0 := Nat.le_trans Z0 (Keep.of_wr W3).1
  replace N0 := Fr.snoc X3 N0 g_b1
  refine own_st st3 ?_
  show own_Go p e below G (T3.setTop (mkF m 15 #[.val (.long x0), .second, .val (.int x1), .unset, .unset, .unset, .unset, .unset, .unset] [(.ref b1)]))
  refine own_st (fun t k => XS.dup X3.here hx rfl (hb hby at_15) rfl rfl k) ?_
  show own_Go p e below G (T3.setTop (mkF m 16 #[.val (.long x0), .second, .val (.int x1), .unset, .unset, .unset, .unset, .unset, .unset] [(.ref b1), (.ref b1)]))
  refine own_st (fun t k => XS.iconst X3.here hx rfl (hb hby at_16) k) ?_
  show own_Go p e below G (T3.setTop (mkF m 17 #[.val (.long x0), .second, .val (.int x1), .unset, .unset, .unset, .unset, .unset, .unset] [(.int (2 : Int32)), (.ref b1), (.ref b1)]))
  refine own_st (fun t k => X3.ldc2Long hx hown (mvT hZ (hw _ (List.mem_of_getElem? (i := 3) rfl))) (g := (mkF m 17 #[.val (.long x0), .second, .val (.int x1), .unset, .unset, .unset, .unset, .unset, .unset] [(.int (2 : Int32)), (.ref b1), (.ref b1)])) rfl (hb hby at_17) t k) ?_
  show own_Go p e below G (T3.setTop (mkF m 20 #[.val (.long x0), .second, .val (.int x1), .unset, .unset, .unset, .unset, .unset, .unset] [(.long (64 : Int64)), (.int (2 : Int32)), (.ref b1), (.ref b1)]))
  obtain ⟨cl4, Ar4, qa4, Sa4, Na4, Ha4, Ga4⟩ := V_b1
  have hin4 : ¬ ((2 : Int32) < 0 ∨ cl4.slots.size ≤ ((2 : Int32)).toNatClampNeg) := inb_of Sa4 ⟨by decide, by decide⟩
  obtain ⟨T4, h4, X4, e4, W4, st4⟩ := stJ X3 hx hZ e3 Ar4 (j := (2 : Int32)) hin4 (g := (mkF m 20 #[.val (.long x0), .second, .val (.int x1), .unset, .unset, .unset, .unset, .unset, .unset] [(.long (64 : Int64)), (.int (2 : Int32)), (.ref b1), (.ref b1)])) rfl rfl (hb hby at_20)
  have V_b1 : Arv Z h4 b1 k1 .long (5 : Int32) [(.long (56 : Int64)), (.long (63 : Int64)), (.long (64 : Int64)), (.long (0 : Int64)), (.long (0 : Int64))] (.long (0 : Int64)) := Arv.set Ar4 qa4 Sa4 Na4 Ha4 Ga4 rfl W4 2 rfl (Nat.le_of_ble_eq_true rfl)
  replace OL := OL.wr W4 g_b1
  replace Z0 := Nat.le_trans Z0 (Keep.of_wr W4).1
  replace N0 := Fr.snoc X4 N0 g_b1
  refine own_st st4 ?_
  show own_Go p e below G (T4.setTop (mkF m 21 #[.val (.long x0), .second, .val (.int x1), .unset, .unset, .unset, .unset, .unset, .unset] [(.ref b1)]))
  refine own_st (fun t k => XS.dup X4.here hx rfl (hb hby at_21) rfl rfl k) ?_
  show own_Go p e below G (T4.setTop (mkF m 22 #[.val (.long x0), .second, .val (.int x1), .unset, .unset, .unset, .unset, .unset, .unset] [(.ref b1), (.ref b1)]))
  refine own_st (fun t k => XS.iconst X4.here hx rfl (hb hby at_22) k) ?_
  show own_Go p e below G (T4.setTop (mkF m 23 #[.val (.long x0), .second, .val (.int x1), .unset, .unset, .unset, .unset, .unset, .unset] [(.int (3 : Int32)), (.ref b1), (.ref b1)]))
  refine own_st (fun t k => X4.ldc2Long hx hown (mvT hZ (hw _ (List.mem_of_getElem? (i := 4) rfl))) (g := (mkF m 23 #[.val (.long x0), .second, .val (.int x1), .unset, .unset, .unset, .unset, .unset, .unset] [(.int (3 : Int32)), (.ref b1), (.ref b1)])) rfl (hb hby at_23) t k) ?_
  show own_Go p e below G (T4.setTop (mkF m 26 #[.val (.long x0), .second, .val (.int x1), .unset, .unset, .unset, .unset, .unset, .unset] [(.long (93 : Int64)), (.int (3 : Int32)), (.ref b1), (.ref b1)]))
  obtain ⟨cl5, Ar5, qa5, Sa5, Na5, Ha5, Ga5⟩ := V_b1
  have hin5 : ¬ ((3 : Int32) < 0 ∨ cl5.slots.size ≤ ((3 : Int32)).toNatClampNeg) := inb_of Sa5 ⟨by decide, by decide⟩
  obtain ⟨T5, h5, X5, e5, W5, st5⟩ := stJ X4 hx hZ e4 Ar5 (j := (3 : Int32)) hin5 (g := (mkF m 26 #[.val (.long x0), .second, .val (.int x1), .unset, .unset, .unset, .unset, .unset, .unset] [(.long (93 : Int64)), (.int (3 : Int32)), (.ref b1), (.ref b1)])) rfl rfl (hb hby at_26)
  have V_b1 : Arv Z h5 b1 k1 .long (5 : Int32) [(.long (56 : Int64)), (.long (63 : Int64)), (.long (64 : Int64)), (.long (93 : Int64)), (.long (0 : Int64))] (.long (0 : Int64)) := Arv.set Ar5 qa5 Sa5 Na5 Ha5 Ga5 rfl W5 3 rfl (Nat.le_of_ble_eq_true rfl)
  replace OL := OL.wr W5 g_b1
  replace Z0 := Nat.le_trans Z0 (Keep.of_wr W5).1
  replace N0 := Fr.snoc X5 N0 g_b1
  refine own_st st5 ?_
  show own_Go p e below G (T5.setTop (mkF m 27 #[.val (.long x0), .second, .val (.int x1), .unset, .unset, .unset, .unset, .unset, .unset] [(.ref b1)]))
  refine own_st (fun t k => XS.dup X5.here hx rfl (hb hby at_27) rfl rfl k) ?_
  show own_Go p e below G (T5.setTop (mkF m 28 #[.val (.long x0), .second, .val (.int x1), .unset, .unset, .unset, .unset, .unset, .unset] [(.ref b1), (.ref b1)]))
  refine own_st (fun t k => XS.iconst X5.here hx rfl (hb hby at_28) k) ?_
  show own_Go p e below G (T5.setTop (mkF m 29 #[.val (.long x0), .second, .val (.int x1), .unset, .unset, .unset, .unset, .unset, .unset] [(.int (4 : Int32)), (.ref b1), (.ref b1)]))
  refine own_st (fun t k => X5.ldc2Long hx hown (mvT hZ (hw _ (List.mem_of_getElem? (i := 5) rfl))) (g := (mkF m 29 #[.val (.long x0), .second, .val (.int x1), .unset, .unset, .unset, .unset, .unset, .unset] [(.int (4 : Int32)), (.ref b1), (.ref b1)])) rfl (hb hby at_29) t k) ?_
  show own_Go p e below G (T5.setTop (mkF m 32 #[.val (.long x0), .second, .val (.int x1), .unset, .unset, .unset, .unset, .unset, .unset] [(.long (214 : Int64)), (.int (4 : Int32)), (.ref b1), (.ref b1)]))
  obtain ⟨cl6, Ar6, qa6, Sa6, Na6, Ha6, Ga6⟩ := V_b1
  have hin6 : ¬ ((4 : Int32) < 0 ∨ cl6.slots.size ≤ ((4 : Int32)).toNatClampNeg) := inb_of Sa6 ⟨by decide, by decide⟩
  obtain ⟨T6, h6, X6, e6, W6, st6⟩ := stJ X5 hx hZ e5 Ar6 (j := (4 : Int32)) hin6 (g := (mkF m 32 #[.val (.long x0), .second, .val (.int x1), .unset, .unset, .unset, .unset, .unset, .unset] [(.long (214 : Int64)), (.int (4 : Int32)), (.ref b1), (.ref b1)])) rfl rfl (hb hby at_32)
  have V_b1 : Arv Z h6 b1 k1 .long (5 : Int32) [(.long (56 : Int64)), (.long (63 : Int64)), (.long (64 : Int64)), (.long (93 : Int64)), (.long (214 : Int64))] (.long (0 : Int64)) := Arv.set Ar6 qa6 Sa6 Na6 Ha6 Ga6 rfl W6 4 rfl (Nat.le_of_ble_eq_true rfl)
  replace OL := OL.wr W6 g_b1
  replace Z0 := Nat.le_trans Z0 (Keep.of_wr W6).1
  replace N0 := Fr.snoc X6 N0 g_b1
  refine own_st st6 ?_
  show own_Go p e below G (T6.setTop (mkF m 33 #[.val (.long x0), .second, .val (.int x1), .unset, .unset, .unset, .unset, .unset, .unset] [(.ref b1)]))
  refine own_st (fun t k => XS.astoreN X6.here hx rfl (hb hby at_33) rfl rfl (l' := #[.val (.long x0), .second, .val (.int x1), .val (.ref b1), .unset, .unset, .unset, .unset, .unset]) rfl k) ?_
  show own_Go p e below G (T6.setTop (mkF m 34 #[.val (.long x0), .second, .val (.int x1), .val (.ref b1), .unset, .unset, .unset, .unset, .unset] []))
  refine own_st (fun t k => XS.iloadN X6.here hx rfl (hb hby at_34) rfl  k) ?_
  show own_Go p e below G (T6.setTop (mkF m 35 #[.val (.long x0), .second, .val (.int x1), .val (.ref b1), .unset, .unset, .unset, .unset, .unset] [(.int x1)]))
  refine own_st (fun t k => XS.bipush X6.here hx rfl (hb hby at_35) k) ?_
  show own_Go p e below G (T6.setTop (mkF m 37 #[.val (.long x0), .second, .val (.int x1), .val (.ref b1), .unset, .unset, .unset, .unset, .unset] [(.int (15 : Int32)), (.int x1)]))
  refine own_st (fun t k => XS.iand X6.here hx rfl (hb hby at_37) rfl k) ?_
  show own_Go p e below G (T6.setTop (mkF m 38 #[.val (.long x0), .second, .val (.int x1), .val (.ref b1), .unset, .unset, .unset, .unset, .unset] [(.int (x1 &&& (15 : Int32)))]))
  refine own_st (fun t k => XS.istore X6.here hx rfl (hb hby at_38) rfl (l' := #[.val (.long x0), .second, .val (.int x1), .val (.ref b1), .val (.int (x1 &&& (15 : Int32))), .unset, .unset, .unset, .unset]) rfl k) ?_
  show own_Go p e below G (T6.setTop (mkF m 40 #[.val (.long x0), .second, .val (.int x1), .val (.ref b1), .val (.int (x1 &&& (15 : Int32))), .unset, .unset, .unset, .unset] []))
  refine own_st (fun t k => XS.iloadN X6.here hx rfl (hb hby at_40) rfl  k) ?_
  show own_Go p e below G (T6.setTop (mkF m 41 #[.val (.long x0), .second, .val (.int x1), .val (.ref b1), .val (.int (x1 &&& (15 : Int32))), .unset, .unset, .unset, .unset] [(.int x1)]))
  refine own_st (fun t k => XS.iconst X6.here hx rfl (hb hby at_41) k) ?_
  show own_Go p e below G (T6.setTop (mkF m 42 #[.val (.long x0), .second, .val (.int x1), .val (.ref b1), .val (.int (x1 &&& (15 : Int32))), .unset, .unset, .unset, .unset] [(.int (4 : Int32)), (.int x1)]))
  refine own_st (fun t k => XS.iushr X6.here hx rfl (hb hby at_42) rfl k) ?_
  show own_Go p e below G (T6.setTop (mkF m 43 #[.val (.long x0), .second, .val (.int x1), .val (.ref b1), .val (.int (x1 &&& (15 : Int32))), .unset, .unset, .unset, .unset] [(.int ((x1.toUInt32 >>> ((4 : Int32) &&& 31).toUInt32).toInt32))]))
  refine own_st (fun t k => XS.iconst X6.here hx rfl (hb hby at_43) k) ?_
  show own_Go p e below G (T6.setTop (mkF m 44 #[.val (.long x0), .second, .val (.int x1), .val (.ref b1), .val (.int (x1 &&& (15 : Int32))), .unset, .unset, .unset, .unset] [(.int (5 : Int32)), (.int ((x1.toUInt32 >>> ((4 : Int32) &&& 31).toUInt32).toInt32))]))
  refine own_st (fun t k => iremM X6 hx rfl (hb hby at_44) rfl (by decide) k) ?_
  show own_Go p e below G (T6.setTop (mkF m 45 #[.val (.long x0), .second, .val (.int x1), .val (.ref b1), .val (.int (x1 &&& (15 : Int32))), .unset, .unset, .unset, .unset] [(.int (((x1.toUInt32 >>> ((4 : Int32) &&& 31).toUInt32).toInt32) % (5 : Int32)))]))
  refine own_st (fun t k => XS.istore X6.here hx rfl (hb hby at_45) rfl (l' := #[.val (.long x0), .second, .val (.int x1), .val (.ref b1), .val (.int (x1 &&& (15 : Int32))), .val (.int (((x1.toUInt32 >>> ((4 : Int32) &&& 31).toUInt32).toInt32) % (5 : Int32))), .unset, .unset, .unset]) rfl k) ?_
  show own_Go p e below G (T6.setTop (mkF m 47 #[.val (.long x0), .second, .val (.int x1), .val (.ref b1), .val (.int (x1 &&& (15 : Int32))), .val (.int (((x1.toUInt32 >>> ((4 : Int32) &&& 31).toUInt32).toInt32) % (5 : Int32))), .unset, .unset, .unset] []))
  have hidx := own_idx x1
  generalize (((x1.toUInt32 >>> ((4 : Int32) &&& 31).toUInt32).toInt32) % (5 : Int32)) = j0 at hidx ⊢
  generalize (x1 &&& (15 : Int32)) = k0
  refine own_st (fun t k => XS.iload X6.here hx rfl (hb hby at_47) rfl  k) ?_
  show own_Go p e below G (T6.setTop (mkF m 49 #[.val (.long x0), .second, .val (.int x1), .val (.ref b1), .val (.int k0), .val (.int j0), .unset, .unset, .unset] [(.int k0)]))
  refine own_st (fun t k => XS.iconst X6.here hx rfl (hb hby at_49) k) ?_
  show own_Go p e below G (T6.setTop (mkF m 50 #[.val (.long x0), .second, .val (.int x1), .val (.ref b1), .val (.int k0), .val (.int j0), .unset, .unset, .unset] [(.int (4 : Int32)), (.int k0)]))
  have J122 : ∀ (y122 : Int64), own_Go p e below G (T6.setTop (mkF m 122 #[.val (.long x0), .second, .val (.int x1), .val (.ref b1), .val (.int k0), .val (.int j0), .val (.long y122), .second, .unset] [])) := by
    intro y122
    by_cases hy0 : y122 = 56
    · skip
      have hr : own_sc y122 u0 u1 u2 u3 u4 = .ref u0 := by unfold own_sc; rw [if_pos hy0]
      refine own_st (fun t k => XS.lload X6.here hx rfl (hb hby at_122) rfl  k) ?_
      show own_Go p e below G (T6.setTop (mkF m 124 #[.val (.long x0), .second, .val (.int x1), .val (.ref b1), .val (.int k0), .val (.int j0), .val (.long y122), .second, .unset] [(.long y122)]))
      obtain ⟨v7, T7, L7, X7, Q7, st7⟩ := own_callS X6 hx hZ (y := (⟨"com/example/pathweave/pathweave/SystemCall", "numbered", "(J)Lcom/example/pathweave/pathweave/SystemCall;"⟩ : MethodName)) hown (hw _ (List.mem_of_getElem? (i := 6) rfl)) (hw _ (List.mem_of_getElem? (i := 7) rfl)) (hw _ (List.mem_of_getElem? (i := 8) rfl)) (hw _ (List.mem_of_getElem? (i := 9) rfl)) (by decide) (W := 0) (rm1 l Z a0 hw y122 ca kc u0 u1 u2 u3 u4 (.ref u0) h6 hr (SC0.ext OL.2) (VC.ext OL.2) (F0.ext OL.2) (F1.ext OL.2) (F2.ext OL.2) (F3.ext OL.2) (F4.ext OL.2)) (by decide) (by decide) e6 (g := (mkF m 124 #[.val (.long x0), .second, .val (.int x1), .val (.ref b1), .val (.int k0), .val (.int j0), .val (.long y122), .second, .unset] [(.long y122)])) rfl (by rw [hml]; rfl) (argsL := [(.long y122)]) (rest := []) own_pd0 rfl rfl (by show 2 * 0 + _ ≤ _; exact Nat.le_of_eq rfl) (hb hby at_124) rfl (by decide) (by decide)
      obtain ⟨rfl, rfl, e7⟩ := Q7
      simp only [List.append_nil, Nat.add_zero] at X7
      refine own_st st7 ?_
      show own_Go p e below G (T7.setTop (mkF m 127 #[.val (.long x0), .second, .val (.int x1), .val (.ref b1), .val (.int k0), .val (.int j0), .val (.long y122), .second, .unset] [(.ref u0)]))
      refine own_st (fun t k => XS.astore X7.here hx rfl (hb hby at_127) rfl rfl (l' := #[.val (.long x0), .second, .val (.int x1), .val (.ref b1), .val (.int k0), .val (.int j0), .val (.long y122), .second, .val (.ref u0)]) rfl k) ?_
      show own_Go p e below G (T7.setTop (mkF m 129 #[.val (.long x0), .second, .val (.int x1), .val (.ref b1), .val (.int k0), .val (.int j0), .val (.long y122), .second, .val (.ref u0)] []))
      refine own_st (fun t k => XS.aload X7.here hx rfl (hb hby at_129) rfl rfl  k) ?_
      show own_Go p e below G (T7.setTop (mkF m 131 #[.val (.long x0), .second, .val (.int x1), .val (.ref b1), .val (.int k0), .val (.int j0), .val (.long y122), .second, .val (.ref u0)] [(.ref u0)]))
      refine own_st (fun t k => XS.lload X7.here hx rfl (hb hby at_131) rfl  k) ?_
      show own_Go p e below G (T7.setTop (mkF m 133 #[.val (.long x0), .second, .val (.int x1), .val (.ref b1), .val (.int k0), .val (.int j0), .val (.long y122), .second, .val (.ref u0)] [(.long y122), (.ref u0)]))
      obtain ⟨v8, T8, L8, X8, Q8, st8⟩ := own_callS X7 hx hZ (y := (⟨"com/example/pathweave/pathweave/SystemCallNumberedPinLaw", "expected", "(J)Lcom/example/pathweave/pathweave/SystemCall;"⟩ : MethodName)) hown (hw _ (List.mem_of_getElem? (i := 15) rfl)) (hw _ (List.mem_of_getElem? (i := 16) rfl)) (hw _ (List.mem_of_getElem? (i := 17) rfl)) (hw _ (List.mem_of_getElem? (i := 18) rfl)) (by decide) (W := 1) (rm2 l Z a0 hw y122 u0 u1 u2 u3 u4 (.ref u0) h6 hr (S0.ext OL.2) (S1.ext OL.2) (S2.ext OL.2) (S3.ext OL.2) (S4.ext OL.2)) (by decide) (by decide) e7 (g := (mkF m 133 #[.val (.long x0), .second, .val (.int x1), .val (.ref b1), .val (.int k0), .val (.int j0), .val (.long y122), .second, .val (.ref u0)] [(.long y122), (.ref u0)])) rfl (by rw [hml]; rfl) (argsL := [(.long y122)]) (rest := [(.ref u0)]) own_pd0 rfl rfl (by show 2 * 0 + _ ≤ _; exact Nat.le_of_eq rfl) (hb hby at_133) rfl (by decide) (by decide)
      obtain ⟨rfl, rfl, e8⟩ := Q8
      simp only [List.append_nil, Nat.add_zero] at X8
      refine own_st st8 ?_
      show own_Go p e below G (T8.setTop (mkF m 136 #[.val (.long x0), .second, .val (.int x1), .val (.ref b1), .val (.int k0), .val (.int j0), .val (.long y122), .second, .val (.ref u0)] [(.ref u0), (.ref u0)]))
      refine own_st (fun t k => Jvm.RoadKit.acmp (g := (mkF m 136 #[.val (.long x0), .second, .val (.int x1), .val (.ref b1), .val (.int k0), .val (.int j0), .val (.long y122), .second, .val (.ref u0)] [(.ref u0), (.ref u0)])) X8 hx rfl rfl rfl (pc0 := 136) (pc' := 139) (same := true) rfl (hb hby at_136) rfl (decide_eq_true rfl) (by decide) (by decide) k) ?_
      show own_Go p e below G (T8.setTop (mkF m 139 #[.val (.long x0), .second, .val (.int x1), .val (.ref b1), .val (.int k0), .val (.int j0), .val (.long y122), .second, .val (.ref u0)] []))
      refine own_st (fun t k => XS.iconst X8.here hx rfl (hb hby at_139) k) ?_
      show own_Go p e below G (T8.setTop (mkF m 140 #[.val (.long x0), .second, .val (.int x1), .val (.ref b1), .val (.int k0), .val (.int j0), .val (.long y122), .second, .val (.ref u0)] [(.int (1 : Int32))]))
      refine own_st (fun t k => XS.goto X8.here hx rfl (pc0 := 140) (pc' := 144) rfl (hb hby at_140) (by decide) (by decide) k) ?_
      show own_Go p e below G (T8.setTop (mkF m 144 #[.val (.long x0), .second, .val (.int x1), .val (.ref b1), .val (.int k0), .val (.int j0), .val (.long y122), .second, .val (.ref u0)] [(.int (1 : Int32))]))
      rw [hG]
      exact own_retZ X8 hx hlk (t := .boolean) hret (by simp) (hb hby at_144) ⟨rfl, N0⟩ (by decide) (by decide)
    · skip
      by_cases hy1 : y122 = 63
      · skip
        have hr : own_sc y122 u0 u1 u2 u3 u4 = .ref u1 := by unfold own_sc; rw [if_neg hy0, if_pos hy1]
        refine own_st (fun t k => XS.lload X6.here hx rfl (hb hby at_122) rfl  k) ?_
        show own_Go p e below G (T6.setTop (mkF m 124 #[.val (.long x0), .second, .val (.int x1), .val (.ref b1), .val (.int k0), .val (.int j0), .val (.long y122), .second, .unset] [(.long y122)]))
        obtain ⟨v9, T9, L9, X9, Q9, st9⟩ := own_callS X6 hx hZ (y := (⟨"com/example/pathweave/pathweave/SystemCall", "numbered", "(J)Lcom/example/pathweave/pathweave/SystemCall;"⟩ : MethodName)) hown (hw _ (List.mem_of_getElem? (i := 6) rfl)) (hw _ (List.mem_of_getElem? (i := 7) rfl)) (hw _ (List.mem_of_getElem? (i := 8) rfl)) (hw _ (List.mem_of_getElem? (i := 9) rfl)) (by decide) (W := 0) (rm1 l Z a0 hw y122 ca kc u0 u1 u2 u3 u4 (.ref u1) h6 hr (SC0.ext OL.2) (VC.ext OL.2) (F0.ext OL.2) (F1.ext OL.2) (F2.ext OL.2) (F3.ext OL.2) (F4.ext OL.2)) (by decide) (by decide) e6 (g := (mkF m 124 #[.val (.long x0), .second, .val (.int x1), .val (.ref b1), .val (.int k0), .val (.int j0), .val (.long y122), .second, .unset] [(.long y122)])) rfl (by rw [hml]; rfl) (argsL := [(.long y122)]) (rest := []) own_pd0 rfl rfl (by show 2 * 0 + _ ≤ _; exact Nat.le_of_eq rfl) (hb hby at_124) rfl (by decide) (by decide)
        obtain ⟨rfl, rfl, e9⟩ := Q9
        simp only [List.append_nil, Nat.add_zero] at X9
        refine own_st st9 ?_
        show own_Go p e below G (T9.setTop (mkF m 127 #[.val (.long x0), .second, .val (.int x1), .val (.ref b1), .val (.int k0), .val (.int j0), .val (.long y122), .second, .unset] [(.ref u1)]))
        refine own_st (fun t k => XS.astore X9.here hx rfl (hb hby at_127) rfl rfl (l' := #[.val (.long x0), .second, .val (.int x1), .val (.ref b1), .val (.int k0), .val (.int j0), .val (.long y122), .second, .val (.ref u1)]) rfl k) ?_
        show own_Go p e below G (T9.setTop (mkF m 129 #[.val (.long x0), .second, .val (.int x1), .val (.ref b1), .val (.int k0), .val (.int j0), .val (.long y122), .second, .val (.ref u1)] []))
        refine own_st (fun t k => XS.aload X9.here hx rfl (hb hby at_129) rfl rfl  k) ?_
        show own_Go p e below G (T9.setTop (mkF m 131 #[.val (.long x0), .second, .val (.int x1), .val (.ref b1), .val (.int k0), .val (.int j0), .val (.long y122), .second, .val (.ref u1)] [(.ref u1)]))
        refine own_st (fun t k => XS.lload X9.here hx rfl (hb hby at_131) rfl  k) ?_
        show own_Go p e below G (T9.setTop (mkF m 133 #[.val (.long x0), .second, .val (.int x1), .val (.ref b1), .val (.int k0), .val (.int j0), .val (.long y122), .second, .val (.ref u1)] [(.long y122), (.ref u1)]))
        obtain ⟨v10, T10, L10, X10, Q10, st10⟩ := own_callS X9 hx hZ (y := (⟨"com/example/pathweave/pathweave/SystemCallNumberedPinLaw", "expected", "(J)Lcom/example/pathweave/pathweave/SystemCall;"⟩ : MethodName)) hown (hw _ (List.mem_of_getElem? (i := 15) rfl)) (hw _ (List.mem_of_getElem? (i := 16) rfl)) (hw _ (List.mem_of_getElem? (i := 17) rfl)) (hw _ (List.mem_of_getElem? (i := 18) rfl)) (by decide) (W := 1) (rm2 l Z a0 hw y122 u0 u1 u2 u3 u4 (.ref u1) h6 hr (S0.ext OL.2) (S1.ext OL.2) (S2.ext OL.2) (S3.ext OL.2) (S4.ext OL.2)) (by decide) (by decide) e9 (g := (mkF m 133 #[.val (.long x0), .second, .val (.int x1), .val (.ref b1), .val (.int k0), .val (.int j0), .val (.long y122), .second, .val (.ref u1)] [(.long y122), (.ref u1)])) rfl (by rw [hml]; rfl) (argsL := [(.long y122)]) (rest := [(.ref u1)]) own_pd0 rfl rfl (by show 2 * 0 + _ ≤ _; exact Nat.le_of_eq rfl) (hb hby at_133) rfl (by decide) (by decide)
        obtain ⟨rfl, rfl, e10⟩ := Q10
        simp only [List.append_nil, Nat.add_zero] at X10
        refine own_st st10 ?_
        show own_Go p e below G (T10.setTop (mkF m 136 #[.val (.long x0), .second, .val (.int x1), .val (.ref b1), .val (.int k0), .val (.int j0), .val (.long y122), .second, .val (.ref u1)] [(.ref u1), (.ref u1)]))
        refine own_st (fun t k => Jvm.RoadKit.acmp (g := (mkF m 136 #[.val (.long x0), .second, .val (.int x1), .val (.ref b1), .val (.int k0), .val (.int j0), .val (.long y122), .second, .val (.ref u1)] [(.ref u1), (.ref u1)])) X10 hx rfl rfl rfl (pc0 := 136) (pc' := 139) (same := true) rfl (hb hby at_136) rfl (decide_eq_true rfl) (by decide) (by decide) k) ?_
        show own_Go p e below G (T10.setTop (mkF m 139 #[.val (.long x0), .second, .val (.int x1), .val (.ref b1), .val (.int k0), .val (.int j0), .val (.long y122), .second, .val (.ref u1)] []))
        refine own_st (fun t k => XS.iconst X10.here hx rfl (hb hby at_139) k) ?_
        show own_Go p e below G (T10.setTop (mkF m 140 #[.val (.long x0), .second, .val (.int x1), .val (.ref b1), .val (.int k0), .val (.int j0), .val (.long y122), .second, .val (.ref u1)] [(.int (1 : Int32))]))
        refine own_st (fun t k => XS.goto X10.here hx rfl (pc0 := 140) (pc' := 144) rfl (hb hby at_140) (by decide) (by decide) k) ?_
        show own_Go p e below G (T10.setTop (mkF m 144 #[.val (.long x0), .second, .val (.int x1), .val (.ref b1), .val (.int k0), .val (.int j0), .val (.long y122), .second, .val (.ref u1)] [(.int (1 : Int32))]))
        rw [hG]
        exact own_retZ X10 hx hlk (t := .boolean) hret (by simp) (hb hby at_144) ⟨rfl, N0⟩ (by decide) (by decide)
      · skip
        by_cases hy2 : y122 = 64
        · skip
          have hr : own_sc y122 u0 u1 u2 u3 u4 = .ref u2 := by unfold own_sc; rw [if_neg hy0, if_neg hy1, if_pos hy2]
          refine own_st (fun t k => XS.lload X6.here hx rfl (hb hby at_122) rfl  k) ?_
          show own_Go p e below G (T6.setTop (mkF m 124 #[.val (.long x0), .second, .val (.int x1), .val (.ref b1), .val (.int k0), .val (.int j0), .val (.long y122), .second, .unset] [(.long y122)]))
          obtain ⟨v11, T11, L11, X11, Q11, st11⟩ := own_callS X6 hx hZ (y := (⟨"com/example/pathweave/pathweave/SystemCall", "numbered", "(J)Lcom/example/pathweave/pathweave/SystemCall;"⟩ : MethodName)) hown (hw _ (List.mem_of_getElem? (i := 6) rfl)) (hw _ (List.mem_of_getElem? (i := 7) rfl)) (hw _ (List.mem_of_getElem? (i := 8) rfl)) (hw _ (List.mem_of_getElem? (i := 9) rfl)) (by decide) (W := 0) (rm1 l Z a0 hw y122 ca kc u0 u1 u2 u3 u4 (.ref u2) h6 hr (SC0.ext OL.2) (VC.ext OL.2) (F0.ext OL.2) (F1.ext OL.2) (F2.ext OL.2) (F3.ext OL.2) (F4.ext OL.2)) (by decide) (by decide) e6 (g := (mkF m 124 #[.val (.long x0), .second, .val (.int x1), .val (.ref b1), .val (.int k0), .val (.int j0), .val (.long y122), .second, .unset] [(.long y122)])) rfl (by rw [hml]; rfl) (argsL := [(.long y122)]) (rest := []) own_pd0 rfl rfl (by show 2 * 0 + _ ≤ _; exact Nat.le_of_eq rfl) (hb hby at_124) rfl (by decide) (by decide)
          obtain ⟨rfl, rfl, e11⟩ := Q11
          simp only [List.append_nil, Nat.add_zero] at X11
          refine own_st st11 ?_
          show own_Go p e below G (T11.setTop (mkF m 127 #[.val (.long x0), .second, .val (.int x1), .val (.ref b1), .val (.int k0), .val (.int j0), .val (.long y122), .second, .unset] [(.ref u2)]))
          refine own_st (fun t k => XS.astore X11.here hx rfl (hb hby at_127) rfl rfl (l' := #[.val (.long x0), .second, .val (.int x1), .val (.ref b1), .val (.int k0), .val (.int j0), .val (.long y122), .second, .val (.ref u2)]) rfl k) ?_
          show own_Go p e below G (T11.setTop (mkF m 129 #[.val (.long x0), .second, .val (.int x1), .val (.ref b1), .val (.int k0), .val (.int j0), .val (.long y122), .second, .val (.ref u2)] []))
          refine own_st (fun t k => XS.aload X11.here hx rfl (hb hby at_129) rfl rfl  k) ?_
          show own_Go p e below G (T11.setTop (mkF m 131 #[.val (.long x0), .second, .val (.int x1), .val (.ref b1), .val (.int k0), .val (.int j0), .val (.long y122), .second, .val (.ref u2)] [(.ref u2)]))
          refine own_st (fun t k => XS.lload X11.here hx rfl (hb hby at_131) rfl  k) ?_
          show own_Go p e below G (T11.setTop (mkF m 133 #[.val (.long x0), .second, .val (.int x1), .val (.ref b1), .val (.int k0), .val (.int j0), .val (.long y122), .second, .val (.ref u2)] [(.long y122), (.ref u2)]))
          obtain ⟨v12, T12, L12, X12, Q12, st12⟩ := own_callS X11 hx hZ (y := (⟨"com/example/pathweave/pathweave/SystemCallNumberedPinLaw", "expected", "(J)Lcom/example/pathweave/pathweave/SystemCall;"⟩ : MethodName)) hown (hw _ (List.mem_of_getElem? (i := 15) rfl)) (hw _ (List.mem_of_getElem? (i := 16) rfl)) (hw _ (List.mem_of_getElem? (i := 17) rfl)) (hw _ (List.mem_of_getElem? (i := 18) rfl)) (by decide) (W := 1) (rm2 l Z a0 hw y122 u0 u1 u2 u3 u4 (.ref u2) h6 hr (S0.ext OL.2) (S1.ext OL.2) (S2.ext OL.2) (S3.ext OL.2) (S4.ext OL.2)) (by decide) (by decide) e11 (g := (mkF m 133 #[.val (.long x0), .second, .val (.int x1), .val (.ref b1), .val (.int k0), .val (.int j0), .val (.long y122), .second, .val (.ref u2)] [(.long y122), (.ref u2)])) rfl (by rw [hml]; rfl) (argsL := [(.long y122)]) (rest := [(.ref u2)]) own_pd0 rfl rfl (by show 2 * 0 + _ ≤ _; exact Nat.le_of_eq rfl) (hb hby at_133) rfl (by decide) (by decide)
          obtain ⟨rfl, rfl, e12⟩ := Q12
          simp only [List.append_nil, Nat.add_zero] at X12
          refine own_st st12 ?_
          show own_Go p e below G (T12.setTop (mkF m 136 #[.val (.long x0), .second, .val (.int x1), .val (.ref b1), .val (.int k0), .val (.int j0), .val (.long y122), .second, .val (.ref u2)] [(.ref u2), (.ref u2)]))
          refine own_st (fun t k => Jvm.RoadKit.acmp (g := (mkF m 136 #[.val (.long x0), .second, .val (.int x1), .val (.ref b1), .val (.int k0), .val (.int j0), .val (.long y122), .second, .val (.ref u2)] [(.ref u2), (.ref u2)])) X12 hx rfl rfl rfl (pc0 := 136) (pc' := 139) (same := true) rfl (hb hby at_136) rfl (decide_eq_true rfl) (by decide) (by decide) k) ?_
          show own_Go p e below G (T12.setTop (mkF m 139 #[.val (.long x0), .second, .val (.int x1), .val (.ref b1), .val (.int k0), .val (.int j0), .val (.long y122), .second, .val (.ref u2)] []))
          refine own_st (fun t k => XS.iconst X12.here hx rfl (hb hby at_139) k) ?_
          show own_Go p e below G (T12.setTop (mkF m 140 #[.val (.long x0), .second, .val (.int x1), .val (.ref b1), .val (.int k0), .val (.int j0), .val (.long y122), .second, .val (.ref u2)] [(.int (1 : Int32))]))
          refine own_st (fun t k => XS.goto X12.here hx rfl (pc0 := 140) (pc' := 144) rfl (hb hby at_140) (by decide) (by decide) k) ?_
          show own_Go p e below G (T12.setTop (mkF m 144 #[.val (.long x0), .second, .val (.int x1), .val (.ref b1), .val (.int k0), .val (.int j0), .val (.long y122), .second, .val (.ref u2)] [(.int (1 : Int32))]))
          rw [hG]
          exact own_retZ X12 hx hlk (t := .boolean) hret (by simp) (hb hby at_144) ⟨rfl, N0⟩ (by decide) (by decide)
        · skip
          by_cases hy3 : y122 = 93
          · skip
            have hr : own_sc y122 u0 u1 u2 u3 u4 = .ref u3 := by unfold own_sc; rw [if_neg hy0, if_neg hy1, if_neg hy2, if_pos hy3]
            refine own_st (fun t k => XS.lload X6.here hx rfl (hb hby at_122) rfl  k) ?_
            show own_Go p e below G (T6.setTop (mkF m 124 #[.val (.long x0), .second, .val (.int x1), .val (.ref b1), .val (.int k0), .val (.int j0), .val (.long y122), .second, .unset] [(.long y122)]))
            obtain ⟨v13, T13, L13, X13, Q13, st13⟩ := own_callS X6 hx hZ (y := (⟨"com/example/pathweave/pathweave/SystemCall", "numbered", "(J)Lcom/example/pathweave/pathweave/SystemCall;"⟩ : MethodName)) hown (hw _ (List.mem_of_getElem? (i := 6) rfl)) (hw _ (List.mem_of_getElem? (i := 7) rfl)) (hw _ (List.mem_of_getElem? (i := 8) rfl)) (hw _ (List.mem_of_getElem? (i := 9) rfl)) (by decide) (W := 0) (rm1 l Z a0 hw y122 ca kc u0 u1 u2 u3 u4 (.ref u3) h6 hr (SC0.ext OL.2) (VC.ext OL.2) (F0.ext OL.2) (F1.ext OL.2) (F2.ext OL.2) (F3.ext OL.2) (F4.ext OL.2)) (by decide) (by decide) e6 (g := (mkF m 124 #[.val (.long x0), .second, .val (.int x1), .val (.ref b1), .val (.int k0), .val (.int j0), .val (.long y122), .second, .unset] [(.long y122)])) rfl (by rw [hml]; rfl) (argsL := [(.long y122)]) (rest := []) own_pd0 rfl rfl (by show 2 * 0 + _ ≤ _; exact Nat.le_of_eq rfl) (hb hby at_124) rfl (by decide) (by decide)
            obtain ⟨rfl, rfl, e13⟩ := Q13
            simp only [List.append_nil, Nat.add_zero] at X13
            refine own_st st13 ?_
            show own_Go p e below G (T13.setTop (mkF m 127 #[.val (.long x0), .second, .val (.int x1), .val (.ref b1), .val (.int k0), .val (.int j0), .val (.long y122), .second, .unset] [(.ref u3)]))
            refine own_st (fun t k => XS.astore X13.here hx rfl (hb hby at_127) rfl rfl (l' := #[.val (.long x0), .second, .val (.int x1), .val (.ref b1), .val (.int k0), .val (.int j0), .val (.long y122), .second, .val (.ref u3)]) rfl k) ?_
            show own_Go p e below G (T13.setTop (mkF m 129 #[.val (.long x0), .second, .val (.int x1), .val (.ref b1), .val (.int k0), .val (.int j0), .val (.long y122), .second, .val (.ref u3)] []))
            refine own_st (fun t k => XS.aload X13.here hx rfl (hb hby at_129) rfl rfl  k) ?_
            show own_Go p e below G (T13.setTop (mkF m 131 #[.val (.long x0), .second, .val (.int x1), .val (.ref b1), .val (.int k0), .val (.int j0), .val (.long y122), .second, .val (.ref u3)] [(.ref u3)]))
            refine own_st (fun t k => XS.lload X13.here hx rfl (hb hby at_131) rfl  k) ?_
            show own_Go p e below G (T13.setTop (mkF m 133 #[.val (.long x0), .second, .val (.int x1), .val (.ref b1), .val (.int k0), .val (.int j0), .val (.long y122), .second, .val (.ref u3)] [(.long y122), (.ref u3)]))
            obtain ⟨v14, T14, L14, X14, Q14, st14⟩ := own_callS X13 hx hZ (y := (⟨"com/example/pathweave/pathweave/SystemCallNumberedPinLaw", "expected", "(J)Lcom/example/pathweave/pathweave/SystemCall;"⟩ : MethodName)) hown (hw _ (List.mem_of_getElem? (i := 15) rfl)) (hw _ (List.mem_of_getElem? (i := 16) rfl)) (hw _ (List.mem_of_getElem? (i := 17) rfl)) (hw _ (List.mem_of_getElem? (i := 18) rfl)) (by decide) (W := 1) (rm2 l Z a0 hw y122 u0 u1 u2 u3 u4 (.ref u3) h6 hr (S0.ext OL.2) (S1.ext OL.2) (S2.ext OL.2) (S3.ext OL.2) (S4.ext OL.2)) (by decide) (by decide) e13 (g := (mkF m 133 #[.val (.long x0), .second, .val (.int x1), .val (.ref b1), .val (.int k0), .val (.int j0), .val (.long y122), .second, .val (.ref u3)] [(.long y122), (.ref u3)])) rfl (by rw [hml]; rfl) (argsL := [(.long y122)]) (rest := [(.ref u3)]) own_pd0 rfl rfl (by show 2 * 0 + _ ≤ _; exact Nat.le_of_eq rfl) (hb hby at_133) rfl (by decide) (by decide)
            obtain ⟨rfl, rfl, e14⟩ := Q14
            simp only [List.append_nil, Nat.add_zero] at X14
            refine own_st st14 ?_
            show own_Go p e below G (T14.setTop (mkF m 136 #[.val (.long x0), .second, .val (.int x1), .val (.ref b1), .val (.int k0), .val (.int j0), .val (.long y122), .second, .val (.ref u3)] [(.ref u3), (.ref u3)]))
            refine own_st (fun t k => Jvm.RoadKit.acmp (g := (mkF m 136 #[.val (.long x0), .second, .val (.int x1), .val (.ref b1), .val (.int k0), .val (.int j0), .val (.long y122), .second, .val (.ref u3)] [(.ref u3), (.ref u3)])) X14 hx rfl rfl rfl (pc0 := 136) (pc' := 139) (same := true) rfl (hb hby at_136) rfl (decide_eq_true rfl) (by decide) (by decide) k) ?_
            show own_Go p e below G (T14.setTop (mkF m 139 #[.val (.long x0), .second, .val (.int x1), .val (.ref b1), .val (.int k0), .val (.int j0), .val (.long y122), .second, .val (.ref u3)] []))
            refine own_st (fun t k => XS.iconst X14.here hx rfl (hb hby at_139) k) ?_
            show own_Go p e below G (T14.setTop (mkF m 140 #[.val (.long x0), .second, .val (.int x1), .val (.ref b1), .val (.int k0), .val (.int j0), .val (.long y122), .second, .val (.ref u3)] [(.int (1 : Int32))]))
            refine own_st (fun t k => XS.goto X14.here hx rfl (pc0 := 140) (pc' := 144) rfl (hb hby at_140) (by decide) (by decide) k) ?_
            show own_Go p e below G (T14.setTop (mkF m 144 #[.val (.long x0), .second, .val (.int x1), .val (.ref b1), .val (.int k0), .val (.int j0), .val (.long y122), .second, .val (.ref u3)] [(.int (1 : Int32))]))
            rw [hG]
            exact own_retZ X14 hx hlk (t := .boolean) hret (by simp) (hb hby at_144) ⟨rfl, N0⟩ (by decide) (by decide)
          · skip
            by_cases hy4 : y122 = 214
            · skip
              have hr : own_sc y122 u0 u1 u2 u3 u4 = .ref u4 := by unfold own_sc; rw [if_neg hy0, if_neg hy1, if_neg hy2, if_neg hy3, if_pos hy4]
              refine own_st (fun t k => XS.lload X6.here hx rfl (hb hby at_122) rfl  k) ?_
              show own_Go p e below G (T6.setTop (mkF m 124 #[.val (.long x0), .second, .val (.int x1), .val (.ref b1), .val (.int k0), .val (.int j0), .val (.long y122), .second, .unset] [(.long y122)]))
              obtain ⟨v15, T15, L15, X15, Q15, st15⟩ := own_callS X6 hx hZ (y := (⟨"com/example/pathweave/pathweave/SystemCall", "numbered", "(J)Lcom/example/pathweave/pathweave/SystemCall;"⟩ : MethodName)) hown (hw _ (List.mem_of_getElem? (i := 6) rfl)) (hw _ (List.mem_of_getElem? (i := 7) rfl)) (hw _ (List.mem_of_getElem? (i := 8) rfl)) (hw _ (List.mem_of_getElem? (i := 9) rfl)) (by decide) (W := 0) (rm1 l Z a0 hw y122 ca kc u0 u1 u2 u3 u4 (.ref u4) h6 hr (SC0.ext OL.2) (VC.ext OL.2) (F0.ext OL.2) (F1.ext OL.2) (F2.ext OL.2) (F3.ext OL.2) (F4.ext OL.2)) (by decide) (by decide) e6 (g := (mkF m 124 #[.val (.long x0), .second, .val (.int x1), .val (.ref b1), .val (.int k0), .val (.int j0), .val (.long y122), .second, .unset] [(.long y122)])) rfl (by rw [hml]; rfl) (argsL := [(.long y122)]) (rest := []) own_pd0 rfl rfl (by show 2 * 0 + _ ≤ _; exact Nat.le_of_eq rfl) (hb hby at_124) rfl (by decide) (by decide)
              obtain ⟨rfl, rfl, e15⟩ := Q15
              simp only [List.append_nil, Nat.add_zero] at X15
              refine own_st st15 ?_
              show own_Go p e below G (T15.setTop (mkF m 127 #[.val (.long x0), .second, .val (.int x1), .val (.ref b1), .val (.int k0), .val (.int j0), .val (.long y122), .second, .unset] [(.ref u4)]))
              refine own_st (fun t k => XS.astore X15.here hx rfl (hb hby at_127) rfl rfl (l' := #[.val (.long x0), .second, .val (.int x1), .val (.ref b1), .val (.int k0), .val (.int j0), .val (.long y122), .second, .val (.ref u4)]) rfl k) ?_
              show own_Go p e below G (T15.setTop (mkF m 129 #[.val (.long x0), .second, .val (.int x1), .val (.ref b1), .val (.int k0), .val (.int j0), .val (.long y122), .second, .val (.ref u4)] []))
              refine own_st (fun t k => XS.aload X15.here hx rfl (hb hby at_129) rfl rfl  k) ?_
              show own_Go p e below G (T15.setTop (mkF m 131 #[.val (.long x0), .second, .val (.int x1), .val (.ref b1), .val (.int k0), .val (.int j0), .val (.long y122), .second, .val (.ref u4)] [(.ref u4)]))
              refine own_st (fun t k => XS.lload X15.here hx rfl (hb hby at_131) rfl  k) ?_
              show own_Go p e below G (T15.setTop (mkF m 133 #[.val (.long x0), .second, .val (.int x1), .val (.ref b1), .val (.int k0), .val (.int j0), .val (.long y122), .second, .val (.ref u4)] [(.long y122), (.ref u4)]))
              obtain ⟨v16, T16, L16, X16, Q16, st16⟩ := own_callS X15 hx hZ (y := (⟨"com/example/pathweave/pathweave/SystemCallNumberedPinLaw", "expected", "(J)Lcom/example/pathweave/pathweave/SystemCall;"⟩ : MethodName)) hown (hw _ (List.mem_of_getElem? (i := 15) rfl)) (hw _ (List.mem_of_getElem? (i := 16) rfl)) (hw _ (List.mem_of_getElem? (i := 17) rfl)) (hw _ (List.mem_of_getElem? (i := 18) rfl)) (by decide) (W := 1) (rm2 l Z a0 hw y122 u0 u1 u2 u3 u4 (.ref u4) h6 hr (S0.ext OL.2) (S1.ext OL.2) (S2.ext OL.2) (S3.ext OL.2) (S4.ext OL.2)) (by decide) (by decide) e15 (g := (mkF m 133 #[.val (.long x0), .second, .val (.int x1), .val (.ref b1), .val (.int k0), .val (.int j0), .val (.long y122), .second, .val (.ref u4)] [(.long y122), (.ref u4)])) rfl (by rw [hml]; rfl) (argsL := [(.long y122)]) (rest := [(.ref u4)]) own_pd0 rfl rfl (by show 2 * 0 + _ ≤ _; exact Nat.le_of_eq rfl) (hb hby at_133) rfl (by decide) (by decide)
              obtain ⟨rfl, rfl, e16⟩ := Q16
              simp only [List.append_nil, Nat.add_zero] at X16
              refine own_st st16 ?_
              show own_Go p e below G (T16.setTop (mkF m 136 #[.val (.long x0), .second, .val (.int x1), .val (.ref b1), .val (.int k0), .val (.int j0), .val (.long y122), .second, .val (.ref u4)] [(.ref u4), (.ref u4)]))
              refine own_st (fun t k => Jvm.RoadKit.acmp (g := (mkF m 136 #[.val (.long x0), .second, .val (.int x1), .val (.ref b1), .val (.int k0), .val (.int j0), .val (.long y122), .second, .val (.ref u4)] [(.ref u4), (.ref u4)])) X16 hx rfl rfl rfl (pc0 := 136) (pc' := 139) (same := true) rfl (hb hby at_136) rfl (decide_eq_true rfl) (by decide) (by decide) k) ?_
              show own_Go p e below G (T16.setTop (mkF m 139 #[.val (.long x0), .second, .val (.int x1), .val (.ref b1), .val (.int k0), .val (.int j0), .val (.long y122), .second, .val (.ref u4)] []))
              refine own_st (fun t k => XS.iconst X16.here hx rfl (hb hby at_139) k) ?_
              show own_Go p e below G (T16.setTop (mkF m 140 #[.val (.long x0), .second, .val (.int x1), .val (.ref b1), .val (.int k0), .val (.int j0), .val (.long y122), .second, .val (.ref u4)] [(.int (1 : Int32))]))
              refine own_st (fun t k => XS.goto X16.here hx rfl (pc0 := 140) (pc' := 144) rfl (hb hby at_140) (by decide) (by decide) k) ?_
              show own_Go p e below G (T16.setTop (mkF m 144 #[.val (.long x0), .second, .val (.int x1), .val (.ref b1), .val (.int k0), .val (.int j0), .val (.long y122), .second, .val (.ref u4)] [(.int (1 : Int32))]))
              rw [hG]
              exact own_retZ X16 hx hlk (t := .boolean) hret (by simp) (hb hby at_144) ⟨rfl, N0⟩ (by decide) (by decide)
            · skip
              have hr : own_sc y122 u0 u1 u2 u3 u4 = .null := by unfold own_sc; rw [if_neg hy0, if_neg hy1, if_neg hy2, if_neg hy3, if_neg hy4]
              refine own_st (fun t k => XS.lload X6.here hx rfl (hb hby at_122) rfl  k) ?_
              show own_Go p e below G (T6.setTop (mkF m 124 #[.val (.long x0), .second, .val (.int x1), .val (.ref b1), .val (.int k0), .val (.int j0), .val (.long y122), .second, .unset] [(.long y122)]))
              obtain ⟨v17, T17, L17, X17, Q17, st17⟩ := own_callS X6 hx hZ (y := (⟨"com/example/pathweave/pathweave/SystemCall", "numbered", "(J)Lcom/example/pathweave/pathweave/SystemCall;"⟩ : MethodName)) hown (hw _ (List.mem_of_getElem? (i := 6) rfl)) (hw _ (List.mem_of_getElem? (i := 7) rfl)) (hw _ (List.mem_of_getElem? (i := 8) rfl)) (hw _ (List.mem_of_getElem? (i := 9) rfl)) (by decide) (W := 0) (rm1 l Z a0 hw y122 ca kc u0 u1 u2 u3 u4 .null h6 hr (SC0.ext OL.2) (VC.ext OL.2) (F0.ext OL.2) (F1.ext OL.2) (F2.ext OL.2) (F3.ext OL.2) (F4.ext OL.2)) (by decide) (by decide) e6 (g := (mkF m 124 #[.val (.long x0), .second, .val (.int x1), .val (.ref b1), .val (.int k0), .val (.int j0), .val (.long y122), .second, .unset] [(.long y122)])) rfl (by rw [hml]; rfl) (argsL := [(.long y122)]) (rest := []) own_pd0 rfl rfl (by show 2 * 0 + _ ≤ _; exact Nat.le_of_eq rfl) (hb hby at_124) rfl (by decide) (by decide)
              obtain ⟨rfl, rfl, e17⟩ := Q17
              simp only [List.append_nil, Nat.add_zero] at X17
              refine own_st st17 ?_
              show own_Go p e below G (T17.setTop (mkF m 127 #[.val (.long x0), .second, .val (.int x1), .val (.ref b1), .val (.int k0), .val (.int j0), .val (.long y122), .second, .unset] [.null]))
              refine own_st (fun t k => XS.astore X17.here hx rfl (hb hby at_127) rfl rfl (l' := #[.val (.long x0), .second, .val (.int x1), .val (.ref b1), .val (.int k0), .val (.int j0), .val (.long y122), .second, .val .null]) rfl k) ?_
              show own_Go p e below G (T17.setTop (mkF m 129 #[.val (.long x0), .second, .val (.int x1), .val (.ref b1), .val (.int k0), .val (.int j0), .val (.long y122), .second, .val .null] []))
              refine own_st (fun t k => XS.aload X17.here hx rfl (hb hby at_129) rfl rfl  k) ?_
              show own_Go p e below G (T17.setTop (mkF m 131 #[.val (.long x0), .second, .val (.int x1), .val (.ref b1), .val (.int k0), .val (.int j0), .val (.long y122), .second, .val .null] [.null]))
              refine own_st (fun t k => XS.lload X17.here hx rfl (hb hby at_131) rfl  k) ?_
              show own_Go p e below G (T17.setTop (mkF m 133 #[.val (.long x0), .second, .val (.int x1), .val (.ref b1), .val (.int k0), .val (.int j0), .val (.long y122), .second, .val .null] [(.long y122), .null]))
              obtain ⟨v18, T18, L18, X18, Q18, st18⟩ := own_callS X17 hx hZ (y := (⟨"com/example/pathweave/pathweave/SystemCallNumberedPinLaw", "expected", "(J)Lcom/example/pathweave/pathweave/SystemCall;"⟩ : MethodName)) hown (hw _ (List.mem_of_getElem? (i := 15) rfl)) (hw _ (List.mem_of_getElem? (i := 16) rfl)) (hw _ (List.mem_of_getElem? (i := 17) rfl)) (hw _ (List.mem_of_getElem? (i := 18) rfl)) (by decide) (W := 1) (rm2 l Z a0 hw y122 u0 u1 u2 u3 u4 .null h6 hr (S0.ext OL.2) (S1.ext OL.2) (S2.ext OL.2) (S3.ext OL.2) (S4.ext OL.2)) (by decide) (by decide) e17 (g := (mkF m 133 #[.val (.long x0), .second, .val (.int x1), .val (.ref b1), .val (.int k0), .val (.int j0), .val (.long y122), .second, .val .null] [(.long y122), .null])) rfl (by rw [hml]; rfl) (argsL := [(.long y122)]) (rest := [.null]) own_pd0 rfl rfl (by show 2 * 0 + _ ≤ _; exact Nat.le_of_eq rfl) (hb hby at_133) rfl (by decide) (by decide)
              obtain ⟨rfl, rfl, e18⟩ := Q18
              simp only [List.append_nil, Nat.add_zero] at X18
              refine own_st st18 ?_
              show own_Go p e below G (T18.setTop (mkF m 136 #[.val (.long x0), .second, .val (.int x1), .val (.ref b1), .val (.int k0), .val (.int j0), .val (.long y122), .second, .val .null] [.null, .null]))
              refine own_st (fun t k => Jvm.RoadKit.acmp (g := (mkF m 136 #[.val (.long x0), .second, .val (.int x1), .val (.ref b1), .val (.int k0), .val (.int j0), .val (.long y122), .second, .val .null] [.null, .null])) X18 hx rfl rfl rfl (pc0 := 136) (pc' := 139) (same := true) rfl (hb hby at_136) rfl (decide_eq_true rfl) (by decide) (by decide) k) ?_
              show own_Go p e below G (T18.setTop (mkF m 139 #[.val (.long x0), .second, .val (.int x1), .val (.ref b1), .val (.int k0), .val (.int j0), .val (.long y122), .second, .val .null] []))
              refine own_st (fun t k => XS.iconst X18.here hx rfl (hb hby at_139) k) ?_
              show own_Go p e below G (T18.setTop (mkF m 140 #[.val (.long x0), .second, .val (.int x1), .val (.ref b1), .val (.int k0), .val (.int j0), .val (.long y122), .second, .val .null] [(.int (1 : Int32))]))
              refine own_st (fun t k => XS.goto X18.here hx rfl (pc0 := 140) (pc' := 144) rfl (hb hby at_140) (by decide) (by decide) k) ?_
              show own_Go p e below G (T18.setTop (mkF m 144 #[.val (.long x0), .second, .val (.int x1), .val (.ref b1), .val (.int k0), .val (.int j0), .val (.long y122), .second, .val .null] [(.int (1 : Int32))]))
              rw [hG]
              exact own_retZ X18 hx hlk (t := .boolean) hret (by simp) (hb hby at_144) ⟨rfl, N0⟩ (by decide) (by decide)
  by_cases c50_19 : k0 < (4 : Int32)
  · skip
    refine own_st (fun t k => XS.icmpNo X6.here hx rfl (hb hby at_50) rfl (tlt c50_19).2.1 k) ?_
    show own_Go p e below G (T6.setTop (mkF m 53 #[.val (.long x0), .second, .val (.int x1), .val (.ref b1), .val (.int k0), .val (.int j0), .unset, .unset, .unset] []))
    refine own_st (fun t k => XS.aloadN X6.here hx rfl (hb hby at_53) rfl rfl  k) ?_
    show own_Go p e below G (T6.setTop (mkF m 54 #[.val (.long x0), .second, .val (.int x1), .val (.ref b1), .val (.int k0), .val (.int j0), .unset, .unset, .unset] [(.ref b1)]))
    refine own_st (fun t k => XS.iload X6.here hx rfl (hb hby at_54) rfl  k) ?_
    show own_Go p e below G (T6.setTop (mkF m 56 #[.val (.long x0), .second, .val (.int x1), .val (.ref b1), .val (.int k0), .val (.int j0), .unset, .unset, .unset] [(.int j0), (.ref b1)]))
    obtain ⟨q0, hq0⟩ := own_get5 (a := 56) (b := 63) (c := 64) (d := 93) (e := 214) j0.toNatClampNeg
    have Vc20 := V_b1
    obtain ⟨cl20, Ar20, -, Sa20, -, Ha20, -⟩ := Vc20
    have hin20 : ¬ (j0 < 0 ∨ cl20.slots.size ≤ (j0).toNatClampNeg) := inb_of Sa20 hidx
    refine own_st (fun t k => X6.laload hx (j := j0) (v := (.long q0)) (by rw [e6]; exact Ar20.1) (State.isArrayOf_alike hZ.alike Ar20.2.1) Ar20.2.2 hin20 (Ha20.at hin20 hq0) (g := (mkF m 56 #[.val (.long x0), .second, .val (.int x1), .val (.ref b1), .val (.int k0), .val (.int j0), .unset, .unset, .unset] [(.int j0), (.ref b1)])) rfl rfl (hb hby at_56) t k) ?_
    show own_Go p e below G (T6.setTop (mkF m 57 #[.val (.long x0), .second, .val (.int x1), .val (.ref b1), .val (.int k0), .val (.int j0), .unset, .unset, .unset] [(.long q0)]))
    refine own_st (fun t k => XS.lstore X6.here hx rfl (hb hby at_57) rfl (l' := #[.val (.long x0), .second, .val (.int x1), .val (.ref b1), .val (.int k0), .val (.int j0), .val (.long q0), .second, .unset]) rfl k) ?_
    show own_Go p e below G (T6.setTop (mkF m 59 #[.val (.long x0), .second, .val (.int x1), .val (.ref b1), .val (.int k0), .val (.int j0), .val (.long q0), .second, .unset] []))
    refine own_st (fun t k => XS.goto X6.here hx rfl (pc0 := 59) (pc' := 122) rfl (hb hby at_59) (by decide) (by decide) k) ?_
    show own_Go p e below G (T6.setTop (mkF m 122 #[.val (.long x0), .second, .val (.int x1), .val (.ref b1), .val (.int k0), .val (.int j0), .val (.long q0), .second, .unset] []))
    exact J122 _
  · skip
    refine own_st (fun t k => XS.icmpYes X6.here hx rfl (pc0 := 50) (pc' := 62) rfl (hb hby at_50) rfl (flt c50_19).2.1 (by decide) (by decide) k) ?_
    show own_Go p e below G (T6.setTop (mkF m 62 #[.val (.long x0), .second, .val (.int x1), .val (.ref b1), .val (.int k0), .val (.int j0), .unset, .unset, .unset] []))
    refine own_st (fun t k => XS.iload X6.here hx rfl (hb hby at_62) rfl  k) ?_
    show own_Go p e below G (T6.setTop (mkF m 64 #[.val (.long x0), .second, .val (.int x1), .val (.ref b1), .val (.int k0), .val (.int j0), .unset, .unset, .unset] [(.int k0)]))
    refine own_st (fun t k => XS.bipush X6.here hx rfl (hb hby at_64) k) ?_
    show own_Go p e below G (T6.setTop (mkF m 66 #[.val (.long x0), .second, .val (.int x1), .val (.ref b1), .val (.int k0), .val (.int j0), .unset, .unset, .unset] [(.int (6 : Int32)), (.int k0)]))
    by_cases c66_21 : k0 < (6 : Int32)
    · skip
      refine own_st (fun t k => XS.icmpNo X6.here hx rfl (hb hby at_66) rfl (tlt c66_21).2.1 k) ?_
      show own_Go p e below G (T6.setTop (mkF m 69 #[.val (.long x0), .second, .val (.int x1), .val (.ref b1), .val (.int k0), .val (.int j0), .unset, .unset, .unset] []))
      refine own_st (fun t k => XS.aloadN X6.here hx rfl (hb hby at_69) rfl rfl  k) ?_
      show own_Go p e below G (T6.setTop (mkF m 70 #[.val (.long x0), .second, .val (.int x1), .val (.ref b1), .val (.int k0), .val (.int j0), .unset, .unset, .unset] [(.ref b1)]))
      refine own_st (fun t k => XS.iload X6.here hx rfl (hb hby at_70) rfl  k) ?_
      show own_Go p e below G (T6.setTop (mkF m 72 #[.val (.long x0), .second, .val (.int x1), .val (.ref b1), .val (.int k0), .val (.int j0), .unset, .unset, .unset] [(.int j0), (.ref b1)]))
      obtain ⟨q0, hq0⟩ := own_get5 (a := 56) (b := 63) (c := 64) (d := 93) (e := 214) j0.toNatClampNeg
      have Vc22 := V_b1
      obtain ⟨cl22, Ar22, -, Sa22, -, Ha22, -⟩ := Vc22
      have hin22 : ¬ (j0 < 0 ∨ cl22.slots.size ≤ (j0).toNatClampNeg) := inb_of Sa22 hidx
      refine own_st (fun t k => X6.laload hx (j := j0) (v := (.long q0)) (by rw [e6]; exact Ar22.1) (State.isArrayOf_alike hZ.alike Ar22.2.1) Ar22.2.2 hin22 (Ha22.at hin22 hq0) (g := (mkF m 72 #[.val (.long x0), .second, .val (.int x1), .val (.ref b1), .val (.int k0), .val (.int j0), .unset, .unset, .unset] [(.int j0), (.ref b1)])) rfl rfl (hb hby at_72) t k) ?_
      show own_Go p e below G (T6.setTop (mkF m 73 #[.val (.long x0), .second, .val (.int x1), .val (.ref b1), .val (.int k0), .val (.int j0), .unset, .unset, .unset] [(.long q0)]))
      refine own_st (fun t k => XS.lconst X6.here hx rfl (hb hby at_73) k) ?_
      show own_Go p e below G (T6.setTop (mkF m 74 #[.val (.long x0), .second, .val (.int x1), .val (.ref b1), .val (.int k0), .val (.int j0), .unset, .unset, .unset] [(.long (1 : Int64)), (.long q0)]))
      refine own_st (fun t k => XS.ladd X6.here hx rfl (hb hby at_74) rfl k) ?_
      show own_Go p e below G (T6.setTop (mkF m 75 #[.val (.long x0), .second, .val (.int x1), .val (.ref b1), .val (.int k0), .val (.int j0), .unset, .unset, .unset] [(.long (q0 + (1 : Int64)))]))
      refine own_st (fun t k => XS.lstore X6.here hx rfl (hb hby at_75) rfl (l' := #[.val (.long x0), .second, .val (.int x1), .val (.ref b1), .val (.int k0), .val (.int j0), .val (.long (q0 + (1 : Int64))), .second, .unset]) rfl k) ?_
      show own_Go p e below G (T6.setTop (mkF m 77 #[.val (.long x0), .second, .val (.int x1), .val (.ref b1), .val (.int k0), .val (.int j0), .val (.long (q0 + (1 : Int64))), .second, .unset] []))
      refine own_st (fun t k => XS.goto X6.here hx rfl (pc0 := 77) (pc' := 122) rfl (hb hby at_77) (by decide) (by decide) k) ?_
      show own_Go p e below G (T6.setTop (mkF m 122 #[.val (.long x0), .second, .val (.int x1), .val (.ref b1), .val (.int k0), .val (.int j0), .val (.long (q0 + (1 : Int64))), .second, .unset] []))
      exact J122 _
    · skip
      refine own_st (fun t k => XS.icmpYes X6.here hx rfl (pc0 := 66) (pc' := 80) rfl (hb hby at_66) rfl (flt c66_21).2.1 (by decide) (by decide) k) ?_
      show own_Go p e below G (T6.setTop (mkF m 80 #[.val (.long x0), .second, .val (.int x1), .val (.ref b1), .val (.int k0), .val (.int j0), .unset, .unset, .unset] []))
      refine own_st (fun t k => XS.iload X6.here hx rfl (hb hby at_80) rfl  k) ?_
      show own_Go p e below G (T6.setTop (mkF m 82 #[.val (.long x0), .second, .val (.int x1), .val (.ref b1), .val (.int k0), .val (.int j0), .unset, .unset, .unset] [(.int k0)]))
      refine own_st (fun t k => XS.bipush X6.here hx rfl (hb hby at_82) k) ?_
      show own_Go p e below G (T6.setTop (mkF m 84 #[.val (.long x0), .second, .val (.int x1), .val (.ref b1), .val (.int k0), .val (.int j0), .unset, .unset, .unset] [(.int (8 : Int32)), (.int k0)]))
      by_cases c84_23 : k0 < (8 : Int32)
      · skip
        refine own_st (fun t k => XS.icmpNo X6.here hx rfl (hb hby at_84) rfl (tlt c84_23).2.1 k) ?_
        show own_Go p e below G (T6.setTop (mkF m 87 #[.val (.long x0), .second, .val (.int x1), .val (.ref b1), .val (.int k0), .val (.int j0), .unset, .unset, .unset] []))
        refine own_st (fun t k => XS.aloadN X6.here hx rfl (hb hby at_87) rfl rfl  k) ?_
        show own_Go p e below G (T6.setTop (mkF m 88 #[.val (.long x0), .second, .val (.int x1), .val (.ref b1), .val (.int k0), .val (.int j0), .unset, .unset, .unset] [(.ref b1)]))
        refine own_st (fun t k => XS.iload X6.here hx rfl (hb hby at_88) rfl  k) ?_
        show own_Go p e below G (T6.setTop (mkF m 90 #[.val (.long x0), .second, .val (.int x1), .val (.ref b1), .val (.int k0), .val (.int j0), .unset, .unset, .unset] [(.int j0), (.ref b1)]))
        obtain ⟨q0, hq0⟩ := own_get5 (a := 56) (b := 63) (c := 64) (d := 93) (e := 214) j0.toNatClampNeg
        have Vc24 := V_b1
        obtain ⟨cl24, Ar24, -, Sa24, -, Ha24, -⟩ := Vc24
        have hin24 : ¬ (j0 < 0 ∨ cl24.slots.size ≤ (j0).toNatClampNeg) := inb_of Sa24 hidx
        refine own_st (fun t k => X6.laload hx (j := j0) (v := (.long q0)) (by rw [e6]; exact Ar24.1) (State.isArrayOf_alike hZ.alike Ar24.2.1) Ar24.2.2 hin24 (Ha24.at hin24 hq0) (g := (mkF m 90 #[.val (.long x0), .second, .val (.int x1), .val (.ref b1), .val (.int k0), .val (.int j0), .unset, .unset, .unset] [(.int j0), (.ref b1)])) rfl rfl (hb hby at_90) t k) ?_
        show own_Go p e below G (T6.setTop (mkF m 91 #[.val (.long x0), .second, .val (.int x1), .val (.ref b1), .val (.int k0), .val (.int j0), .unset, .unset, .unset] [(.long q0)]))
        refine own_st (fun t k => XS.lconst X6.here hx rfl (hb hby at_91) k) ?_
        show own_Go p e below G (T6.setTop (mkF m 92 #[.val (.long x0), .second, .val (.int x1), .val (.ref b1), .val (.int k0), .val (.int j0), .unset, .unset, .unset] [(.long (1 : Int64)), (.long q0)]))
        refine own_st (fun t k => XS.lsub X6.here hx rfl (hb hby at_92) rfl k) ?_
        show own_Go p e below G (T6.setTop (mkF m 93 #[.val (.long x0), .second, .val (.int x1), .val (.ref b1), .val (.int k0), .val (.int j0), .unset, .unset, .unset] [(.long (q0 - (1 : Int64)))]))
        refine own_st (fun t k => XS.lstore X6.here hx rfl (hb hby at_93) rfl (l' := #[.val (.long x0), .second, .val (.int x1), .val (.ref b1), .val (.int k0), .val (.int j0), .val (.long (q0 - (1 : Int64))), .second, .unset]) rfl k) ?_
        show own_Go p e below G (T6.setTop (mkF m 95 #[.val (.long x0), .second, .val (.int x1), .val (.ref b1), .val (.int k0), .val (.int j0), .val (.long (q0 - (1 : Int64))), .second, .unset] []))
        refine own_st (fun t k => XS.goto X6.here hx rfl (pc0 := 95) (pc' := 122) rfl (hb hby at_95) (by decide) (by decide) k) ?_
        show own_Go p e below G (T6.setTop (mkF m 122 #[.val (.long x0), .second, .val (.int x1), .val (.ref b1), .val (.int k0), .val (.int j0), .val (.long (q0 - (1 : Int64))), .second, .unset] []))
        exact J122 _
      · skip
        refine own_st (fun t k => XS.icmpYes X6.here hx rfl (pc0 := 84) (pc' := 98) rfl (hb hby at_84) rfl (flt c84_23).2.1 (by decide) (by decide) k) ?_
        show own_Go p e below G (T6.setTop (mkF m 98 #[.val (.long x0), .second, .val (.int x1), .val (.ref b1), .val (.int k0), .val (.int j0), .unset, .unset, .unset] []))
        refine own_st (fun t k => XS.iload X6.here hx rfl (hb hby at_98) rfl  k) ?_
        show own_Go p e below G (T6.setTop (mkF m 100 #[.val (.long x0), .second, .val (.int x1), .val (.ref b1), .val (.int k0), .val (.int j0), .unset, .unset, .unset] [(.int k0)]))
        refine own_st (fun t k => XS.bipush X6.here hx rfl (hb hby at_100) k) ?_
        show own_Go p e below G (T6.setTop (mkF m 102 #[.val (.long x0), .second, .val (.int x1), .val (.ref b1), .val (.int k0), .val (.int j0), .unset, .unset, .unset] [(.int (10 : Int32)), (.int k0)]))
        by_cases c102_25 : k0 < (10 : Int32)
        · skip
          refine own_st (fun t k => XS.icmpNo X6.here hx rfl (hb hby at_102) rfl (tlt c102_25).2.1 k) ?_
          show own_Go p e below G (T6.setTop (mkF m 105 #[.val (.long x0), .second, .val (.int x1), .val (.ref b1), .val (.int k0), .val (.int j0), .unset, .unset, .unset] []))
          refine own_st (fun t k => XS.aloadN X6.here hx rfl (hb hby at_105) rfl rfl  k) ?_
          show own_Go p e below G (T6.setTop (mkF m 106 #[.val (.long x0), .second, .val (.int x1), .val (.ref b1), .val (.int k0), .val (.int j0), .unset, .unset, .unset] [(.ref b1)]))
          refine own_st (fun t k => XS.iload X6.here hx rfl (hb hby at_106) rfl  k) ?_
          show own_Go p e below G (T6.setTop (mkF m 108 #[.val (.long x0), .second, .val (.int x1), .val (.ref b1), .val (.int k0), .val (.int j0), .unset, .unset, .unset] [(.int j0), (.ref b1)]))
          obtain ⟨q0, hq0⟩ := own_get5 (a := 56) (b := 63) (c := 64) (d := 93) (e := 214) j0.toNatClampNeg
          have Vc26 := V_b1
          obtain ⟨cl26, Ar26, -, Sa26, -, Ha26, -⟩ := Vc26
          have hin26 : ¬ (j0 < 0 ∨ cl26.slots.size ≤ (j0).toNatClampNeg) := inb_of Sa26 hidx
          refine own_st (fun t k => X6.laload hx (j := j0) (v := (.long q0)) (by rw [e6]; exact Ar26.1) (State.isArrayOf_alike hZ.alike Ar26.2.1) Ar26.2.2 hin26 (Ha26.at hin26 hq0) (g := (mkF m 108 #[.val (.long x0), .second, .val (.int x1), .val (.ref b1), .val (.int k0), .val (.int j0), .unset, .unset, .unset] [(.int j0), (.ref b1)])) rfl rfl (hb hby at_108) t k) ?_
          show own_Go p e below G (T6.setTop (mkF m 109 #[.val (.long x0), .second, .val (.int x1), .val (.ref b1), .val (.int k0), .val (.int j0), .unset, .unset, .unset] [(.long q0)]))
          refine own_st (fun t k => XS.lloadN X6.here hx rfl (hb hby at_109) rfl  k) ?_
          show own_Go p e below G (T6.setTop (mkF m 110 #[.val (.long x0), .second, .val (.int x1), .val (.ref b1), .val (.int k0), .val (.int j0), .unset, .unset, .unset] [(.long x0), (.long q0)]))
          refine own_st (fun t k => XS.bipush X6.here hx rfl (hb hby at_110) k) ?_
          show own_Go p e below G (T6.setTop (mkF m 112 #[.val (.long x0), .second, .val (.int x1), .val (.ref b1), .val (.int k0), .val (.int j0), .unset, .unset, .unset] [(.int (8 : Int32)), (.long x0), (.long q0)]))
          refine own_st (fun t k => XS.lshl X6.here hx rfl (hb hby at_112) rfl k) ?_
          show own_Go p e below G (T6.setTop (mkF m 113 #[.val (.long x0), .second, .val (.int x1), .val (.ref b1), .val (.int k0), .val (.int j0), .unset, .unset, .unset] [(.long (x0 <<< ((8 : Int32) &&& 0x3f).toInt64)), (.long q0)]))
          refine own_st (fun t k => XS.ladd X6.here hx rfl (hb hby at_113) rfl k) ?_
          show own_Go p e below G (T6.setTop (mkF m 114 #[.val (.long x0), .second, .val (.int x1), .val (.ref b1), .val (.int k0), .val (.int j0), .unset, .unset, .unset] [(.long (q0 + (x0 <<< ((8 : Int32) &&& 0x3f).toInt64)))]))
          refine own_st (fun t k => XS.lstore X6.here hx rfl (hb hby at_114) rfl (l' := #[.val (.long x0), .second, .val (.int x1), .val (.ref b1), .val (.int k0), .val (.int j0), .val (.long (q0 + (x0 <<< ((8 : Int32) &&& 0x3f).toInt64))), .second, .unset]) rfl k) ?_
          show own_Go p e below G (T6.setTop (mkF m 116 #[.val (.long x0), .second, .val (.int x1), .val (.ref b1), .val (.int k0), .val (.int j0), .val (.long (q0 + (x0 <<< ((8 : Int32) &&& 0x3f).toInt64))), .second, .unset] []))
          refine own_st (fun t k => XS.goto X6.here hx rfl (pc0 := 116) (pc' := 122) rfl (hb hby at_116) (by decide) (by decide) k) ?_
          show own_Go p e below G (T6.setTop (mkF m 122 #[.val (.long x0), .second, .val (.int x1), .val (.ref b1), .val (.int k0), .val (.int j0), .val (.long (q0 + (x0 <<< ((8 : Int32) &&& 0x3f).toInt64))), .second, .unset] []))
          exact J122 _
        · skip
          refine own_st (fun t k => XS.icmpYes X6.here hx rfl (pc0 := 102) (pc' := 119) rfl (hb hby at_102) rfl (flt c102_25).2.1 (by decide) (by decide) k) ?_
          show own_Go p e below G (T6.setTop (mkF m 119 #[.val (.long x0), .second, .val (.int x1), .val (.ref b1), .val (.int k0), .val (.int j0), .unset, .unset, .unset] []))
          refine own_st (fun t k => XS.lloadN X6.here hx rfl (hb hby at_119) rfl  k) ?_
          show own_Go p e below G (T6.setTop (mkF m 120 #[.val (.long x0), .second, .val (.int x1), .val (.ref b1), .val (.int k0), .val (.int j0), .unset, .unset, .unset] [(.long x0)]))
          refine own_st (fun t k => XS.lstore X6.here hx rfl (hb hby at_120) rfl (l' := #[.val (.long x0), .second, .val (.int x1), .val (.ref b1), .val (.int k0), .val (.int j0), .val (.long x0), .second, .unset]) rfl k) ?_
          show own_Go p e below G (T6.setTop (mkF m 122 #[.val (.long x0), .second, .val (.int x1), .val (.ref b1), .val (.int k0), .val (.int j0), .val (.long x0), .second, .unset] []))
          exact J122 _
set_option maxRecDepth 65536 in
set_option maxHeartbeats 40000000 in
theorem comes_1 {Post : Tables → Env → Array Value → State → Outcome → State → Prop} (hpost : ∀ tb e args s v u, (limb_1_1.after args s (.returned v) u = true ∧ limb_1_2.after args s (.returned v) u = true) → FrameEnd s (.returned v) u (Jvm.fieldLocs frame_1_writes args s ++ Jvm.arrayLocs frame_1_arrays args s ++ Jvm.staticLocs frame_1_statics s) 16 128 → Post tb e args s (.returned v) u) :
    ArmFor flags0 classFile x code maxLocals ret World_1 tables_1 room_1 Calls_1 rest_1 Pre_1 Post := by
  intro l hfl _ _ p e ha hc hk s m args below hf hA hF happ hP
  obtain ⟨hcalls, hrest, hpre⟩ := hP
  obtain ⟨-, -, -, hnamed, -, -, -, hat⟩ := (Spec.applies_iff hf).mp happ
  obtain ⟨hg, hn⟩ := and_e (Cond.before_iff.mp (show (Jvm.Cond.and given_1 narrow_1).before args s = true from hpre))
  obtain ⟨gc, gr0⟩ := and_e hg
  obtain ⟨gv0, gv1⟩ := and_e gr0
  obtain ⟨w0, w1, rfl⟩ : ∃ w0 w1 : Value, args = #[w0, w1] := by
    have hs : args.size = 2 := by simpa [Cond.value, given_1] using gc
    obtain ⟨L⟩ := args
    match L, hs with
    | [w0, w1], _ => exact ⟨w0, w1, rfl⟩
  have hw := fun d (hd : d ∈ tables_1) => atoms_spec (ws := Jvm.Cond.code x code maxLocals ret :: tables_1) hat d (List.mem_cons_of_mem _ hd)
  have hfit : Fit s := fun {y c} hc i hi => by
    obtain ⟨ha, rfl⟩ := Array.getElem?_eq_some_iff.mp hc
    have q := List.all_eq_true.mp ((Array.all_eq_true_iff_forall_mem.mp hF) _ (Array.getElem_mem ha)) i (List.mem_range.mpr hi)
    simpa [Array.getElem?_eq_getElem hi] using q
  obtain ⟨i0, ei0⟩ := isL_v gv0
  obtain rfl : w0 = (.long i0) := Option.some.inj ei0
  obtain ⟨i1, ei1⟩ := is_v gv1
  obtain rfl : w1 = (.int i1) := Option.some.inj ei1
  obtain ⟨zA, hn⟩ := and_e hn
  obtain ⟨zL, hn⟩ := and_e hn
  obtain ⟨zx0, hn⟩ := and_e hn
  obtain ⟨ze0, hn⟩ := and_e hn
  obtain ⟨zf0, hn⟩ := and_e hn
  obtain ⟨zx1, hn⟩ := and_e hn
  obtain ⟨ze1, hn⟩ := and_e hn
  obtain ⟨zf1, hn⟩ := and_e hn
  obtain ⟨zx2, hn⟩ := and_e hn
  obtain ⟨ze2, hn⟩ := and_e hn
  obtain ⟨zf2, hn⟩ := and_e hn
  obtain ⟨zx3, hn⟩ := and_e hn
  obtain ⟨ze3, hn⟩ := and_e hn
  obtain ⟨zf3, hn⟩ := and_e hn
  obtain ⟨zx4, hn⟩ := and_e hn
  obtain ⟨ze4, hn⟩ := and_e hn
  have zf4 := hn
  obtain ⟨ca, evC⟩ := arr_v zA
  obtain ⟨cl, AC⟩ := Arr.start evC zA
  have SC0 := Sta.start evC (Or.inr ⟨(hw _ (List.mem_of_getElem? (i := 8) rfl)), (hw _ (List.mem_of_getElem? (i := 11) rfl))⟩)
  obtain ⟨u0, ev0, -⟩ := own_exa zx0
  have S0 := Sta.start ev0 (Or.inr ⟨(hw _ (List.mem_of_getElem? (i := 8) rfl)), (hw _ (List.mem_of_getElem? (i := 12) rfl))⟩)
  have F0 := own_fldJ zf0 ev0
  have e0 := own_el ze0 evC ev0 AC.1
  obtain ⟨u1, ev1, -⟩ := own_exa zx1
  have S1 := Sta.start ev1 (Or.inr ⟨(hw _ (List.mem_of_getElem? (i := 8) rfl)), (hw _ (List.mem_of_getElem? (i := 20) rfl))⟩)
  have F1 := own_fldJ zf1 ev1
  have e1 := own_el ze1 evC ev1 AC.1
  obtain ⟨u2, ev2, -⟩ := own_exa zx2
  have S2 := Sta.start ev2 (Or.inr ⟨(hw _ (List.mem_of_getElem? (i := 8) rfl)), (hw _ (List.mem_of_getElem? (i := 21) rfl))⟩)
  have F2 := own_fldJ zf2 ev2
  have e2 := own_el ze2 evC ev2 AC.1
  obtain ⟨u3, ev3, -⟩ := own_exa zx3
  have S3 := Sta.start ev3 (Or.inr ⟨(hw _ (List.mem_of_getElem? (i := 8) rfl)), (hw _ (List.mem_of_getElem? (i := 22) rfl))⟩)
  have F3 := own_fldJ zf3 ev3
  have e3 := own_el ze3 evC ev3 AC.1
  obtain ⟨u4, ev4, -⟩ := own_exa zx4
  have S4 := Sta.start ev4 (Or.inr ⟨(hw _ (List.mem_of_getElem? (i := 8) rfl)), (hw _ (List.mem_of_getElem? (i := 23) rfl))⟩)
  have F4 := own_fldJ zf4 ev4
  have e4 := own_el ze4 evC ev4 AC.1
  obtain ⟨l1, l2⟩ := own_len zL evC AC.1
  have VC := Arv.start (vs := [(.ref u0), (.ref u1), (.ref u2), (.ref u3), (.ref u4)]) (dv := .null) hfit AC l1 l2 (by decide) rfl ⟨e0, e1, e2, e3, e4, trivial⟩
  obtain ⟨n, o, h1, h2, h3, _, L, rfl, ⟨rfl, N⟩, hq⟩ := rm0 l s _ hw tables_1 i0 i1 ca cl.cls u0 u1 u2 u3 u4 s.heap s.heap.size (Nat.le_refl _) (Old.start s) SC0 VC F0 S0 F1 S1 F2 S2 F3 S3 F4 S4 p e ha hc hk s m _ below hf ((Spec.applies_iff_loose hf).mp happ).1 ⟨rfl, State.Warmed39.refl s, rfl⟩ trivial
  refine ⟨n, _, h1, h2, h3, hpost _ _ _ _ _ _ ⟨Cond.after_iff.mpr rfl, Cond.after_iff.mpr (eq_i res_at (Term.int_eval (1)) rfl)⟩ ⟨hq.1, hq.2.1, (hq.2.2.sift fun y hy => Or.inr (N y hy)).mono (by decide) (by decide)⟩⟩
theorem main_1_1 : Claimed_1_1 := comes_1 fun _ _ _ _ _ _ h hF => ⟨h.1, hF⟩
theorem main_1_2 : Claimed_1_2 := comes_1 fun _ _ _ _ _ _ h hF => ⟨h.2, hF⟩
end Jvm.Pilot.@@N@@
namespace Jvm.Pilot.@@N@@
open Jvm Jvm.ClassFile Sem Op Lib Jvm.Free Jvm.Stand Jvm.Pilot.@@N@@.Jvm.D
/-! MADE BY PROGRAM (witnessworld.py) out of the Statement's table words and the real class files: 15 classes; the members and pool entries that the words name. The judged class is class 1, her method 1. -/
namespace start1
open Jvm.ClassFile
def u (s : String) : CpInfo := .utf8 (stringToUtf16 s)
/-- a pool by its gaps: so many unusable entries, then the entry; so many at the end -/
def gap : Nat → List CpInfo → List CpInfo
  | 0, r => r
  | n + 1, r => .unusable :: gap n r
def poolList (es : List (Nat × CpInfo)) (last : Nat) : List CpInfo := es.foldr (fun e r => gap e.1 (e.2 :: r)) (gap last [])
def pool (es : List (Nat × CpInfo)) (last : Nat) : Array CpInfo := ⟨poolList es last⟩
def fileOf (pool : Array CpInfo) (this : Nat) (attrs : Array Attribute := #[]) (ms : Array MethodInfo := #[]) (fl : Nat := 33) (sup : Nat := 0) (ifs : Array Nat := #[]) (fds : Array FieldInfo := #[]) : ClassFile where
  minorVersion := 0
  majorVersion := 65
  constantPool := pool
  accessFlags := fl
  thisClass := this
  superClass := sup
  interfaces := ifs
  fields := fds
  methods := ms
  attributes := attrs
def plain (name : String) (sup : Option ClassId) : Class where
  name := name
  kind := .ordinary
  loader := none
  accessFlags := 33
  super := sup
  interfaces := #[]
  cf := none
  fields := #[]
  methods := #[]
  instanceTypes := #[]
  staticTypes := #[]
  resolved := #[]
  callSites := []
  init := .initialized
  statics := none
  mirror := none

def pool0 : Array CpInfo := pool [(5, u "<init>"), (0, u "()V"), (1, .class_ 10), (1, u "java/lang/Object")] 113

def k0m0 : Method := { name := "<init>", desc := "()V", sig := { parameters := [], returnType := none }, accessFlags := 1, code := none }
/-- java/lang/Object -/
def k0 : Class := { plain "java/lang/Object" none with
  accessFlags := 33
  interfaces := #[]
  cf := some (fileOf pool0 8 #[] #[{ accessFlags := 1, nameIndex := 5, descriptorIndex := 6, attributes := #[] }] 33 0 #[] #[])
  fields := #[]
  methods := #[k0m0]
  instanceTypes := #[]
  staticTypes := #[]
  resolved := Array.replicate 124 none
  statics := none }

def pool1 : Array CpInfo := pool [(2, .class_ 4), (1, u "java/lang/Object"), (0, u "<init>"), (0, u "()V"), (0, .long 56), (1, .long 63), (1, .long 64), (1, .long 93), (1, .long 214), (1, .methodref 18 19), (0, .class_ 20), (0, .nameAndType 21 22), (0, u "com/example/pathweave/pathweave/SystemCall"), (0, u "numbered"), (0, u "(J)Lcom/example/pathweave/pathweave/SystemCall;"), (0, .methodref 24 25), (0, .class_ 26), (0, .nameAndType 27 22), (0, u "com/example/pathweave/pathweave/SystemCallNumberedPinLaw"), (0, u "expected"), (0, .fieldref 18 29), (0, .nameAndType 30 31), (0, u "OPENAT"), (0, u "Lcom/example/pathweave/pathweave/SystemCall;"), (0, .fieldref 18 33), (0, .nameAndType 34 31), (0, u "READ"), (0, .fieldref 18 36), (0, .nameAndType 37 31), (0, u "WRITE"), (0, .fieldref 18 39), (0, .nameAndType 40 31), (0, u "EXIT"), (0, .fieldref 18 42), (0, .nameAndType 43 31), (0, u "BRK"), (2, u "law"), (0, u "(JI)Z")] 5

def k1m0 : Method := { name := "<init>", desc := "()V", sig := { parameters := [], returnType := none }, accessFlags := 1, code := none }
def k1c1 : Code := { maxStack := 5, maxLocals := 9, code := code, exceptionTable := #[], attributes := #[] }
def k1m1 : Method := { name := "law", desc := "(JI)Z", sig := { parameters := [.long, .int], returnType := some .boolean }, accessFlags := 9, code := some k1c1 }
def k1c2 : Code := { maxStack := 4, maxLocals := 2, code := method_3_code, exceptionTable := #[], attributes := #[] }
def k1m2 : Method := { name := "expected", desc := "(J)Lcom/example/pathweave/pathweave/SystemCall;", sig := { parameters := [.long], returnType := some (.object "com/example/pathweave/pathweave/SystemCall") }, accessFlags := 10, code := some k1c2 }
/-- com/example/pathweave/pathweave/SystemCallNumberedPinLaw -/
def k1 : Class := { plain "com/example/pathweave/pathweave/SystemCallNumberedPinLaw" (some 0) with
  accessFlags := 49
  interfaces := #[]
  cf := some (fileOf pool1 24 #[] #[{ accessFlags := 1, nameIndex := 5, descriptorIndex := 6, attributes := #[] }, { accessFlags := 9, nameIndex := 46, descriptorIndex := 47, attributes := #[] }, { accessFlags := 10, nameIndex := 27, descriptorIndex := 22, attributes := #[] }] 49 2 #[] #[])
  fields := #[]
  methods := #[k1m0, k1m1, k1m2]
  instanceTypes := #[]
  staticTypes := #[]
  resolved := Array.replicate 53 none
  statics := none }

def pool2 : Array CpInfo := pool [(1, .class_ 2), (0, u "java/lang/constant/Constable"), (0, .class_ 4), (0, u "java/lang/Object")] 6

/-- java/lang/constant/Constable -/
def k2 : Class := { plain "java/lang/constant/Constable" (some 0) with
  accessFlags := 1537
  interfaces := #[]
  cf := some (fileOf pool2 1 #[] #[] 1537 3 #[] #[])
  fields := #[]
  methods := #[]
  instanceTypes := #[]
  staticTypes := #[]
  resolved := Array.replicate 11 none
  statics := none }

def pool3 : Array CpInfo := pool [(1, .class_ 2), (0, u "java/lang/Comparable"), (0, .class_ 4), (0, u "java/lang/Object")] 7

/-- java/lang/Comparable -/
def k3 : Class := { plain "java/lang/Comparable" (some 0) with
  accessFlags := 1537
  interfaces := #[]
  cf := some (fileOf pool3 1 #[] #[] 1537 3 #[] #[])
  fields := #[]
  methods := #[]
  instanceTypes := #[]
  staticTypes := #[]
  resolved := Array.replicate 12 none
  statics := none }

def pool4 : Array CpInfo := pool [(1, .class_ 2), (0, u "java/io/Serializable"), (0, .class_ 4), (0, u "java/lang/Object")] 2

/-- java/io/Serializable -/
def k4 : Class := { plain "java/io/Serializable" (some 0) with
  accessFlags := 1537
  interfaces := #[]
  cf := some (fileOf pool4 1 #[] #[] 1537 3 #[] #[])
  fields := #[]
  methods := #[]
  instanceTypes := #[]
  staticTypes := #[]
  resolved := Array.replicate 7 none
  statics := none }

def pool5 : Array CpInfo := pool [(2, .class_ 4), (1, u "java/lang/Enum"), (0, u "name"), (0, u "Ljava/lang/String;"), (2, u "ordinal"), (0, u "I"), (1, .class_ 14), (1, u "java/lang/Object"), (4, u "hash"), (86, .class_ 108), (1, u "java/lang/Enum$EnumDesc"), (2, .class_ 112), (0, u "java/lang/constant/Constable"), (0, .class_ 114), (0, u "java/lang/Comparable"), (0, .class_ 116), (0, u "java/io/Serializable")] 87

/-- java/lang/Enum -/
def k5 : Class := { plain "java/lang/Enum" (some 0) with
  accessFlags := 1057
  interfaces := #[2, 3, 4]
  cf := some (fileOf pool5 2 #[.nestMembers #[106]] #[] 1057 12 #[111, 113, 115] #[{ accessFlags := 18, nameIndex := 5, descriptorIndex := 6, attributes := #[] }, { accessFlags := 18, nameIndex := 9, descriptorIndex := 10, attributes := #[] }, { accessFlags := 2, nameIndex := 19, descriptorIndex := 10, attributes := #[] }])
  fields := #[{ name := "name", type := (.object "java/lang/String"), accessFlags := 18, slot := 0, constantValue := 0 }, { name := "ordinal", type := .int, accessFlags := 18, slot := 1, constantValue := 0 }, { name := "hash", type := .int, accessFlags := 2, slot := 2, constantValue := 0 }]
  methods := #[]
  instanceTypes := #[(.object "java/lang/String"), .int, .int]
  staticTypes := #[]
  resolved := Array.replicate 204 none
  statics := none }

def pool6 : Array CpInfo := pool [(1, .class_ 2), (0, u "com/example/pathweave/pathweave/SystemCall"), (2, u "OPENAT"), (0, u "Lcom/example/pathweave/pathweave/SystemCall;"), (2, u "READ"), (2, u "WRITE"), (2, u "EXIT"), (2, u "BRK"), (2, u "$VALUES"), (0, u "[Lcom/example/pathweave/pathweave/SystemCall;"), (6, .class_ 31), (1, u "java/lang/Enum"), (6, .fieldref 1 39), (0, .nameAndType 40 41), (0, u "number"), (0, u "J"), (0, .fieldref 1 43), (0, .nameAndType 44 22), (0, u "CALLS"), (41, u "numbered"), (0, u "(J)Lcom/example/pathweave/pathweave/SystemCall;")] 22

def k6c0 : Code := { maxStack := 4, maxLocals := 6, code := prog_184_method_4_code, exceptionTable := #[], attributes := #[] }
def k6m0 : Method := { name := "numbered", desc := "(J)Lcom/example/pathweave/pathweave/SystemCall;", sig := { parameters := [.long], returnType := some (.object "com/example/pathweave/pathweave/SystemCall") }, accessFlags := 8, code := some k6c0 }
/-- com/example/pathweave/pathweave/SystemCall -/
def k6 : Class := { plain "com/example/pathweave/pathweave/SystemCall" (some 5) with
  accessFlags := 16432
  interfaces := #[]
  cf := some (fileOf pool6 1 #[] #[{ accessFlags := 8, nameIndex := 86, descriptorIndex := 87, attributes := #[] }] 16432 29 #[] #[{ accessFlags := 16409, nameIndex := 5, descriptorIndex := 6, attributes := #[] }, { accessFlags := 16409, nameIndex := 9, descriptorIndex := 6, attributes := #[] }, { accessFlags := 16409, nameIndex := 12, descriptorIndex := 6, attributes := #[] }, { accessFlags := 16409, nameIndex := 15, descriptorIndex := 6, attributes := #[] }, { accessFlags := 16409, nameIndex := 18, descriptorIndex := 6, attributes := #[] }, { accessFlags := 26, nameIndex := 44, descriptorIndex := 22, attributes := #[] }, { accessFlags := 18, nameIndex := 40, descriptorIndex := 41, attributes := #[] }, { accessFlags := 4122, nameIndex := 21, descriptorIndex := 22, attributes := #[] }])
  fields := #[{ name := "OPENAT", type := (.object "com/example/pathweave/pathweave/SystemCall"), accessFlags := 16409, slot := 0, constantValue := 0 }, { name := "READ", type := (.object "com/example/pathweave/pathweave/SystemCall"), accessFlags := 16409, slot := 1, constantValue := 0 }, { name := "WRITE", type := (.object "com/example/pathweave/pathweave/SystemCall"), accessFlags := 16409, slot := 2, constantValue := 0 }, { name := "EXIT", type := (.object "com/example/pathweave/pathweave/SystemCall"), accessFlags := 16409, slot := 3, constantValue := 0 }, { name := "BRK", type := (.object "com/example/pathweave/pathweave/SystemCall"), accessFlags := 16409, slot := 4, constantValue := 0 }, { name := "CALLS", type := (.array (.object "com/example/pathweave/pathweave/SystemCall")), accessFlags := 26, slot := 5, constantValue := 0 }, { name := "number", type := .long, accessFlags := 18, slot := 3, constantValue := 0 }, { name := "$VALUES", type := (.array (.object "com/example/pathweave/pathweave/SystemCall")), accessFlags := 4122, slot := 6, constantValue := 0 }]
  methods := #[k6m0]
  instanceTypes := #[(.object "java/lang/String"), .int, .int, .long]
  staticTypes := #[(.object "com/example/pathweave/pathweave/SystemCall"), (.object "com/example/pathweave/pathweave/SystemCall"), (.object "com/example/pathweave/pathweave/SystemCall"), (.object "com/example/pathweave/pathweave/SystemCall"), (.object "com/example/pathweave/pathweave/SystemCall"), (.array (.object "com/example/pathweave/pathweave/SystemCall")), (.array (.object "com/example/pathweave/pathweave/SystemCall"))]
  resolved := Array.replicate 110 none
  statics := some 0 }

def pool7 : Array CpInfo := pool [(1, u "java/lang/Cloneable"), (0, .class_ 1), (0, u "java/lang/Object"), (0, .class_ 3)] 3

/-- java/lang/Cloneable -/
def k7 : Class := { plain "java/lang/Cloneable" (some 0) with
  accessFlags := 1537
  interfaces := #[]
  cf := some (fileOf pool7 2 #[] #[] 1537 4 #[] #[])
  fields := #[]
  methods := #[]
  instanceTypes := #[]
  staticTypes := #[]
  resolved := Array.replicate 8 none
  statics := none }

/-- the primitive byte -/
def k8 : Class := { plain "byte" none with kind := .primitive 'B', accessFlags := 0x411 }
/-- [B -/
def k9 : Class := { plain "[B" (some 0) with kind := .array 8 .byte, interfaces := #[7, 4], accessFlags := 1041 }

/-- the primitive int -/
def k10 : Class := { plain "int" none with kind := .primitive 'I', accessFlags := 0x411 }
/-- [I -/
def k11 : Class := { plain "[I" (some 0) with kind := .array 10 .int, interfaces := #[7, 4], accessFlags := 1041 }

/-- the primitive long -/
def k12 : Class := { plain "long" none with kind := .primitive 'J', accessFlags := 0x411 }
/-- [J -/
def k13 : Class := { plain "[J" (some 0) with kind := .array 12 .long, interfaces := #[7, 4], accessFlags := 1041 }

/-- [Lcom/example/pathweave/pathweave/SystemCall; -/
def k14 : Class := { plain "[Lcom/example/pathweave/pathweave/SystemCall;" (some 0) with kind := .array 6 (.object "com/example/pathweave/pathweave/SystemCall"), interfaces := #[7, 4], accessFlags := 1041 }

def heap : Heap := #[{ cls := 6, slots := #[.ref 2, .ref 3, .ref 4, .ref 5, .ref 6, .ref 1, .null], vm := .statics 6 },
  { cls := 14, slots := #[.ref 2, .ref 3, .ref 4, .ref 5, .ref 6], vm := .none },
  { cls := 6, slots := #[.null, .int 0, .int 0, .long 56], vm := .none },
  { cls := 6, slots := #[.null, .int 1, .int 0, .long 63], vm := .none },
  { cls := 6, slots := #[.null, .int 2, .int 0, .long 64], vm := .none },
  { cls := 6, slots := #[.null, .int 3, .int 0, .long 93], vm := .none },
  { cls := 6, slots := #[.null, .int 4, .int 0, .long 214], vm := .none }]
def classes : Array Class := #[k0, k1, k2, k3, k4, k5, k6, k7, k8, k9, k10, k11, k12, k13, k14]
def interned : List (Array UInt16 × Addr) := []
def slotsUsed : Nat := 32
def theMethod : MethodId := ⟨1, 1⟩
def args0 : Array Value := #[.long 5, .int 5]
def aboutOver (below : List Frame) : State where
  vm := { classes := classes, interned := interned.toArray }
  heap := heap
  slotsUsed := slotsUsed
  threads := #[{ frames := .invoking theMethod args0 :: below }]
def below0 : List Frame := [.native { method := ⟨0, 0⟩, args := #[] }]
def about1 : State := aboutOver below0
def p0 : Program := .bare "" "" ""
def e0 : Env := launch0.env 0 0 0
theorem w_frames : about1.frames = Frame.invoking theMethod args0 :: below0 := rfl
set_option maxRecDepth 65536 in
theorem w_args : argsFit about1.vm theMethod args0 = true := by decide +kernel
set_option maxRecDepth 65536 in
theorem w_heap : heapFits about1 = true := by decide +kernel
set_option maxRecDepth 65536 in
theorem w_runnable : about1.curStatus? = some .runnable := by decide +kernel
set_option maxRecDepth 65536 in
theorem w_alone : about1.alone = true := by decide +kernel
set_option maxRecDepth 65536 in
theorem w_named : about1.methodNamed? x = some theMethod := by decide +kernel
set_option maxRecDepth 65536 in
theorem w_hears : about1.hears theMethod below0 = true := by decide +kernel
set_option maxRecDepth 65536 in
theorem w_ripe : about1.ripe theMethod args0 below0 = true := by decide +kernel
theorem w_running : about1.status = .running := rfl
set_option maxRecDepth 65536 in
theorem w_room : about1.hasRoom e0.platform room_1 = true :=
  launch0.hasRoom_least _ room_1 (by decide +kernel) (by decide +kernel) (by decide +kernel) (by decide +kernel) (by decide +kernel) (by decide +kernel)
theorem allAtoms_all (ts : List Jvm.Cond) (a : Array Jvm.Value) (st : Jvm.State) : (allAtoms ts).before a st = ts.all (fun c => c.before a st) := by
  induction ts with
  | nil => rfl
  | cons c t ih =>
    show (Jvm.Cond.and c (allAtoms t)).before a st = _
    rw [Jvm.Cond.before_and, ih, List.all_cons]
def words1 : List Jvm.Cond := Jvm.Cond.code x code maxLocals ret :: tables_1
/-- a 'code' word, met by the world's own term for the bytes: nothing is compared byte by byte -/
theorem code_word {y : MethodName} {bytes : ByteArray} {mx : Nat} {rt : Option FieldType} {a : Array Value} {s : State} {m : MethodId} {meth : Method} {c : Code} (h1 : s.methodNamed? y = some m) (h2 : s.vm.method? m = some meth) (h3 : meth.code = some c) (h4 : c.code = bytes)
    (h5 : (c.maxLocals == mx && c.exceptionTable.isEmpty && decide (c.maxStack ≤ mostOperands) && decide (meth.sig.returnType = rt) && !meth.locks && decide (parseMethodDescriptor y.desc = some meth.sig)) = true) : (Jvm.Cond.code y bytes mx rt).before a s = true := by
  simp only [Bool.and_eq_true, beq_iff_eq, Bool.not_eq_true', decide_eq_true_eq] at h5
  obtain ⟨⟨⟨⟨⟨g1, g2⟩, g3⟩, g4⟩, g5⟩, g6⟩ := h5
  simp [Cond.before, Cond.holds, Cond.value, h1, h2, h3, h4, g1, g2, g3, g4, g5, g6]
def isCode : Jvm.Cond → Bool
  | .code _ _ _ _ => true
  | _ => false
theorem all_split {L : List Jvm.Cond} {P : Jvm.Cond → Bool} (h1 : L.all (fun c => isCode c || P c) = true) (h2 : ∀ c ∈ L.filter isCode, P c = true) : L.all P = true := by
  refine List.all_eq_true.mpr fun c hc => ?_
  have h := List.all_eq_true.mp h1 c hc
  rcases Bool.eq_false_or_eq_true (isCode c) with hi | hi
  · exact h2 c (List.mem_filter.mpr ⟨hc, hi⟩)
  · simpa [hi] using h
set_option maxRecDepth 65536 in
theorem w_c0 : (Jvm.Cond.code x code maxLocals ret).before args0 about1 = true := code_word (m := ⟨1, 1⟩) (meth := k1m1) (c := k1c1) (by decide +kernel) rfl rfl rfl (by decide +kernel)
set_option maxRecDepth 65536 in
theorem w_c1 : (Jvm.Cond.code ({ cls := "com/example/pathweave/pathweave/SystemCall", name := "numbered", desc := "(J)Lcom/example/pathweave/pathweave/SystemCall;" } : Jvm.MethodName) prog_184_method_4_code (6 : Nat) (Option.some (Jvm.ClassFile.FieldType.object "com/example/pathweave/pathweave/SystemCall"))).before args0 about1 = true := code_word (m := ⟨6, 0⟩) (meth := k6m0) (c := k6c0) (by decide +kernel) rfl rfl rfl (by decide +kernel)
set_option maxRecDepth 65536 in
theorem w_c2 : (Jvm.Cond.code ({ cls := "com/example/pathweave/pathweave/SystemCallNumberedPinLaw", name := "expected", desc := "(J)Lcom/example/pathweave/pathweave/SystemCall;" } : Jvm.MethodName) method_3_code (2 : Nat) (Option.some (Jvm.ClassFile.FieldType.object "com/example/pathweave/pathweave/SystemCall"))).before args0 about1 = true := code_word (m := ⟨1, 2⟩) (meth := k1m2) (c := k1c2) (by decide +kernel) rfl rfl rfl (by decide +kernel)
def codes1 : List Jvm.Cond := [Jvm.Cond.code x code maxLocals ret, Jvm.Cond.code ({ cls := "com/example/pathweave/pathweave/SystemCall", name := "numbered", desc := "(J)Lcom/example/pathweave/pathweave/SystemCall;" } : Jvm.MethodName) prog_184_method_4_code (6 : Nat) (Option.some (Jvm.ClassFile.FieldType.object "com/example/pathweave/pathweave/SystemCall")), Jvm.Cond.code ({ cls := "com/example/pathweave/pathweave/SystemCallNumberedPinLaw", name := "expected", desc := "(J)Lcom/example/pathweave/pathweave/SystemCall;" } : Jvm.MethodName) method_3_code (2 : Nat) (Option.some (Jvm.ClassFile.FieldType.object "com/example/pathweave/pathweave/SystemCall"))]
set_option maxRecDepth 65536 in
theorem codes_eq : words1.filter isCode = codes1 := rfl
theorem w_codes : ∀ c ∈ words1.filter isCode, c.before args0 about1 = true := by
  rw [codes_eq]
  intro c hc
  simp only [codes1, List.mem_cons, List.not_mem_nil, or_false] at hc
  rcases hc with rfl | rfl | rfl
  · exact w_c0
  · exact w_c1
  · exact w_c2
set_option maxRecDepth 65536 in
theorem w_t1 : (words1.take 24).all (fun c => isCode c || c.before args0 about1) = true := by decide +kernel
set_option maxRecDepth 65536 in
theorem w_t2 : (words1.drop 24).all (fun c => isCode c || c.before args0 about1) = true := by decide +kernel
theorem w_tables : (allAtoms (Jvm.Cond.code x code maxLocals ret :: tables_1)).before args0 about1 = true := by
  rw [allAtoms_all]
  show words1.all (fun c => c.before args0 about1) = true
  refine all_split ?_ w_codes
  rw [← List.take_append_drop 24 words1, List.all_append, w_t1, w_t2]
  rfl
set_option maxRecDepth 65536 in
theorem w_case : (Jvm.Cond.and given_1 narrow_1).before args0 about1 = true := by decide +kernel
theorem w_applies : (headSpec (Jvm.Cond.code x code maxLocals ret :: tables_1) room_1).applies x e0.platform about1 = true :=
  (Spec.applies_iff w_frames).mpr ⟨w_running, w_runnable, w_alone, w_named, w_hears, w_ripe, w_room, w_tables⟩
theorem atStart : AtStart classFile x code maxLocals ret World_1 tables_1 room_1 Calls_1 rest_1 Pre_1 launch0 p0 e0 about1 theMethod args0 below0 :=
  ⟨lists_1, trivial, launch0.admits_env _ _ _, launch0.least_env, fairChoices_fair.cas, fairChoices_fair.clock, w_frames, w_args, w_heap, w_applies, trivial, trivial, w_case⟩
end start1
theorem witness_1 : WitnessClaimed_1 := ⟨start1.p0, start1.e0, start1.about1, start1.theMethod, start1.args0, start1.below0, start1.atStart⟩
end Jvm.Pilot.@@N@@
