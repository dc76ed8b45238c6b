import JvmDerived
import JvmDerived.Pilot.@@N@@Statement
import JvmDerived.Pilot.@@N@@Code
set_option linter.unusedVariables false
set_option linter.unusedSimpArgs false
namespace Jvm.RoadKit
open Sem ClassFile Op Lib Jvm.Stand Jvm.Free Jvm.LawKit
section New
variable {p : Program} {l : Launch} {e : Env} {R : Room} {s : State} {m : MethodId} {args : Array Value} {below : List Frame} {meth : Method} {c : Code} {T : State} {locs : List Loc} {cells slots : Nat}
theorem retI (X : Stand p l e R s m args below meth c T locs cells slots) (hx : p.tables.exec = Jvm.exec) {pc : Nat} {Ls : Array Slot} {z : Int32} {rest : List Value} (hret : meth.sig.returnType = some .int) (hd : decode c.code pc = .ok (.ireturn, 1)) {fs : List Frame}
    (hl : ∀ (f : JFrame) (acts : List Action), f.method = m → f.locked = none → f.entered = [] → (doReturn e (T.setTop f) acts (some (.int z))).1 = T.setFrames fs) : Steps p.tables e below (T.setTop (mkF m pc Ls (.int z :: rest))) (T.setFrames fs) := by
  have hm' : T.vm.method? m = some meth := X.method'
  have hn : narrow .int (.int z) = .int z := rfl
  show Steps p.tables e below (T.setTop { method := m, pc := pc, locals := Ls, stack := _ :: rest, locked := none }) _
  jvm_step X.here [X.here.top, hx, hd, hm', hret, hn]
  first | (intro acts; rw [hl _ acts rfl rfl rfl]) | rw [hl _ _ rfl rfl rfl]
  exact Steps.refl _
/-- where a run is to come: it has ended, returning, with Q of what it returned, its heap and what it wrote -/
def own_End (s : State) (below : List Frame) (Q : Option Value → Heap → List Loc → Prop) (cc nn : Nat) (t : State) (o : Outcome) : Prop :=
  t.status = .running ∧ Ended t below o ∧ ∃ v L, o = .returned v ∧ Q v t.heap L ∧ FrameEnd s o t L cc nn
/-- from A the run comes to such an end -/
def own_Go (p : Program) (e : Env) (below : List Frame) (G : State → Outcome → Prop) (A : State) : Prop := ∃ t o, Steps p.tables e below A t ∧ G t o
theorem own_st {G : State → Outcome → Prop} {A B : State} (h : ∀ t, Steps p.tables e below B t → Steps p.tables e below A t) (k : own_Go p e below G B) : own_Go p e below G A := by
  obtain ⟨t, o, h1, h2⟩ := k
  exact ⟨t, o, h t h1, h2⟩
theorem own_retZ (X : Stand p l e R s m args below meth c T locs cells slots) (hx : p.tables.exec = Jvm.exec) (hlk : meth.locks = false) {t : FieldType} (hret : meth.sig.returnType = some t) (ht : t = .boolean ∨ t = .byte ∨ t = .char ∨ t = .short)
    {pc : Nat} {Ls : Array Slot} {z : Int32} {rest : List Value} (hd : decode c.code pc = .ok (.ireturn, 1)) {Q : Option Value → Heap → List Loc → Prop} {cc nn : Nat} (hq : Q (some (.int (nar t z))) T.heap locs) (hc : cells ≤ cc) (hn : slots ≤ nn) :
    own_Go p e below (own_End s below Q cc nn) (T.setTop (mkF m pc Ls (.int z :: rest))) := by
  obtain ⟨fs, hr, hrun, hended, hW, hsame⟩ := X.leave (v := some (.int (nar t z))) (fun h => by rw [hret] at h; cases h) hlk
  exact ⟨_, _, retN X hx hret ht hd hr, hrun, hended, _, _, rfl, hq, ⟨_, rfl⟩, hW, hsame.mono hc hn⟩
theorem own_retI (X : Stand p l e R s m args below meth c T locs cells slots) (hx : p.tables.exec = Jvm.exec) (hlk : meth.locks = false) (hret : meth.sig.returnType = some .int)
    {pc : Nat} {Ls : Array Slot} {z : Int32} {rest : List Value} (hd : decode c.code pc = .ok (.ireturn, 1)) {Q : Option Value → Heap → List Loc → Prop} {cc nn : Nat} (hq : Q (some (.int z)) T.heap locs) (hc : cells ≤ cc) (hn : slots ≤ nn) :
    own_Go p e below (own_End s below Q cc nn) (T.setTop (mkF m pc Ls (.int z :: rest))) := by
  obtain ⟨fs, hr, hrun, hended, hW, hsame⟩ := X.leave (v := some (.int z)) (fun h => by rw [hret] at h; cases h) hlk
  exact ⟨_, _, retI X hx hret hd hr, hrun, hended, _, _, rfl, hq, ⟨_, rfl⟩, hW, hsame.mono hc hn⟩
theorem own_retA (X : Stand p l e R s m args below meth c T locs cells slots) (hx : p.tables.exec = Jvm.exec) (hlk : meth.locks = false) {ty : FieldType} (hret : meth.sig.returnType = some ty) (hty : ty.isReference = true)
    {pc : Nat} {Ls : Array Slot} {v : Value} (hv : v.isRef = true) {rest : List Value} (hd : decode c.code pc = .ok (.areturn, 1)) {Q : Option Value → Heap → List Loc → Prop} {cc nn : Nat} (hq : Q (some v) T.heap locs) (hc : cells ≤ cc) (hn : slots ≤ nn) :
    own_Go p e below (own_End s below Q cc nn) (T.setTop (mkF m pc Ls (v :: rest))) := by
  obtain ⟨fs, hr, hrun, hended, hW, hsame⟩ := X.leave (v := some v) (fun h => by rw [hret] at h; cases h) hlk
  refine ⟨_, _, ?_, hrun, hended, _, _, rfl, hq, ⟨_, rfl⟩, hW, hsame.mono hc hn⟩
  have hm' : T.vm.method? m = some meth := X.method'
  show Steps p.tables e below (T.setTop { method := m, pc := pc, locals := Ls, stack := _ :: rest, locked := none }) _
  jvm_step X.here [X.here.top, hx, hd, hm', hret, hv, hty]
  first | (intro acts; rw [hr _ acts rfl rfl rfl]) | rw [hr _ _ rfl rfl rfl]
  exact Steps.refl _
theorem own_retV (X : Stand p l e R s m args below meth c T locs cells slots) (hx : p.tables.exec = Jvm.exec) (hlk : meth.locks = false) (hret : meth.sig.returnType = none)
    {pc : Nat} {Ls : Array Slot} (hd : decode c.code pc = .ok (.return_, 1)) {Q : Option Value → Heap → List Loc → Prop} {cc nn : Nat} (hq : Q none T.heap locs) (hc : cells ≤ cc) (hn : slots ≤ nn) :
    own_Go p e below (own_End s below Q cc nn) (T.setTop (mkF m pc Ls [])) := by
  obtain ⟨fs, hr, hrun, hended, hW, hsame⟩ := X.leave (v := none) (fun _ => rfl) hlk
  exact ⟨_, _, X.returnOut hx hret hd hr, hrun, hended, _, _, rfl, hq, ⟨_, rfl⟩, hW, hsame.mono hc hn⟩
/-- a body's contract: called with these values over this heap it returns, with Q -/
def own_Met (l : Launch) (Z : State) (y : MethodName) (bytes : ByteArray) (maxL : Nat) (ret : Option FieldType) (ws : List Cond) (rm : Room) (as' : Array Value) (h0 : Heap) (Q : Option Value → Heap → List Loc → Prop) : Prop :=
  MetFree l y (head1 (Cond.code y bytes maxL ret :: ws) rm) (fun a U => a = as' ∧ Z.Warmed39 U.vm ∧ U.heap = h0) (fun _ _ _ _ _ => True) (fun _ U o U' => ∃ v L, o = .returned v ∧ Q v U'.heap L ∧ FrameEnd U o U' L rm.cells rm.slots)
theorem own_body {Z : State} {y : MethodName} {bytes : ByteArray} {maxL : Nat} {ret : Option FieldType} {ws : List Cond} {rm : Room} {as' : Array Value} {h0 : Heap} {Q : Option Value → Heap → List Loc → Prop} (hpl : plainFor y = true)
    (k : ∀ (p : Program) (e : Env) (s : State) (m : MethodId) (below : List Frame) (meth : Method) (c : Code) (s₁ : State), p.tables.exec = Jvm.exec → c.code = bytes → c.maxLocals = maxL → s.vm.findClass y.cls = some m.cls → meth.name = y.name → meth.sig.returnType = ret → meth.locks = false → Z.Warmed39 s.vm →
      Stand p l e rm s m as' below meth c s₁ [] 0 0 → s₁.heap = h0 → ∀ G, G = own_End s below Q rm.cells rm.slots → own_Go p e below G (s₁.setTop (entryFrame m as' maxL))) :
    own_Met l Z y bytes maxL ret ws rm as' h0 Q := by
  refine MetFree.of_bodySF hpl hisR ?_
  intro p e s m args below meth c s₁ Bd hml0 hP hK
  obtain ⟨rfl, hZ, hh⟩ := hP
  have e0 : s₁.heap = h0 := by rw [← hh, Bd.state]; rfl
  exact k p e s m below meth c s₁ Bd.exec Bd.bytes hml0 (findClass_of_methodNamed Bd.named) (name_of_methodNamed Bd.named Bd.method).1 Bd.returns Bd.notSynchronized hZ (Stand.of_body Bd) e0 _ rfl
section Calls
variable {Z : State} {a0 : Array Value} {h : Heap}
theorem own_callS (X : Stand p l e R s m args below meth c T locs cells slots) (hx : p.tables.exec = Jvm.exec) (hZ : Z.Warmed39 s.vm) {own : String} {index : Nat} {y : MethodName} {bytes : ByteArray} {maxL : Nat} {ret : Option FieldType} (hown : s.vm.findClass own = some m.cls)
    (w1 : (Cond.methodLink own index y).before a0 Z = true) (w2 : (Cond.static y).before a0 Z = true) (w3 : (Cond.initialized y.cls).before a0 Z = true) (w4 : (Cond.code y bytes maxL ret).before a0 Z = true)
    (hy : y.cls ≠ "java/lang/invoke/MethodHandle" ∧ y.cls ≠ "java/lang/invoke/VarHandle") {rm : Room} {as' : Array Value} {Q : Option Value → Heap → List Loc → Prop} {W : Nat} (hM : own_Met l Z y bytes maxL ret [] rm as' h Q)
    (hf : rm.frames + 1 ≤ R.frames) (hl : W + (maxL + 11) + rm.locals ≤ R.locals) (eT : T.heap = h) {g : JFrame} (hg : g.method = m) (hsize : g.locals.size = c.maxLocals) {argsL rest : List Value}
    {ps : List FieldType} {r : Option FieldType} (hd : parseMethodDescriptor y.desc = some ⟨ps, r⟩) (hlen : argsL.length = ps.length) (hstack : g.stack = argsL.reverse ++ rest) (hW : 2 * g.monitorRoom + (rest.map fun v => v.category).sum ≤ W)
    (hdg : decode c.code g.pc = .ok (.invokestatic index, 3)) (ha : argsL.toArray = as') (hc : cells + rm.cells ≤ R.cells) (hn : slots + rm.slots ≤ R.slots) :
    ∃ (v : Option Value) (T' : State) (L : List Loc), Stand p l e R s m args below meth c T' (locs ++ L) (cells + rm.cells) (slots + rm.slots) ∧ Q v T'.heap L ∧
      ∀ target, Steps p.tables e below (T'.setTop { g with pc := g.pc + 3, stack := v.toList ++ rest }) target → Steps p.tables e below (T.setTop g) target := by
  obtain ⟨v, vm1, ⟨T', L', k', n'⟩, -, X', ⟨Lc, hQ, l1, l2, l3⟩, st⟩ := Jvm.LawKit.callS X hx (y := y) hown (mvT hZ w1) (mvT hZ w2) (mvT hZ w3) (mvT hZ w4) hy (backOf (W := W) hM hZ w4 w3 hf hl) hg hsize (argsL := argsL) (rest := rest) (lenOf hd hlen) hstack hW hdg (fun _ _ => ⟨ha, eT, hc, hn⟩)
  dsimp only [Pt.U, Pt.locs, Pt.cells, Pt.slots] at X' l1 l2 l3 st hQ
  subst l1 l2 l3
  exact ⟨v, T', Lc, X', hQ, st⟩
theorem own_callC (X : Stand p l e R s m args below meth c T locs cells slots) (hx : p.tables.exec = Jvm.exec) (hZ : Z.Warmed39 s.vm) {own : String} {index : Nat} {y : MethodName} {bytes : ByteArray} {maxL : Nat} (hn1 : y.name = "<init>") (hown : s.vm.findClass own = some m.cls)
    (w1 : (Cond.methodLink own index y).before a0 Z = true) (w2 : (Cond.instanceMethod y).before a0 Z = true) (w3 : (Cond.initialized y.cls).before a0 Z = true) (w4 : (Cond.code y bytes maxL none).before a0 Z = true)
    (hy : y.cls ≠ "java/lang/invoke/MethodHandle" ∧ y.cls ≠ "java/lang/invoke/VarHandle") {rm : Room} {as' : Array Value} {Q : Option Value → Heap → List Loc → Prop} {W : Nat} (hM : own_Met l Z y bytes maxL none [] rm as' h Q)
    (hf : rm.frames + 1 ≤ R.frames) (hl : W + (maxL + 11) + rm.locals ≤ R.locals) (eT : T.heap = h) {g : JFrame} (hg : g.method = m) (hsize : g.locals.size = c.maxLocals) {a : Addr} {argsL rest : List Value}
    {ps : List FieldType} {r : Option FieldType} (hd : parseMethodDescriptor y.desc = some ⟨ps, r⟩) (hlen : argsL.length = ps.length) (hstack : g.stack = argsL.reverse ++ .ref a :: rest) (hW : 2 * g.monitorRoom + (rest.map fun v => v.category).sum ≤ W)
    (hdg : decode c.code g.pc = .ok (.invokespecial index, 3)) (ha : (.ref a :: argsL).toArray = as') (hc : cells + rm.cells ≤ R.cells) (hn : slots + rm.slots ≤ R.slots) :
    ∃ (v : Option Value) (T' : State) (L : List Loc), Stand p l e R s m args below meth c T' (locs ++ L) (cells + rm.cells) (slots + rm.slots) ∧ Q v T'.heap L ∧
      ∀ target, Steps p.tables e below (T'.setTop { g with pc := g.pc + 3, stack := v.toList ++ rest }) target → Steps p.tables e below (T.setTop g) target := by
  obtain ⟨v, vm1, ⟨T', L', k', n'⟩, -, X', ⟨Lc, hQ, l1, l2, l3⟩, st⟩ := X.specialBack hx (y := y) hn1 hown (mvT hZ w1) (mvT hZ w2) (mvT hZ w4) hy (backOf (W := W) hM hZ w4 w3 hf hl) hg hsize (Steps.refl _) (a := a) (argsL := argsL) (rest := rest) (lenOf hd hlen) hstack hW hdg (fun _ _ => ⟨ha, eT, hc, hn⟩)
  dsimp only [Pt.U, Pt.locs, Pt.cells, Pt.slots] at X' l1 l2 l3 st hQ
  subst l1 l2 l3
  exact ⟨v, T', Lc, X', hQ, fun t k => st.trans k⟩
theorem own_callV (X : Stand p l e R s m args below meth c T locs cells slots) (hx : p.tables.exec = Jvm.exec) (hZ : Z.Warmed39 s.vm) {own C : String} {index : Nat} {y z : MethodName} {bytes : ByteArray} {maxL : Nat} {ret : Option FieldType} (hown : s.vm.findClass own = some m.cls)
    (w1 : (Cond.methodLink own index y).before a0 Z = true) (w2 : (Cond.declares y).before a0 Z = true) (hnf : NotFace s y) (w5 : (Cond.selects C y z).before a0 Z = true) (w6 : (Cond.instanceMethod z).before a0 Z = true) (w3 : (Cond.initialized z.cls).before a0 Z = true) (w4 : (Cond.code z bytes maxL ret).before a0 Z = true)
    (hy : y.cls ≠ "java/lang/invoke/MethodHandle" ∧ y.cls ≠ "java/lang/invoke/VarHandle") {rm : Room} {as' : Array Value} {Q : Option Value → Heap → List Loc → Prop} {W : Nat} (hM : own_Met l Z z bytes maxL ret [] rm as' h Q)
    (hf : rm.frames + 1 ≤ R.frames) (hl : W + (maxL + 11) + rm.locals ≤ R.locals) (eT : T.heap = h) {a : Addr} (E : Exa Z h a C) {g : JFrame} (hg : g.method = m) (hsize : g.locals.size = c.maxLocals) {argsL rest : List Value}
    {ps : List FieldType} {r : Option FieldType} (hd : parseMethodDescriptor y.desc = some ⟨ps, r⟩) (hlen : argsL.length = ps.length) (hstack : g.stack = argsL.reverse ++ .ref a :: rest) (hW : 2 * g.monitorRoom + (rest.map fun v => v.category).sum ≤ W)
    (hdg : decode c.code g.pc = .ok (.invokevirtual index, 3)) (ha : (.ref a :: argsL).toArray = as') (hc : cells + rm.cells ≤ R.cells) (hn : slots + rm.slots ≤ R.slots) :
    ∃ (v : Option Value) (T' : State) (L : List Loc), Stand p l e R s m args below meth c T' (locs ++ L) (cells + rm.cells) (slots + rm.slots) ∧ Q v T'.heap L ∧
      ∀ target, Steps p.tables e below (T'.setTop { g with pc := g.pc + 3, stack := v.toList ++ rest }) target → Steps p.tables e below (T.setTop g) target := by
  obtain ⟨cq, kq, q1, q2, q3⟩ := isOf hZ eT E
  obtain ⟨v, vm1, ⟨T', L', k', n'⟩, -, X', ⟨Lc, hQ, l1, l2, l3⟩, st⟩ := X.virtualBack hx (y := y) (z := z) hown (mvT hZ w1) (mvT hZ w2) hnf (mvT hZ w5) (mvT hZ w6) hy (backOf (W := W) hM hZ w4 w3 hf hl) q1 q3 hg hsize (Steps.refl _) (argsL := argsL) (rest := rest) (lenOf hd hlen) hstack hW hdg (fun _ _ => ⟨ha, eT, hc, hn⟩)
  dsimp only [Pt.U, Pt.locs, Pt.cells, Pt.slots] at X' l1 l2 l3 st hQ
  subst l1 l2 l3
  exact ⟨v, T', Lc, X', hQ, fun t k => st.trans k⟩
end Calls
section Words
variable {Z : State} {a0 : Array Value}
theorem own_exa {t : Term} {C : String} (h : (Cond.exactly t C).value a0 Z none Z [] = some true) : ∃ a, t.eval a0 Z none [] Z = some (.ref a) ∧ Exa Z Z.heap a C := by
  obtain ⟨a, e⟩ := exa_v h
  exact ⟨a, e, Exa.start e h⟩
theorem own_fldI {t : Term} {O n d : String} {k : Int32} {a : Addr} (h : (Cond.eq (.field t O n d) (.int k)).value a0 Z none Z [] = some true) (e : t.eval a0 Z none [] Z = some (.ref a)) : Fld Z Z.heap a O n d (.int k) := by
  obtain ⟨x, y, h1, h2, h3, h4⟩ := cmp_v (Or.inl h)
  cases (Term.int_eval k).symm.trans h2
  obtain ⟨q, rfl⟩ := h4
  obtain rfl := gotT (Cond.eq_ints h1 (Term.int_eval k)) h
  exact Fld.start ((fld_at e).symm.trans h1)
theorem own_fldJ {t : Term} {O n d : String} {k : Int64} {a : Addr} (h : (Cond.eq (.field t O n d) (.long k)).value a0 Z none Z [] = some true) (e : t.eval a0 Z none [] Z = some (.ref a)) : Fld Z Z.heap a O n d (.long k) := by
  obtain ⟨x, y, h1, h2, h3, h4⟩ := cmp_v (Or.inl h)
  cases (long_at k).symm.trans h2
  obtain ⟨q, rfl⟩ := h4
  obtain rfl := gotT (eq_L h1 (long_at k)) h
  exact Fld.start ((fld_at e).symm.trans h1)
theorem own_el {t u : Term} {i : Int32} {ca a : Addr} {cl : Cell} (h : (Cond.eq (.elem t (.int i)) u).value a0 Z none Z [] = some true) (ht : t.eval a0 Z none [] Z = some (.ref ca)) (hu : u.eval a0 Z none [] Z = some (.ref a)) (hc : Z.heap[ca]? = some cl) : cl.slots[i.toNatClampNeg]? = some (.ref a) := by
  obtain ⟨x, y, h1, h2, h3, h4⟩ := cmp_v (Or.inl h)
  cases hu.symm.trans h2
  have hx : x.isRef = true := by cases x <;> simp [Kin, Value.isRef] at h3 h4 ⊢
  have e := gotT (eq_R h1 h2 hx rfl) h
  subst e
  exact (elem_in h1 ht (Term.int_eval i) hc).2
theorem own_len {t : Term} {n : Int32} {ca : Addr} {cl : Cell} (h : (Cond.eq (.length t) (.int n)).value a0 Z none Z [] = some true) (ht : t.eval a0 Z none [] Z = some (.ref ca)) (hc : Z.heap[ca]? = some cl) : cl.slots.size < 2 ^ 31 ∧ cl.slots.size.toInt32 = n := by
  obtain ⟨x, y, h1, h2, h3, h4⟩ := cmp_v (Or.inl h)
  obtain ⟨b, cell, e1, e2, e3, rfl⟩ := Jvm.Lib.length_spec h1
  cases ht.symm.trans e1
  cases hc.symm.trans (Jvm.Lib.arrayAt_spec e2).1
  exact ⟨e3, gotT (Cond.eq_ints h1 (Term.int_eval n)) h⟩
end Words
end New
end Jvm.RoadKit
namespace Jvm.Pilot.@@N@@
open Jvm Jvm.ClassFile Sem Op Lib Jvm.Free Jvm.Stand Jvm.LawKit Jvm.RoadKit Bundle Jvm.Pilot.@@N@@.Jvm.D
theorem own_pd0 : parseMethodDescriptor "([III)I" = some ⟨[(.array .int), .int, .int], some .int⟩ := by decide +kernel
theorem own_pd1 : parseMethodDescriptor "([BII)Z" = some ⟨[(.array .byte), .int, .int], some .boolean⟩ := by decide +kernel
theorem own_pd2 : parseMethodDescriptor "([II)Z" = some ⟨[(.array .int), .int], some .boolean⟩ := by decide +kernel
/-- the length of a good character by isValid's rules, 0 of a bad one -/
def own_vl (d c1 c2 c3 av : Int32) : Int32 :=
  if d < 128 then 1 else
  if d < 194 then 0 else
  if 223 < d then
    if 239 < d then
      if 244 < d then 0 else
        if av < 4 then 0 else
        if c1 < (if d = 240 then 144 else 128) then 0 else if (if d = 244 then 143 else 191) < c1 then 0 else
        if c2 < 128 then 0 else if 191 < c2 then 0 else if c3 < 128 then 0 else if 191 < c3 then 0 else 4
    else
      if av < 3 then 0 else
      if c1 < (if d = 224 then 160 else 128) then 0 else if (if d = 237 then 159 else 191) < c1 then 0 else
      if c2 < 128 then 0 else if 191 < c2 then 0 else 3
  else
    if av < 2 then 0 else if c1 < 128 then 0 else if 191 < c1 then 0 else 2
/-- by the law's own rules -/
def own_cl (d c1 c2 c3 av : Int32) : Int32 :=
  if (d &&& 128) = 0 then 1 else
  if (d &&& 224) = 192 then
    if av < 2 then 0 else if (c1 &&& 192) = 128 then (if (((d &&& 31) <<< ((6 : Int32) &&& 31)) ||| (c1 &&& 63)) < 128 then 0 else 2) else 0
  else if (d &&& 240) = 224 then
    if av < 3 then 0 else if (c1 &&& 192) = 128 then (if (c2 &&& 192) = 128 then (if ((((d &&& 15) <<< ((12 : Int32) &&& 31)) ||| ((c1 &&& 63) <<< ((6 : Int32) &&& 31))) ||| (c2 &&& 63)) < 2048 then 0 else if ((((d &&& 15) <<< ((12 : Int32) &&& 31)) ||| ((c1 &&& 63) <<< ((6 : Int32) &&& 31))) ||| (c2 &&& 63)) < 55296 then 3 else if 57343 < ((((d &&& 15) <<< ((12 : Int32) &&& 31)) ||| ((c1 &&& 63) <<< ((6 : Int32) &&& 31))) ||| (c2 &&& 63)) then 3 else 0) else 0) else 0
  else if (d &&& 248) = 240 then
    if av < 4 then 0 else if (c1 &&& 192) = 128 then (if (c2 &&& 192) = 128 then (if (c3 &&& 192) = 128 then (if (((((d &&& 7) <<< ((18 : Int32) &&& 31)) ||| ((c1 &&& 63) <<< ((12 : Int32) &&& 31))) ||| ((c2 &&& 63) <<< ((6 : Int32) &&& 31))) ||| (c3 &&& 63)) < 65536 then 0 else if 1114111 < (((((d &&& 7) <<< ((18 : Int32) &&& 31)) ||| ((c1 &&& 63) <<< ((12 : Int32) &&& 31))) ||| ((c2 &&& 63) <<< ((6 : Int32) &&& 31))) ||| (c3 &&& 63)) then 0 else 4) else 0) else 0) else 0
  else 0
def own_vr (B : Int32 → Int32) (e : Int32) : Nat → Int32 → Int32
  | 0, _ => 1
  | k + 1, i => if i < e then (if own_vl (B i &&& 255) (B (i + 1) &&& 255) (B (i + 2) &&& 255) (B (i + 3) &&& 255) (e - i) = 0 then 0 else own_vr B e k (i + own_vl (B i &&& 255) (B (i + 1) &&& 255) (B (i + 2) &&& 255) (B (i + 3) &&& 255) (e - i))) else 1
def own_rf (w : Int32 → Int32) (n : Int32) : Nat → Int32 → Int32
  | 0, _ => 1
  | k + 1, i => if i < n then (if own_cl (w i) (w (i + 1)) (w (i + 2)) (w (i + 3)) (n - i) = 0 then 0 else own_rf w n k (i + own_cl (w i) (w (i + 1)) (w (i + 2)) (w (i + 3)) (n - i))) else 1
theorem own_vrE {B : Int32 → Int32} {e i : Int32} (h : ¬ i < e) (k : Nat) : own_vr B e k i = 1 := by
  cases k with
  | zero => rfl
  | succ k => exact if_neg h
theorem own_vr0 {B : Int32 → Int32} {e i : Int32} {k : Nat} (h : i < e) (hl : own_vl (B i &&& 255) (B (i + 1) &&& 255) (B (i + 2) &&& 255) (B (i + 3) &&& 255) (e - i) = 0) : own_vr B e (k + 1) i = 0 := by
  show (if i < e then _ else _) = _
  rw [if_pos h, if_pos hl]
theorem own_vrN {B : Int32 → Int32} {e i n : Int32} {k : Nat} (h : i < e) (hl : own_vl (B i &&& 255) (B (i + 1) &&& 255) (B (i + 2) &&& 255) (B (i + 3) &&& 255) (e - i) = n) (hn : n ≠ 0) : own_vr B e (k + 1) i = own_vr B e k (i + n) := by
  show (if i < e then _ else _) = _
  rw [if_pos h, hl, if_neg hn]
theorem own_rfE {w : Int32 → Int32} {e i : Int32} (h : ¬ i < e) (k : Nat) : own_rf w e k i = 1 := by
  cases k with
  | zero => rfl
  | succ k => exact if_neg h
theorem own_rf0 {w : Int32 → Int32} {e i : Int32} {k : Nat} (h : i < e) (hl : own_cl (w i) (w (i + 1)) (w (i + 2)) (w (i + 3)) (e - i) = 0) : own_rf w e (k + 1) i = 0 := by
  show (if i < e then _ else _) = _
  rw [if_pos h, if_pos hl]
theorem own_rfN {w : Int32 → Int32} {e i : Int32} {k : Nat} (h : i < e) (hn : ¬ own_cl (w i) (w (i + 1)) (w (i + 2)) (w (i + 3)) (e - i) = 0) : own_rf w e (k + 1) i = own_rf w e k (i + own_cl (w i) (w (i + 1)) (w (i + 2)) (w (i + 3)) (e - i)) := by
  show (if i < e then _ else _) = _
  rw [if_pos h, if_neg hn]
theorem own_nl {d a b : Int32} (h : a < d) (e : b.toInt = a.toInt + 1) : ¬ d < b := by
  rw [Int32.lt_iff_toInt_lt] at h ⊢; omega
theorem own_add {i j : Int32} (h1 : 0 ≤ i.toInt) (h2 : i.toInt ≤ 5) (h3 : 0 ≤ j.toInt) (h4 : j.toInt ≤ 4) : (i + j).toInt = i.toInt + j.toInt := by
  have := c_iadd i j
  have := Int32.toInt_lt (i + j)
  have := Int32.le_toInt (i + j)
  omega
theorem own_sub {e i : Int32} (h1 : 0 ≤ i.toInt) (h2 : i.toInt ≤ 5) (h3 : 0 ≤ e.toInt) (h4 : e.toInt ≤ 5) : (e - i).toInt = e.toInt - i.toInt := by
  have := c_isub e i
  have := Int32.toInt_lt (e - i)
  have := Int32.le_toInt (e - i)
  omega
theorem own_in {i e len j : Int32} (h1 : 0 ≤ i.toInt) (h2 : i < e) (h3 : e.toInt ≤ 5) (h4 : ¬ (e - i) < len) (hj : 0 ≤ j.toInt) (hjl : j.toInt < len.toInt) (hl : len.toInt ≤ 4) : 0 ≤ (i + j).toInt ∧ (i + j).toInt < e.toInt := by
  rw [Int32.lt_iff_toInt_lt] at h2 h4
  rw [own_sub h1 (by omega) (by omega) h3] at h4
  rw [own_add h1 (by omega) hj (by omega)]
  omega
theorem own_bd {i : Int32} {k n : Int32} (h : 0 ≤ i.toInt ∧ i.toInt < k.toInt) (hk : k.toInt ≤ n.toInt) : ¬ i < 0 ∧ i < n := by
  simp only [Int32.lt_iff_toInt_lt, show (0 : Int32).toInt = 0 from rfl]; omega
theorem own_av1 {i e : Int32} (h1 : 0 ≤ i.toInt) (h2 : i < e) (h3 : e.toInt ≤ 5) : ¬ (e - i) < 1 := by
  rw [Int32.lt_iff_toInt_lt] at h2 ⊢
  rw [own_sub h1 (by omega) (by omega) h3, show (1 : Int32).toInt = 1 from rfl]; omega
set_option maxHeartbeats 4000000 in
theorem own_clr (d c1 c2 c3 av : Int32) : own_cl d c1 c2 c3 av = 0 ∨ own_cl d c1 c2 c3 av = 1 ∨ own_cl d c1 c2 c3 av = 2 ∨ own_cl d c1 c2 c3 av = 3 ∨ own_cl d c1 c2 c3 av = 4 := by
  unfold own_cl; repeat' split
  all_goals simp
theorem own_clt (d c1 c2 c3 av : Int32) : 0 ≤ (own_cl d c1 c2 c3 av).toInt ∧ (own_cl d c1 c2 c3 av).toInt ≤ 4 := by
  rcases own_clr d c1 c2 c3 av with h | h | h | h | h <;> rw [h] <;> decide
theorem d1_0 : decode prog_107_method_2_code 0 = .ok (.iload_n 1, 1) := by decide +kernel
theorem d1_1 : decode prog_107_method_2_code 1 = .ok (.istore_n 3, 1) := by decide +kernel
theorem d1_2 : decode prog_107_method_2_code 2 = .ok (.iconst 1, 1) := by decide +kernel
theorem d1_3 : decode prog_107_method_2_code 3 = .ok (.istore 4, 2) := by decide +kernel
theorem d1_5 : decode prog_107_method_2_code 5 = .ok (.iload 4, 2) := by decide +kernel
theorem d1_7 : decode prog_107_method_2_code 7 = .ok (.ifCond .eq 298, 3) := by decide +kernel
theorem d1_10 : decode prog_107_method_2_code 10 = .ok (.iload_n 3, 1) := by decide +kernel
theorem d1_11 : decode prog_107_method_2_code 11 = .ok (.iload_n 2, 1) := by decide +kernel
theorem d1_12 : decode prog_107_method_2_code 12 = .ok (.if_icmp .ge 293, 3) := by decide +kernel
theorem d1_15 : decode prog_107_method_2_code 15 = .ok (.aload_n 0, 1) := by decide +kernel
theorem d1_16 : decode prog_107_method_2_code 16 = .ok (.iload_n 3, 1) := by decide +kernel
theorem d1_17 : decode prog_107_method_2_code 17 = .ok (.baload, 1) := by decide +kernel
theorem d1_18 : decode prog_107_method_2_code 18 = .ok (.sipush 255, 3) := by decide +kernel
theorem d1_21 : decode prog_107_method_2_code 21 = .ok (.iand, 1) := by decide +kernel
theorem d1_22 : decode prog_107_method_2_code 22 = .ok (.istore 5, 2) := by decide +kernel
theorem d1_24 : decode prog_107_method_2_code 24 = .ok (.sipush 128, 3) := by decide +kernel
theorem d1_27 : decode prog_107_method_2_code 27 = .ok (.istore 7, 2) := by decide +kernel
theorem d1_29 : decode prog_107_method_2_code 29 = .ok (.sipush 191, 3) := by decide +kernel
theorem d1_32 : decode prog_107_method_2_code 32 = .ok (.istore 8, 2) := by decide +kernel
theorem d1_34 : decode prog_107_method_2_code 34 = .ok (.iload 5, 2) := by decide +kernel
theorem d1_36 : decode prog_107_method_2_code 36 = .ok (.sipush 128, 3) := by decide +kernel
theorem d1_39 : decode prog_107_method_2_code 39 = .ok (.if_icmp .ge 9, 3) := by decide +kernel
theorem d1_42 : decode prog_107_method_2_code 42 = .ok (.iconst 1, 1) := by decide +kernel
theorem d1_43 : decode prog_107_method_2_code 43 = .ok (.istore 6, 2) := by decide +kernel
theorem d1_45 : decode prog_107_method_2_code 45 = .ok (.goto 148, 3) := by decide +kernel
theorem d1_48 : decode prog_107_method_2_code 48 = .ok (.iload 5, 2) := by decide +kernel
theorem d1_50 : decode prog_107_method_2_code 50 = .ok (.sipush 194, 3) := by decide +kernel
theorem d1_53 : decode prog_107_method_2_code 53 = .ok (.if_icmp .lt 17, 3) := by decide +kernel
theorem d1_56 : decode prog_107_method_2_code 56 = .ok (.iload 5, 2) := by decide +kernel
theorem d1_58 : decode prog_107_method_2_code 58 = .ok (.sipush 223, 3) := by decide +kernel
theorem d1_61 : decode prog_107_method_2_code 61 = .ok (.if_icmp .gt 9, 3) := by decide +kernel
theorem d1_64 : decode prog_107_method_2_code 64 = .ok (.iconst 2, 1) := by decide +kernel
theorem d1_65 : decode prog_107_method_2_code 65 = .ok (.istore 6, 2) := by decide +kernel
theorem d1_67 : decode prog_107_method_2_code 67 = .ok (.goto 126, 3) := by decide +kernel
theorem d1_70 : decode prog_107_method_2_code 70 = .ok (.iload 5, 2) := by decide +kernel
theorem d1_72 : decode prog_107_method_2_code 72 = .ok (.sipush 224, 3) := by decide +kernel
theorem d1_75 : decode prog_107_method_2_code 75 = .ok (.if_icmp .lt 55, 3) := by decide +kernel
theorem d1_78 : decode prog_107_method_2_code 78 = .ok (.iload 5, 2) := by decide +kernel
theorem d1_80 : decode prog_107_method_2_code 80 = .ok (.sipush 239, 3) := by decide +kernel
theorem d1_83 : decode prog_107_method_2_code 83 = .ok (.if_icmp .gt 47, 3) := by decide +kernel
theorem d1_86 : decode prog_107_method_2_code 86 = .ok (.iconst 3, 1) := by decide +kernel
theorem d1_87 : decode prog_107_method_2_code 87 = .ok (.istore 6, 2) := by decide +kernel
theorem d1_89 : decode prog_107_method_2_code 89 = .ok (.iload 5, 2) := by decide +kernel
theorem d1_91 : decode prog_107_method_2_code 91 = .ok (.sipush 224, 3) := by decide +kernel
theorem d1_94 : decode prog_107_method_2_code 94 = .ok (.if_icmp .ne 9, 3) := by decide +kernel
theorem d1_97 : decode prog_107_method_2_code 97 = .ok (.sipush 160, 3) := by decide +kernel
theorem d1_100 : decode prog_107_method_2_code 100 = .ok (.goto 6, 3) := by decide +kernel
theorem d1_103 : decode prog_107_method_2_code 103 = .ok (.sipush 128, 3) := by decide +kernel
theorem d1_106 : decode prog_107_method_2_code 106 = .ok (.istore 7, 2) := by decide +kernel
theorem d1_108 : decode prog_107_method_2_code 108 = .ok (.iload 5, 2) := by decide +kernel
theorem d1_110 : decode prog_107_method_2_code 110 = .ok (.sipush 237, 3) := by decide +kernel
theorem d1_113 : decode prog_107_method_2_code 113 = .ok (.if_icmp .ne 9, 3) := by decide +kernel
theorem d1_116 : decode prog_107_method_2_code 116 = .ok (.sipush 159, 3) := by decide +kernel
theorem d1_119 : decode prog_107_method_2_code 119 = .ok (.goto 6, 3) := by decide +kernel
theorem d1_122 : decode prog_107_method_2_code 122 = .ok (.sipush 191, 3) := by decide +kernel
theorem d1_125 : decode prog_107_method_2_code 125 = .ok (.istore 8, 2) := by decide +kernel
theorem d1_127 : decode prog_107_method_2_code 127 = .ok (.goto 66, 3) := by decide +kernel
theorem d1_130 : decode prog_107_method_2_code 130 = .ok (.iload 5, 2) := by decide +kernel
theorem d1_132 : decode prog_107_method_2_code 132 = .ok (.sipush 240, 3) := by decide +kernel
theorem d1_135 : decode prog_107_method_2_code 135 = .ok (.if_icmp .lt 55, 3) := by decide +kernel
theorem d1_138 : decode prog_107_method_2_code 138 = .ok (.iload 5, 2) := by decide +kernel
theorem d1_140 : decode prog_107_method_2_code 140 = .ok (.sipush 244, 3) := by decide +kernel
theorem d1_143 : decode prog_107_method_2_code 143 = .ok (.if_icmp .gt 47, 3) := by decide +kernel
theorem d1_146 : decode prog_107_method_2_code 146 = .ok (.iconst 4, 1) := by decide +kernel
theorem d1_147 : decode prog_107_method_2_code 147 = .ok (.istore 6, 2) := by decide +kernel
theorem d1_149 : decode prog_107_method_2_code 149 = .ok (.iload 5, 2) := by decide +kernel
theorem d1_151 : decode prog_107_method_2_code 151 = .ok (.sipush 240, 3) := by decide +kernel
theorem d1_154 : decode prog_107_method_2_code 154 = .ok (.if_icmp .ne 9, 3) := by decide +kernel
theorem d1_157 : decode prog_107_method_2_code 157 = .ok (.sipush 144, 3) := by decide +kernel
theorem d1_160 : decode prog_107_method_2_code 160 = .ok (.goto 6, 3) := by decide +kernel
theorem d1_163 : decode prog_107_method_2_code 163 = .ok (.sipush 128, 3) := by decide +kernel
theorem d1_166 : decode prog_107_method_2_code 166 = .ok (.istore 7, 2) := by decide +kernel
theorem d1_168 : decode prog_107_method_2_code 168 = .ok (.iload 5, 2) := by decide +kernel
theorem d1_170 : decode prog_107_method_2_code 170 = .ok (.sipush 244, 3) := by decide +kernel
theorem d1_173 : decode prog_107_method_2_code 173 = .ok (.if_icmp .ne 9, 3) := by decide +kernel
theorem d1_176 : decode prog_107_method_2_code 176 = .ok (.sipush 143, 3) := by decide +kernel
theorem d1_179 : decode prog_107_method_2_code 179 = .ok (.goto 6, 3) := by decide +kernel
theorem d1_182 : decode prog_107_method_2_code 182 = .ok (.sipush 191, 3) := by decide +kernel
theorem d1_185 : decode prog_107_method_2_code 185 = .ok (.istore 8, 2) := by decide +kernel
theorem d1_187 : decode prog_107_method_2_code 187 = .ok (.goto 6, 3) := by decide +kernel
theorem d1_190 : decode prog_107_method_2_code 190 = .ok (.iconst 0, 1) := by decide +kernel
theorem d1_191 : decode prog_107_method_2_code 191 = .ok (.istore 6, 2) := by decide +kernel
theorem d1_193 : decode prog_107_method_2_code 193 = .ok (.iload 6, 2) := by decide +kernel
theorem d1_195 : decode prog_107_method_2_code 195 = .ok (.ifCond .le 15, 3) := by decide +kernel
theorem d1_198 : decode prog_107_method_2_code 198 = .ok (.iload_n 2, 1) := by decide +kernel
theorem d1_199 : decode prog_107_method_2_code 199 = .ok (.iload_n 3, 1) := by decide +kernel
theorem d1_200 : decode prog_107_method_2_code 200 = .ok (.isub, 1) := by decide +kernel
theorem d1_201 : decode prog_107_method_2_code 201 = .ok (.iload 6, 2) := by decide +kernel
theorem d1_203 : decode prog_107_method_2_code 203 = .ok (.if_icmp .lt 7, 3) := by decide +kernel
theorem d1_206 : decode prog_107_method_2_code 206 = .ok (.iconst 1, 1) := by decide +kernel
theorem d1_207 : decode prog_107_method_2_code 207 = .ok (.goto 4, 3) := by decide +kernel
theorem d1_210 : decode prog_107_method_2_code 210 = .ok (.iconst 0, 1) := by decide +kernel
theorem d1_211 : decode prog_107_method_2_code 211 = .ok (.istore 4, 2) := by decide +kernel
theorem d1_213 : decode prog_107_method_2_code 213 = .ok (.iconst 1, 1) := by decide +kernel
theorem d1_214 : decode prog_107_method_2_code 214 = .ok (.istore 9, 2) := by decide +kernel
theorem d1_216 : decode prog_107_method_2_code 216 = .ok (.iload 4, 2) := by decide +kernel
theorem d1_218 : decode prog_107_method_2_code 218 = .ok (.ifCond .eq 79, 3) := by decide +kernel
theorem d1_221 : decode prog_107_method_2_code 221 = .ok (.iload 9, 2) := by decide +kernel
theorem d1_223 : decode prog_107_method_2_code 223 = .ok (.iload 6, 2) := by decide +kernel
theorem d1_225 : decode prog_107_method_2_code 225 = .ok (.if_icmp .ge 72, 3) := by decide +kernel
theorem d1_228 : decode prog_107_method_2_code 228 = .ok (.aload_n 0, 1) := by decide +kernel
theorem d1_229 : decode prog_107_method_2_code 229 = .ok (.iload_n 3, 1) := by decide +kernel
theorem d1_230 : decode prog_107_method_2_code 230 = .ok (.iload 9, 2) := by decide +kernel
theorem d1_232 : decode prog_107_method_2_code 232 = .ok (.iadd, 1) := by decide +kernel
theorem d1_233 : decode prog_107_method_2_code 233 = .ok (.baload, 1) := by decide +kernel
theorem d1_234 : decode prog_107_method_2_code 234 = .ok (.sipush 255, 3) := by decide +kernel
theorem d1_237 : decode prog_107_method_2_code 237 = .ok (.iand, 1) := by decide +kernel
theorem d1_238 : decode prog_107_method_2_code 238 = .ok (.istore 10, 2) := by decide +kernel
theorem d1_240 : decode prog_107_method_2_code 240 = .ok (.iload 9, 2) := by decide +kernel
theorem d1_242 : decode prog_107_method_2_code 242 = .ok (.iconst 1, 1) := by decide +kernel
theorem d1_243 : decode prog_107_method_2_code 243 = .ok (.if_icmp .ne 25, 3) := by decide +kernel
theorem d1_246 : decode prog_107_method_2_code 246 = .ok (.iload 10, 2) := by decide +kernel
theorem d1_248 : decode prog_107_method_2_code 248 = .ok (.iload 7, 2) := by decide +kernel
theorem d1_250 : decode prog_107_method_2_code 250 = .ok (.if_icmp .lt 14, 3) := by decide +kernel
theorem d1_253 : decode prog_107_method_2_code 253 = .ok (.iload 10, 2) := by decide +kernel
theorem d1_255 : decode prog_107_method_2_code 255 = .ok (.iload 8, 2) := by decide +kernel
theorem d1_257 : decode prog_107_method_2_code 257 = .ok (.if_icmp .gt 7, 3) := by decide +kernel
theorem d1_260 : decode prog_107_method_2_code 260 = .ok (.iconst 1, 1) := by decide +kernel
theorem d1_261 : decode prog_107_method_2_code 261 = .ok (.goto 28, 3) := by decide +kernel
theorem d1_264 : decode prog_107_method_2_code 264 = .ok (.iconst 0, 1) := by decide +kernel
theorem d1_265 : decode prog_107_method_2_code 265 = .ok (.goto 24, 3) := by decide +kernel
theorem d1_268 : decode prog_107_method_2_code 268 = .ok (.iload 10, 2) := by decide +kernel
theorem d1_270 : decode prog_107_method_2_code 270 = .ok (.sipush 128, 3) := by decide +kernel
theorem d1_273 : decode prog_107_method_2_code 273 = .ok (.if_icmp .lt 15, 3) := by decide +kernel
theorem d1_276 : decode prog_107_method_2_code 276 = .ok (.iload 10, 2) := by decide +kernel
theorem d1_278 : decode prog_107_method_2_code 278 = .ok (.sipush 191, 3) := by decide +kernel
theorem d1_281 : decode prog_107_method_2_code 281 = .ok (.if_icmp .gt 7, 3) := by decide +kernel
theorem d1_284 : decode prog_107_method_2_code 284 = .ok (.iconst 1, 1) := by decide +kernel
theorem d1_285 : decode prog_107_method_2_code 285 = .ok (.goto 4, 3) := by decide +kernel
theorem d1_288 : decode prog_107_method_2_code 288 = .ok (.iconst 0, 1) := by decide +kernel
theorem d1_289 : decode prog_107_method_2_code 289 = .ok (.istore 4, 2) := by decide +kernel
theorem d1_291 : decode prog_107_method_2_code 291 = .ok (.iinc 9 1, 3) := by decide +kernel
theorem d1_294 : decode prog_107_method_2_code 294 = .ok (.goto (-78), 3) := by decide +kernel
theorem d1_297 : decode prog_107_method_2_code 297 = .ok (.iload_n 3, 1) := by decide +kernel
theorem d1_298 : decode prog_107_method_2_code 298 = .ok (.iload 6, 2) := by decide +kernel
theorem d1_300 : decode prog_107_method_2_code 300 = .ok (.iadd, 1) := by decide +kernel
theorem d1_301 : decode prog_107_method_2_code 301 = .ok (.istore_n 3, 1) := by decide +kernel
theorem d1_302 : decode prog_107_method_2_code 302 = .ok (.goto (-297), 3) := by decide +kernel
theorem d1_305 : decode prog_107_method_2_code 305 = .ok (.iload 4, 2) := by decide +kernel
theorem d1_307 : decode prog_107_method_2_code 307 = .ok (.ireturn, 1) := by decide +kernel
theorem pn_rm1 : plainFor (⟨"com/example/tidewater_cube/tidewatercube/source/Utf8", "isValid", "([BII)Z"⟩ : MethodName) = true := by decide +kernel
theorem ef_rm1 (m : MethodId) (x0 : Addr) (x1 : Int32) (x2 : Int32) : entryFrame m #[(.ref x0), (.int x1), (.int x2)] 11 = mkF m 0 #[.val (.ref x0), .val (.int x1), .val (.int x2), .unset, .unset, .unset, .unset, .unset, .unset, .unset, .unset] [] := by first | (simp [entryFrame, mkF, argsToLocals, Value.category]; done) | rfl
set_option maxRecDepth 65536 in
set_option maxHeartbeats 40000000 in
theorem rm1 (l : Launch) (Z : State) (a0 : Array Value) (hw : ∀ d ∈ tables_1, d.before a0 Z = true) (ba : Addr) (en : Int32) (cl0 : Cell) (B : Int32 → Int32) (h0 : Heap) (he : 1 ≤ en.toInt ∧ en.toInt ≤ 5) (Ar0 : Arr Z h0 ba cl0 .byte) (S0 : cl0.slots.size = (6 : Int32).toNatClampNeg) (hB : ∀ j : Int32, ¬ j < 0 → j < 6 → cl0.slots[j.toNatClampNeg]? = some (.int (B j))) :
    own_Met l Z (⟨"com/example/tidewater_cube/tidewatercube/source/Utf8", "isValid", "([BII)Z"⟩ : MethodName) prog_107_method_2_code 11 (some .boolean) [] ({ frames := 0, cells := 0, slots := 0, locals := 0 } : Room) #[(.ref ba), (.int (1 : Int32)), (.int en)] h0 (fun v h L => v = some (.int (own_vr B en 4 1)) ∧ L = [] ∧ h = h0) := by
  refine own_body pn_rm1 ?_
  intro p e s m below meth c s₁ hx hby hml hown hnm hret hlk hZ X0 e0 G hG
  replace hml : c.maxLocals = 11 := hml
  replace hown : s.vm.findClass "com/example/tidewater_cube/tidewatercube/source/Utf8" = some m.cls := hown
  rw [ef_rm1]
  show own_Go p e below G (s₁.setTop (mkF m 0 #[.val (.ref ba), .val (.int (1 : Int32)), .val (.int en), .unset, .unset, .unset, .unset, .unset, .unset, .unset, .unset] []))
  refine own_st (fun t k => XS.iloadN X0.here hx rfl (hb hby d1_0) rfl  k) ?_
  show own_Go p e below G (s₁.setTop (mkF m 1 #[.val (.ref ba), .val (.int (1 : Int32)), .val (.int en), .unset, .unset, .unset, .unset, .unset, .unset, .unset, .unset] [(.int (1 : Int32))]))
  refine own_st (fun t k => XS.istoreN X0.here hx rfl (hb hby d1_1) rfl (l' := #[.val (.ref ba), .val (.int (1 : Int32)), .val (.int en), .val (.int (1 : Int32)), .unset, .unset, .unset, .unset, .unset, .unset, .unset]) rfl k) ?_
  show own_Go p e below G (s₁.setTop (mkF m 2 #[.val (.ref ba), .val (.int (1 : Int32)), .val (.int en), .val (.int (1 : Int32)), .unset, .unset, .unset, .unset, .unset, .unset, .unset] []))
  refine own_st (fun t k => XS.iconst X0.here hx rfl (hb hby d1_2) k) ?_
  show own_Go p e below G (s₁.setTop (mkF m 3 #[.val (.ref ba), .val (.int (1 : Int32)), .val (.int en), .val (.int (1 : Int32)), .unset, .unset, .unset, .unset, .unset, .unset, .unset] [(.int (1 : Int32))]))
  refine own_st (fun t k => XS.istore X0.here hx rfl (hb hby d1_3) rfl (l' := #[.val (.ref ba), .val (.int (1 : Int32)), .val (.int en), .val (.int (1 : Int32)), .val (.int (1 : Int32)), .unset, .unset, .unset, .unset, .unset, .unset]) rfl k) ?_
  show own_Go p e below G (s₁.setTop (mkF m 5 #[.val (.ref ba), .val (.int (1 : Int32)), .val (.int en), .val (.int (1 : Int32)), .val (.int (1 : Int32)), .unset, .unset, .unset, .unset, .unset, .unset] []))
  have loop : ∀ (k : Nat) (i0 : Int32) (s5 s6 s7 s8 s9 s10 : Slot), One s5 → One s6 → One s7 → One s8 → One s9 → One s10 → 0 ≤ i0.toInt → i0.toInt ≤ en.toInt → en.toInt - i0.toInt ≤ k → own_vr B en 4 1 = own_vr B en k i0 → own_Go p e below G (s₁.setTop (mkF m 5 #[.val (.ref ba), .val (.int (1 : Int32)), .val (.int en), .val (.int i0), .val (.int (1 : Int32)), s5, s6, s7, s8, s9, s10] [])) := by
    intro k
    induction k with
    | zero =>
      intro i0 s5 s6 s7 s8 s9 s10 hs5 hs6 hs7 hs8 hs9 hs10 hi0 hi1 hk heq
      have hex : ¬ i0 < en := by rw [Int32.lt_iff_toInt_lt]; omega
      refine own_st (fun t k => XS.iload X0.here hx rfl (hb hby d1_5) rfl  k) ?_
      show own_Go p e below G (s₁.setTop (mkF m 7 #[.val (.ref ba), .val (.int (1 : Int32)), .val (.int en), .val (.int i0), .val (.int (1 : Int32)), s5, s6, s7, s8, s9, s10] [(.int (1 : Int32))]))
      refine own_st (fun t k => XS.ifNo X0.here hx rfl (hb hby d1_7) rfl ((if0 _ _).trans (feq (by decide)).1) k) ?_
      show own_Go p e below G (s₁.setTop (mkF m 10 #[.val (.ref ba), .val (.int (1 : Int32)), .val (.int en), .val (.int i0), .val (.int (1 : Int32)), s5, s6, s7, s8, s9, s10] []))
      refine own_st (fun t k => XS.iloadN X0.here hx rfl (hb hby d1_10) rfl  k) ?_
      show own_Go p e below G (s₁.setTop (mkF m 11 #[.val (.ref ba), .val (.int (1 : Int32)), .val (.int en), .val (.int i0), .val (.int (1 : Int32)), s5, s6, s7, s8, s9, s10] [(.int i0)]))
      refine own_st (fun t k => XS.iloadN X0.here hx rfl (hb hby d1_11) rfl  k) ?_
      show own_Go p e below G (s₁.setTop (mkF m 12 #[.val (.ref ba), .val (.int (1 : Int32)), .val (.int en), .val (.int i0), .val (.int (1 : Int32)), s5, s6, s7, s8, s9, s10] [(.int en), (.int i0)]))
      refine own_st (fun t k => XS.icmpYes X0.here hx rfl (pc0 := 12) (pc' := 305) rfl (hb hby d1_12) rfl (flt hex).2.1 (by decide) (by decide) k) ?_
      show own_Go p e below G (s₁.setTop (mkF m 305 #[.val (.ref ba), .val (.int (1 : Int32)), .val (.int en), .val (.int i0), .val (.int (1 : Int32)), s5, s6, s7, s8, s9, s10] []))
      refine own_st (fun t k => XS.iload X0.here hx rfl (hb hby d1_305) rfl  k) ?_
      show own_Go p e below G (s₁.setTop (mkF m 307 #[.val (.ref ba), .val (.int (1 : Int32)), .val (.int en), .val (.int i0), .val (.int (1 : Int32)), s5, s6, s7, s8, s9, s10] [(.int (1 : Int32))]))
      rw [hG]
      exact own_retZ X0 hx hlk (t := .boolean) hret (by simp) (hb hby d1_307) ⟨congrArg (fun z => some (Value.int z)) (show (1 : Int32) = own_vr B en 4 1 from (heq.trans (own_vrE hex _)).symm), rfl, e0⟩ (by decide) (by decide)
    | succ k ih =>
      intro i0 s5 s6 s7 s8 s9 s10 hs5 hs6 hs7 hs8 hs9 hs10 hi0 hi1 hk heq
      refine own_st (fun t k => XS.iload X0.here hx rfl (hb hby d1_5) rfl  k) ?_
      show own_Go p e below G (s₁.setTop (mkF m 7 #[.val (.ref ba), .val (.int (1 : Int32)), .val (.int en), .val (.int i0), .val (.int (1 : Int32)), s5, s6, s7, s8, s9, s10] [(.int (1 : Int32))]))
      refine own_st (fun t k => XS.ifNo X0.here hx rfl (hb hby d1_7) rfl ((if0 _ _).trans (feq (by decide)).1) k) ?_
      show own_Go p e below G (s₁.setTop (mkF m 10 #[.val (.ref ba), .val (.int (1 : Int32)), .val (.int en), .val (.int i0), .val (.int (1 : Int32)), s5, s6, s7, s8, s9, s10] []))
      refine own_st (fun t k => XS.iloadN X0.here hx rfl (hb hby d1_10) rfl  k) ?_
      show own_Go p e below G (s₁.setTop (mkF m 11 #[.val (.ref ba), .val (.int (1 : Int32)), .val (.int en), .val (.int i0), .val (.int (1 : Int32)), s5, s6, s7, s8, s9, s10] [(.int i0)]))
      refine own_st (fun t k => XS.iloadN X0.here hx rfl (hb hby d1_11) rfl  k) ?_
      show own_Go p e below G (s₁.setTop (mkF m 12 #[.val (.ref ba), .val (.int (1 : Int32)), .val (.int en), .val (.int i0), .val (.int (1 : Int32)), s5, s6, s7, s8, s9, s10] [(.int en), (.int i0)]))
      by_cases c12_1 : i0 < en
      · skip
        refine own_st (fun t k => XS.icmpNo X0.here hx rfl (hb hby d1_12) rfl (tlt c12_1).2.1 k) ?_
        show own_Go p e below G (s₁.setTop (mkF m 15 #[.val (.ref ba), .val (.int (1 : Int32)), .val (.int en), .val (.int i0), .val (.int (1 : Int32)), s5, s6, s7, s8, s9, s10] []))
        have bad211 : ∀ (l6 : Int32) (s5 s7 s8 s9 s10 : Slot) (hs9 : One s9) (hl : own_vl (B i0 &&& 255) (B (i0 + 1) &&& 255) (B (i0 + 2) &&& 255) (B (i0 + 3) &&& 255) (en - i0) = 0), own_Go p e below G (s₁.setTop (mkF m 211 #[.val (.ref ba), .val (.int (1 : Int32)), .val (.int en), .val (.int i0), .val (.int (1 : Int32)), s5, .val (.int l6), s7, s8, s9, s10] [(.int (0 : Int32))])) := by
          intro l6 s5 s7 s8 s9 s10 hs9 hl
          refine own_st (fun t k => XS.istore X0.here hx rfl (hb hby d1_211) rfl (l' := #[.val (.ref ba), .val (.int (1 : Int32)), .val (.int en), .val (.int i0), .val (.int (0 : Int32)), s5, .val (.int l6), s7, s8, s9, s10]) rfl k) ?_
          show own_Go p e below G (s₁.setTop (mkF m 213 #[.val (.ref ba), .val (.int (1 : Int32)), .val (.int en), .val (.int i0), .val (.int (0 : Int32)), s5, .val (.int l6), s7, s8, s9, s10] []))
          refine own_st (fun t k => XS.iconst X0.here hx rfl (hb hby d1_213) k) ?_
          show own_Go p e below G (s₁.setTop (mkF m 214 #[.val (.ref ba), .val (.int (1 : Int32)), .val (.int en), .val (.int i0), .val (.int (0 : Int32)), s5, .val (.int l6), s7, s8, s9, s10] [(.int (1 : Int32))]))
          refine own_st (fun t k => XS.istore X0.here hx rfl (hb hby d1_214) rfl (l' := #[.val (.ref ba), .val (.int (1 : Int32)), .val (.int en), .val (.int i0), .val (.int (0 : Int32)), s5, .val (.int l6), s7, s8, .val (.int (1 : Int32)), s10]) (XS.store1 rfl hs9 rfl) k) ?_
          show own_Go p e below G (s₁.setTop (mkF m 216 #[.val (.ref ba), .val (.int (1 : Int32)), .val (.int en), .val (.int i0), .val (.int (0 : Int32)), s5, .val (.int l6), s7, s8, .val (.int (1 : Int32)), s10] []))
          refine own_st (fun t k => XS.iload X0.here hx rfl (hb hby d1_216) rfl  k) ?_
          show own_Go p e below G (s₁.setTop (mkF m 218 #[.val (.ref ba), .val (.int (1 : Int32)), .val (.int en), .val (.int i0), .val (.int (0 : Int32)), s5, .val (.int l6), s7, s8, .val (.int (1 : Int32)), s10] [(.int (0 : Int32))]))
          refine own_st (fun t k => XS.ifYes X0.here hx rfl (pc0 := 218) (pc' := 297) rfl (hb hby d1_218) rfl ((if0 _ _).trans (teq (by decide)).1) (by decide) (by decide) k) ?_
          show own_Go p e below G (s₁.setTop (mkF m 297 #[.val (.ref ba), .val (.int (1 : Int32)), .val (.int en), .val (.int i0), .val (.int (0 : Int32)), s5, .val (.int l6), s7, s8, .val (.int (1 : Int32)), s10] []))
          refine own_st (fun t k => XS.iloadN X0.here hx rfl (hb hby d1_297) rfl  k) ?_
          show own_Go p e below G (s₁.setTop (mkF m 298 #[.val (.ref ba), .val (.int (1 : Int32)), .val (.int en), .val (.int i0), .val (.int (0 : Int32)), s5, .val (.int l6), s7, s8, .val (.int (1 : Int32)), s10] [(.int i0)]))
          refine own_st (fun t k => XS.iload X0.here hx rfl (hb hby d1_298) rfl  k) ?_
          show own_Go p e below G (s₁.setTop (mkF m 300 #[.val (.ref ba), .val (.int (1 : Int32)), .val (.int en), .val (.int i0), .val (.int (0 : Int32)), s5, .val (.int l6), s7, s8, .val (.int (1 : Int32)), s10] [(.int l6), (.int i0)]))
          refine own_st (fun t k => XS.iadd X0.here hx rfl (hb hby d1_300) rfl k) ?_
          show own_Go p e below G (s₁.setTop (mkF m 301 #[.val (.ref ba), .val (.int (1 : Int32)), .val (.int en), .val (.int i0), .val (.int (0 : Int32)), s5, .val (.int l6), s7, s8, .val (.int (1 : Int32)), s10] [(.int (i0 + l6))]))
          refine own_st (fun t k => XS.istoreN X0.here hx rfl (hb hby d1_301) rfl (l' := #[.val (.ref ba), .val (.int (1 : Int32)), .val (.int en), .val (.int (i0 + l6)), .val (.int (0 : Int32)), s5, .val (.int l6), s7, s8, .val (.int (1 : Int32)), s10]) rfl k) ?_
          show own_Go p e below G (s₁.setTop (mkF m 302 #[.val (.ref ba), .val (.int (1 : Int32)), .val (.int en), .val (.int (i0 + l6)), .val (.int (0 : Int32)), s5, .val (.int l6), s7, s8, .val (.int (1 : Int32)), s10] []))
          refine own_st (fun t k => XS.goto X0.here hx rfl (pc0 := 302) (pc' := 5) rfl (hb hby d1_302) (by decide) (by decide) k) ?_
          show own_Go p e below G (s₁.setTop (mkF m 5 #[.val (.ref ba), .val (.int (1 : Int32)), .val (.int en), .val (.int (i0 + l6)), .val (.int (0 : Int32)), s5, .val (.int l6), s7, s8, .val (.int (1 : Int32)), s10] []))
          refine own_st (fun t k => XS.iload X0.here hx rfl (hb hby d1_5) rfl  k) ?_
          show own_Go p e below G (s₁.setTop (mkF m 7 #[.val (.ref ba), .val (.int (1 : Int32)), .val (.int en), .val (.int (i0 + l6)), .val (.int (0 : Int32)), s5, .val (.int l6), s7, s8, .val (.int (1 : Int32)), s10] [(.int (0 : Int32))]))
          refine own_st (fun t k => XS.ifYes X0.here hx rfl (pc0 := 7) (pc' := 305) rfl (hb hby d1_7) rfl ((if0 _ _).trans (teq (by decide)).1) (by decide) (by decide) k) ?_
          show own_Go p e below G (s₁.setTop (mkF m 305 #[.val (.ref ba), .val (.int (1 : Int32)), .val (.int en), .val (.int (i0 + l6)), .val (.int (0 : Int32)), s5, .val (.int l6), s7, s8, .val (.int (1 : Int32)), s10] []))
          refine own_st (fun t k => XS.iload X0.here hx rfl (hb hby d1_305) rfl  k) ?_
          show own_Go p e below G (s₁.setTop (mkF m 307 #[.val (.ref ba), .val (.int (1 : Int32)), .val (.int en), .val (.int (i0 + l6)), .val (.int (0 : Int32)), s5, .val (.int l6), s7, s8, .val (.int (1 : Int32)), s10] [(.int (0 : Int32))]))
          rw [hG]
          exact own_retZ X0 hx hlk (t := .boolean) hret (by simp) (hb hby d1_307) ⟨congrArg (fun z => some (Value.int z)) (show (0 : Int32) = own_vr B en 4 1 from (heq.trans (own_vr0 c12_1 hl)).symm), rfl, e0⟩ (by decide) (by decide)
        have bad289 : ∀ (l6 j9 : Int32) (s5 s7 s8 s10 : Slot) (hl : own_vl (B i0 &&& 255) (B (i0 + 1) &&& 255) (B (i0 + 2) &&& 255) (B (i0 + 3) &&& 255) (en - i0) = 0), own_Go p e below G (s₁.setTop (mkF m 289 #[.val (.ref ba), .val (.int (1 : Int32)), .val (.int en), .val (.int i0), .val (.int (1 : Int32)), s5, .val (.int l6), s7, s8, .val (.int j9), s10] [(.int (0 : Int32))])) := by
          intro l6 j9 s5 s7 s8 s10 hl
          refine own_st (fun t k => XS.istore X0.here hx rfl (hb hby d1_289) rfl (l' := #[.val (.ref ba), .val (.int (1 : Int32)), .val (.int en), .val (.int i0), .val (.int (0 : Int32)), s5, .val (.int l6), s7, s8, .val (.int j9), s10]) rfl k) ?_
          show own_Go p e below G (s₁.setTop (mkF m 291 #[.val (.ref ba), .val (.int (1 : Int32)), .val (.int en), .val (.int i0), .val (.int (0 : Int32)), s5, .val (.int l6), s7, s8, .val (.int j9), s10] []))
          refine own_st (fun t k => XS.iinc X0.here hx rfl (hb hby d1_291) rfl (l' := #[.val (.ref ba), .val (.int (1 : Int32)), .val (.int en), .val (.int i0), .val (.int (0 : Int32)), s5, .val (.int l6), s7, s8, .val (.int (j9 + (1 : Int32))), s10]) rfl k) ?_
          show own_Go p e below G (s₁.setTop (mkF m 294 #[.val (.ref ba), .val (.int (1 : Int32)), .val (.int en), .val (.int i0), .val (.int (0 : Int32)), s5, .val (.int l6), s7, s8, .val (.int (j9 + (1 : Int32))), s10] []))
          refine own_st (fun t k => XS.goto X0.here hx rfl (pc0 := 294) (pc' := 216) rfl (hb hby d1_294) (by decide) (by decide) k) ?_
          show own_Go p e below G (s₁.setTop (mkF m 216 #[.val (.ref ba), .val (.int (1 : Int32)), .val (.int en), .val (.int i0), .val (.int (0 : Int32)), s5, .val (.int l6), s7, s8, .val (.int (j9 + (1 : Int32))), s10] []))
          refine own_st (fun t k => XS.iload X0.here hx rfl (hb hby d1_216) rfl  k) ?_
          show own_Go p e below G (s₁.setTop (mkF m 218 #[.val (.ref ba), .val (.int (1 : Int32)), .val (.int en), .val (.int i0), .val (.int (0 : Int32)), s5, .val (.int l6), s7, s8, .val (.int (j9 + (1 : Int32))), s10] [(.int (0 : Int32))]))
          refine own_st (fun t k => XS.ifYes X0.here hx rfl (pc0 := 218) (pc' := 297) rfl (hb hby d1_218) rfl ((if0 _ _).trans (teq (by decide)).1) (by decide) (by decide) k) ?_
          show own_Go p e below G (s₁.setTop (mkF m 297 #[.val (.ref ba), .val (.int (1 : Int32)), .val (.int en), .val (.int i0), .val (.int (0 : Int32)), s5, .val (.int l6), s7, s8, .val (.int (j9 + (1 : Int32))), s10] []))
          refine own_st (fun t k => XS.iloadN X0.here hx rfl (hb hby d1_297) rfl  k) ?_
          show own_Go p e below G (s₁.setTop (mkF m 298 #[.val (.ref ba), .val (.int (1 : Int32)), .val (.int en), .val (.int i0), .val (.int (0 : Int32)), s5, .val (.int l6), s7, s8, .val (.int (j9 + (1 : Int32))), s10] [(.int i0)]))
          refine own_st (fun t k => XS.iload X0.here hx rfl (hb hby d1_298) rfl  k) ?_
          show own_Go p e below G (s₁.setTop (mkF m 300 #[.val (.ref ba), .val (.int (1 : Int32)), .val (.int en), .val (.int i0), .val (.int (0 : Int32)), s5, .val (.int l6), s7, s8, .val (.int (j9 + (1 : Int32))), s10] [(.int l6), (.int i0)]))
          refine own_st (fun t k => XS.iadd X0.here hx rfl (hb hby d1_300) rfl k) ?_
          show own_Go p e below G (s₁.setTop (mkF m 301 #[.val (.ref ba), .val (.int (1 : Int32)), .val (.int en), .val (.int i0), .val (.int (0 : Int32)), s5, .val (.int l6), s7, s8, .val (.int (j9 + (1 : Int32))), s10] [(.int (i0 + l6))]))
          refine own_st (fun t k => XS.istoreN X0.here hx rfl (hb hby d1_301) rfl (l' := #[.val (.ref ba), .val (.int (1 : Int32)), .val (.int en), .val (.int (i0 + l6)), .val (.int (0 : Int32)), s5, .val (.int l6), s7, s8, .val (.int (j9 + (1 : Int32))), s10]) rfl k) ?_
          show own_Go p e below G (s₁.setTop (mkF m 302 #[.val (.ref ba), .val (.int (1 : Int32)), .val (.int en), .val (.int (i0 + l6)), .val (.int (0 : Int32)), s5, .val (.int l6), s7, s8, .val (.int (j9 + (1 : Int32))), s10] []))
          refine own_st (fun t k => XS.goto X0.here hx rfl (pc0 := 302) (pc' := 5) rfl (hb hby d1_302) (by decide) (by decide) k) ?_
          show own_Go p e below G (s₁.setTop (mkF m 5 #[.val (.ref ba), .val (.int (1 : Int32)), .val (.int en), .val (.int (i0 + l6)), .val (.int (0 : Int32)), s5, .val (.int l6), s7, s8, .val (.int (j9 + (1 : Int32))), s10] []))
          refine own_st (fun t k => XS.iload X0.here hx rfl (hb hby d1_5) rfl  k) ?_
          show own_Go p e below G (s₁.setTop (mkF m 7 #[.val (.ref ba), .val (.int (1 : Int32)), .val (.int en), .val (.int (i0 + l6)), .val (.int (0 : Int32)), s5, .val (.int l6), s7, s8, .val (.int (j9 + (1 : Int32))), s10] [(.int (0 : Int32))]))
          refine own_st (fun t k => XS.ifYes X0.here hx rfl (pc0 := 7) (pc' := 305) rfl (hb hby d1_7) rfl ((if0 _ _).trans (teq (by decide)).1) (by decide) (by decide) k) ?_
          show own_Go p e below G (s₁.setTop (mkF m 305 #[.val (.ref ba), .val (.int (1 : Int32)), .val (.int en), .val (.int (i0 + l6)), .val (.int (0 : Int32)), s5, .val (.int l6), s7, s8, .val (.int (j9 + (1 : Int32))), s10] []))
          refine own_st (fun t k => XS.iload X0.here hx rfl (hb hby d1_305) rfl  k) ?_
          show own_Go p e below G (s₁.setTop (mkF m 307 #[.val (.ref ba), .val (.int (1 : Int32)), .val (.int en), .val (.int (i0 + l6)), .val (.int (0 : Int32)), s5, .val (.int l6), s7, s8, .val (.int (j9 + (1 : Int32))), s10] [(.int (0 : Int32))]))
          rw [hG]
          exact own_retZ X0 hx hlk (t := .boolean) hret (by simp) (hb hby d1_307) ⟨congrArg (fun z => some (Value.int z)) (show (0 : Int32) = own_vr B en 4 1 from (heq.trans (own_vr0 c12_1 hl)).symm), rfl, e0⟩ (by decide) (by decide)
        refine own_st (fun t k => XS.aloadN X0.here hx rfl (hb hby d1_15) rfl rfl  k) ?_
        show own_Go p e below G (s₁.setTop (mkF m 16 #[.val (.ref ba), .val (.int (1 : Int32)), .val (.int en), .val (.int i0), .val (.int (1 : Int32)), s5, s6, s7, s8, s9, s10] [(.ref ba)]))
        refine own_st (fun t k => XS.iloadN X0.here hx rfl (hb hby d1_16) rfl  k) ?_
        show own_Go p e below G (s₁.setTop (mkF m 17 #[.val (.ref ba), .val (.int (1 : Int32)), .val (.int en), .val (.int i0), .val (.int (1 : Int32)), s5, s6, s7, s8, s9, s10] [(.int i0), (.ref ba)]))
        have hb2 := own_bd (n := 6) (⟨hi0, (Int32.lt_iff_toInt_lt.mp c12_1)⟩) (Int.le_trans he.2 (by decide))
        have hin2 := inb_of S0 hb2
        refine own_st (fun t k => X0.baloadBytes hx (j := i0) (v := (.int (B i0))) (by rw [e0]; exact Ar0.1) (State.isArrayOf_alike hZ.alike Ar0.2.1) Ar0.2.2 hin2 (hB _ hb2.1 hb2.2) (g := (mkF m 17 #[.val (.ref ba), .val (.int (1 : Int32)), .val (.int en), .val (.int i0), .val (.int (1 : Int32)), s5, s6, s7, s8, s9, s10] [(.int i0), (.ref ba)])) rfl rfl (hb hby d1_17) t k) ?_
        show own_Go p e below G (s₁.setTop (mkF m 18 #[.val (.ref ba), .val (.int (1 : Int32)), .val (.int en), .val (.int i0), .val (.int (1 : Int32)), s5, s6, s7, s8, s9, s10] [(.int (B i0))]))
        refine own_st (fun t k => XS.sipush X0.here hx rfl (hb hby d1_18) k) ?_
        show own_Go p e below G (s₁.setTop (mkF m 21 #[.val (.ref ba), .val (.int (1 : Int32)), .val (.int en), .val (.int i0), .val (.int (1 : Int32)), s5, s6, s7, s8, s9, s10] [(.int (255 : Int32)), (.int (B i0))]))
        refine own_st (fun t k => XS.iand X0.here hx rfl (hb hby d1_21) rfl k) ?_
        show own_Go p e below G (s₁.setTop (mkF m 22 #[.val (.ref ba), .val (.int (1 : Int32)), .val (.int en), .val (.int i0), .val (.int (1 : Int32)), s5, s6, s7, s8, s9, s10] [(.int ((B i0) &&& (255 : Int32)))]))
        refine own_st (fun t k => XS.istore X0.here hx rfl (hb hby d1_22) rfl (l' := #[.val (.ref ba), .val (.int (1 : Int32)), .val (.int en), .val (.int i0), .val (.int (1 : Int32)), .val (.int ((B i0) &&& (255 : Int32))), s6, s7, s8, s9, s10]) (XS.store1 rfl hs5 rfl) k) ?_
        show own_Go p e below G (s₁.setTop (mkF m 24 #[.val (.ref ba), .val (.int (1 : Int32)), .val (.int en), .val (.int i0), .val (.int (1 : Int32)), .val (.int ((B i0) &&& (255 : Int32))), s6, s7, s8, s9, s10] []))
        refine own_st (fun t k => XS.sipush X0.here hx rfl (hb hby d1_24) k) ?_
        show own_Go p e below G (s₁.setTop (mkF m 27 #[.val (.ref ba), .val (.int (1 : Int32)), .val (.int en), .val (.int i0), .val (.int (1 : Int32)), .val (.int ((B i0) &&& (255 : Int32))), s6, s7, s8, s9, s10] [(.int (128 : Int32))]))
        refine own_st (fun t k => XS.istore X0.here hx rfl (hb hby d1_27) rfl (l' := #[.val (.ref ba), .val (.int (1 : Int32)), .val (.int en), .val (.int i0), .val (.int (1 : Int32)), .val (.int ((B i0) &&& (255 : Int32))), s6, .val (.int (128 : Int32)), s8, s9, s10]) (XS.store1 rfl hs7 rfl) k) ?_
        show own_Go p e below G (s₁.setTop (mkF m 29 #[.val (.ref ba), .val (.int (1 : Int32)), .val (.int en), .val (.int i0), .val (.int (1 : Int32)), .val (.int ((B i0) &&& (255 : Int32))), s6, .val (.int (128 : Int32)), s8, s9, s10] []))
        refine own_st (fun t k => XS.sipush X0.here hx rfl (hb hby d1_29) k) ?_
        show own_Go p e below G (s₁.setTop (mkF m 32 #[.val (.ref ba), .val (.int (1 : Int32)), .val (.int en), .val (.int i0), .val (.int (1 : Int32)), .val (.int ((B i0) &&& (255 : Int32))), s6, .val (.int (128 : Int32)), s8, s9, s10] [(.int (191 : Int32))]))
        refine own_st (fun t k => XS.istore X0.here hx rfl (hb hby d1_32) rfl (l' := #[.val (.ref ba), .val (.int (1 : Int32)), .val (.int en), .val (.int i0), .val (.int (1 : Int32)), .val (.int ((B i0) &&& (255 : Int32))), s6, .val (.int (128 : Int32)), .val (.int (191 : Int32)), s9, s10]) (XS.store1 rfl hs8 rfl) k) ?_
        show own_Go p e below G (s₁.setTop (mkF m 34 #[.val (.ref ba), .val (.int (1 : Int32)), .val (.int en), .val (.int i0), .val (.int (1 : Int32)), .val (.int ((B i0) &&& (255 : Int32))), s6, .val (.int (128 : Int32)), .val (.int (191 : Int32)), s9, s10] []))
        refine own_st (fun t k => XS.iload X0.here hx rfl (hb hby d1_34) rfl  k) ?_
        show own_Go p e below G (s₁.setTop (mkF m 36 #[.val (.ref ba), .val (.int (1 : Int32)), .val (.int en), .val (.int i0), .val (.int (1 : Int32)), .val (.int ((B i0) &&& (255 : Int32))), s6, .val (.int (128 : Int32)), .val (.int (191 : Int32)), s9, s10] [(.int ((B i0) &&& (255 : Int32)))]))
        refine own_st (fun t k => XS.sipush X0.here hx rfl (hb hby d1_36) k) ?_
        show own_Go p e below G (s₁.setTop (mkF m 39 #[.val (.ref ba), .val (.int (1 : Int32)), .val (.int en), .val (.int i0), .val (.int (1 : Int32)), .val (.int ((B i0) &&& (255 : Int32))), s6, .val (.int (128 : Int32)), .val (.int (191 : Int32)), s9, s10] [(.int (128 : Int32)), (.int ((B i0) &&& (255 : Int32)))]))
        by_cases c39_3 : ((B i0) &&& (255 : Int32)) < (128 : Int32)
        · skip
          refine own_st (fun t k => XS.icmpNo X0.here hx rfl (hb hby d1_39) rfl (tlt c39_3).2.1 k) ?_
          show own_Go p e below G (s₁.setTop (mkF m 42 #[.val (.ref ba), .val (.int (1 : Int32)), .val (.int en), .val (.int i0), .val (.int (1 : Int32)), .val (.int ((B i0) &&& (255 : Int32))), s6, .val (.int (128 : Int32)), .val (.int (191 : Int32)), s9, s10] []))
          refine own_st (fun t k => XS.iconst X0.here hx rfl (hb hby d1_42) k) ?_
          show own_Go p e below G (s₁.setTop (mkF m 43 #[.val (.ref ba), .val (.int (1 : Int32)), .val (.int en), .val (.int i0), .val (.int (1 : Int32)), .val (.int ((B i0) &&& (255 : Int32))), s6, .val (.int (128 : Int32)), .val (.int (191 : Int32)), s9, s10] [(.int (1 : Int32))]))
          refine own_st (fun t k => XS.istore X0.here hx rfl (hb hby d1_43) rfl (l' := #[.val (.ref ba), .val (.int (1 : Int32)), .val (.int en), .val (.int i0), .val (.int (1 : Int32)), .val (.int ((B i0) &&& (255 : Int32))), .val (.int (1 : Int32)), .val (.int (128 : Int32)), .val (.int (191 : Int32)), s9, s10]) (XS.store1 rfl hs6 rfl) k) ?_
          show own_Go p e below G (s₁.setTop (mkF m 45 #[.val (.ref ba), .val (.int (1 : Int32)), .val (.int en), .val (.int i0), .val (.int (1 : Int32)), .val (.int ((B i0) &&& (255 : Int32))), .val (.int (1 : Int32)), .val (.int (128 : Int32)), .val (.int (191 : Int32)), s9, s10] []))
          refine own_st (fun t k => XS.goto X0.here hx rfl (pc0 := 45) (pc' := 193) rfl (hb hby d1_45) (by decide) (by decide) k) ?_
          show own_Go p e below G (s₁.setTop (mkF m 193 #[.val (.ref ba), .val (.int (1 : Int32)), .val (.int en), .val (.int i0), .val (.int (1 : Int32)), .val (.int ((B i0) &&& (255 : Int32))), .val (.int (1 : Int32)), .val (.int (128 : Int32)), .val (.int (191 : Int32)), s9, s10] []))
          refine own_st (fun t k => XS.iload X0.here hx rfl (hb hby d1_193) rfl  k) ?_
          show own_Go p e below G (s₁.setTop (mkF m 195 #[.val (.ref ba), .val (.int (1 : Int32)), .val (.int en), .val (.int i0), .val (.int (1 : Int32)), .val (.int ((B i0) &&& (255 : Int32))), .val (.int (1 : Int32)), .val (.int (128 : Int32)), .val (.int (191 : Int32)), s9, s10] [(.int (1 : Int32))]))
          refine own_st (fun t k => XS.ifNo X0.here hx rfl (hb hby d1_195) rfl ((if0 _ _).trans (tlt (by decide)).2.2.2) k) ?_
          show own_Go p e below G (s₁.setTop (mkF m 198 #[.val (.ref ba), .val (.int (1 : Int32)), .val (.int en), .val (.int i0), .val (.int (1 : Int32)), .val (.int ((B i0) &&& (255 : Int32))), .val (.int (1 : Int32)), .val (.int (128 : Int32)), .val (.int (191 : Int32)), s9, s10] []))
          refine own_st (fun t k => XS.iloadN X0.here hx rfl (hb hby d1_198) rfl  k) ?_
          show own_Go p e below G (s₁.setTop (mkF m 199 #[.val (.ref ba), .val (.int (1 : Int32)), .val (.int en), .val (.int i0), .val (.int (1 : Int32)), .val (.int ((B i0) &&& (255 : Int32))), .val (.int (1 : Int32)), .val (.int (128 : Int32)), .val (.int (191 : Int32)), s9, s10] [(.int en)]))
          refine own_st (fun t k => XS.iloadN X0.here hx rfl (hb hby d1_199) rfl  k) ?_
          show own_Go p e below G (s₁.setTop (mkF m 200 #[.val (.ref ba), .val (.int (1 : Int32)), .val (.int en), .val (.int i0), .val (.int (1 : Int32)), .val (.int ((B i0) &&& (255 : Int32))), .val (.int (1 : Int32)), .val (.int (128 : Int32)), .val (.int (191 : Int32)), s9, s10] [(.int i0), (.int en)]))
          refine own_st (fun t k => XS.isub X0.here hx rfl (hb hby d1_200) rfl k) ?_
          show own_Go p e below G (s₁.setTop (mkF m 201 #[.val (.ref ba), .val (.int (1 : Int32)), .val (.int en), .val (.int i0), .val (.int (1 : Int32)), .val (.int ((B i0) &&& (255 : Int32))), .val (.int (1 : Int32)), .val (.int (128 : Int32)), .val (.int (191 : Int32)), s9, s10] [(.int (en - i0))]))
          refine own_st (fun t k => XS.iload X0.here hx rfl (hb hby d1_201) rfl  k) ?_
          show own_Go p e below G (s₁.setTop (mkF m 203 #[.val (.ref ba), .val (.int (1 : Int32)), .val (.int en), .val (.int i0), .val (.int (1 : Int32)), .val (.int ((B i0) &&& (255 : Int32))), .val (.int (1 : Int32)), .val (.int (128 : Int32)), .val (.int (191 : Int32)), s9, s10] [(.int (1 : Int32)), (.int (en - i0))]))
          refine own_st (fun t k => XS.icmpNo X0.here hx rfl (hb hby d1_203) rfl (flt (own_av1 hi0 c12_1 he.2)).1 k) ?_
          show own_Go p e below G (s₁.setTop (mkF m 206 #[.val (.ref ba), .val (.int (1 : Int32)), .val (.int en), .val (.int i0), .val (.int (1 : Int32)), .val (.int ((B i0) &&& (255 : Int32))), .val (.int (1 : Int32)), .val (.int (128 : Int32)), .val (.int (191 : Int32)), s9, s10] []))
          refine own_st (fun t k => XS.iconst X0.here hx rfl (hb hby d1_206) k) ?_
          show own_Go p e below G (s₁.setTop (mkF m 207 #[.val (.ref ba), .val (.int (1 : Int32)), .val (.int en), .val (.int i0), .val (.int (1 : Int32)), .val (.int ((B i0) &&& (255 : Int32))), .val (.int (1 : Int32)), .val (.int (128 : Int32)), .val (.int (191 : Int32)), s9, s10] [(.int (1 : Int32))]))
          refine own_st (fun t k => XS.goto X0.here hx rfl (pc0 := 207) (pc' := 211) rfl (hb hby d1_207) (by decide) (by decide) k) ?_
          show own_Go p e below G (s₁.setTop (mkF m 211 #[.val (.ref ba), .val (.int (1 : Int32)), .val (.int en), .val (.int i0), .val (.int (1 : Int32)), .val (.int ((B i0) &&& (255 : Int32))), .val (.int (1 : Int32)), .val (.int (128 : Int32)), .val (.int (191 : Int32)), s9, s10] [(.int (1 : Int32))]))
          refine own_st (fun t k => XS.istore X0.here hx rfl (hb hby d1_211) rfl (l' := #[.val (.ref ba), .val (.int (1 : Int32)), .val (.int en), .val (.int i0), .val (.int (1 : Int32)), .val (.int ((B i0) &&& (255 : Int32))), .val (.int (1 : Int32)), .val (.int (128 : Int32)), .val (.int (191 : Int32)), s9, s10]) rfl k) ?_
          show own_Go p e below G (s₁.setTop (mkF m 213 #[.val (.ref ba), .val (.int (1 : Int32)), .val (.int en), .val (.int i0), .val (.int (1 : Int32)), .val (.int ((B i0) &&& (255 : Int32))), .val (.int (1 : Int32)), .val (.int (128 : Int32)), .val (.int (191 : Int32)), s9, s10] []))
          refine own_st (fun t k => XS.iconst X0.here hx rfl (hb hby d1_213) k) ?_
          show own_Go p e below G (s₁.setTop (mkF m 214 #[.val (.ref ba), .val (.int (1 : Int32)), .val (.int en), .val (.int i0), .val (.int (1 : Int32)), .val (.int ((B i0) &&& (255 : Int32))), .val (.int (1 : Int32)), .val (.int (128 : Int32)), .val (.int (191 : Int32)), s9, s10] [(.int (1 : Int32))]))
          refine own_st (fun t k => XS.istore X0.here hx rfl (hb hby d1_214) rfl (l' := #[.val (.ref ba), .val (.int (1 : Int32)), .val (.int en), .val (.int i0), .val (.int (1 : Int32)), .val (.int ((B i0) &&& (255 : Int32))), .val (.int (1 : Int32)), .val (.int (128 : Int32)), .val (.int (191 : Int32)), .val (.int (1 : Int32)), s10]) (XS.store1 rfl hs9 rfl) k) ?_
          show own_Go p e below G (s₁.setTop (mkF m 216 #[.val (.ref ba), .val (.int (1 : Int32)), .val (.int en), .val (.int i0), .val (.int (1 : Int32)), .val (.int ((B i0) &&& (255 : Int32))), .val (.int (1 : Int32)), .val (.int (128 : Int32)), .val (.int (191 : Int32)), .val (.int (1 : Int32)), s10] []))
          refine own_st (fun t k => XS.iload X0.here hx rfl (hb hby d1_216) rfl  k) ?_
          show own_Go p e below G (s₁.setTop (mkF m 218 #[.val (.ref ba), .val (.int (1 : Int32)), .val (.int en), .val (.int i0), .val (.int (1 : Int32)), .val (.int ((B i0) &&& (255 : Int32))), .val (.int (1 : Int32)), .val (.int (128 : Int32)), .val (.int (191 : Int32)), .val (.int (1 : Int32)), s10] [(.int (1 : Int32))]))
          refine own_st (fun t k => XS.ifNo X0.here hx rfl (hb hby d1_218) rfl ((if0 _ _).trans (feq (by decide)).1) k) ?_
          show own_Go p e below G (s₁.setTop (mkF m 221 #[.val (.ref ba), .val (.int (1 : Int32)), .val (.int en), .val (.int i0), .val (.int (1 : Int32)), .val (.int ((B i0) &&& (255 : Int32))), .val (.int (1 : Int32)), .val (.int (128 : Int32)), .val (.int (191 : Int32)), .val (.int (1 : Int32)), s10] []))
          refine own_st (fun t k => XS.iload X0.here hx rfl (hb hby d1_221) rfl  k) ?_
          show own_Go p e below G (s₁.setTop (mkF m 223 #[.val (.ref ba), .val (.int (1 : Int32)), .val (.int en), .val (.int i0), .val (.int (1 : Int32)), .val (.int ((B i0) &&& (255 : Int32))), .val (.int (1 : Int32)), .val (.int (128 : Int32)), .val (.int (191 : Int32)), .val (.int (1 : Int32)), s10] [(.int (1 : Int32))]))
          refine own_st (fun t k => XS.iload X0.here hx rfl (hb hby d1_223) rfl  k) ?_
          show own_Go p e below G (s₁.setTop (mkF m 225 #[.val (.ref ba), .val (.int (1 : Int32)), .val (.int en), .val (.int i0), .val (.int (1 : Int32)), .val (.int ((B i0) &&& (255 : Int32))), .val (.int (1 : Int32)), .val (.int (128 : Int32)), .val (.int (191 : Int32)), .val (.int (1 : Int32)), s10] [(.int (1 : Int32)), (.int (1 : Int32))]))
          refine own_st (fun t k => XS.icmpYes X0.here hx rfl (pc0 := 225) (pc' := 297) rfl (hb hby d1_225) rfl (flt (by decide)).2.1 (by decide) (by decide) k) ?_
          show own_Go p e below G (s₁.setTop (mkF m 297 #[.val (.ref ba), .val (.int (1 : Int32)), .val (.int en), .val (.int i0), .val (.int (1 : Int32)), .val (.int ((B i0) &&& (255 : Int32))), .val (.int (1 : Int32)), .val (.int (128 : Int32)), .val (.int (191 : Int32)), .val (.int (1 : Int32)), s10] []))
          refine own_st (fun t k => XS.iloadN X0.here hx rfl (hb hby d1_297) rfl  k) ?_
          show own_Go p e below G (s₁.setTop (mkF m 298 #[.val (.ref ba), .val (.int (1 : Int32)), .val (.int en), .val (.int i0), .val (.int (1 : Int32)), .val (.int ((B i0) &&& (255 : Int32))), .val (.int (1 : Int32)), .val (.int (128 : Int32)), .val (.int (191 : Int32)), .val (.int (1 : Int32)), s10] [(.int i0)]))
          refine own_st (fun t k => XS.iload X0.here hx rfl (hb hby d1_298) rfl  k) ?_
          show own_Go p e below G (s₁.setTop (mkF m 300 #[.val (.ref ba), .val (.int (1 : Int32)), .val (.int en), .val (.int i0), .val (.int (1 : Int32)), .val (.int ((B i0) &&& (255 : Int32))), .val (.int (1 : Int32)), .val (.int (128 : Int32)), .val (.int (191 : Int32)), .val (.int (1 : Int32)), s10] [(.int (1 : Int32)), (.int i0)]))
          refine own_st (fun t k => XS.iadd X0.here hx rfl (hb hby d1_300) rfl k) ?_
          show own_Go p e below G (s₁.setTop (mkF m 301 #[.val (.ref ba), .val (.int (1 : Int32)), .val (.int en), .val (.int i0), .val (.int (1 : Int32)), .val (.int ((B i0) &&& (255 : Int32))), .val (.int (1 : Int32)), .val (.int (128 : Int32)), .val (.int (191 : Int32)), .val (.int (1 : Int32)), s10] [(.int (i0 + (1 : Int32)))]))
          refine own_st (fun t k => XS.istoreN X0.here hx rfl (hb hby d1_301) rfl (l' := #[.val (.ref ba), .val (.int (1 : Int32)), .val (.int en), .val (.int (i0 + (1 : Int32))), .val (.int (1 : Int32)), .val (.int ((B i0) &&& (255 : Int32))), .val (.int (1 : Int32)), .val (.int (128 : Int32)), .val (.int (191 : Int32)), .val (.int (1 : Int32)), s10]) rfl k) ?_
          show own_Go p e below G (s₁.setTop (mkF m 302 #[.val (.ref ba), .val (.int (1 : Int32)), .val (.int en), .val (.int (i0 + (1 : Int32))), .val (.int (1 : Int32)), .val (.int ((B i0) &&& (255 : Int32))), .val (.int (1 : Int32)), .val (.int (128 : Int32)), .val (.int (191 : Int32)), .val (.int (1 : Int32)), s10] []))
          refine own_st (fun t k => XS.goto X0.here hx rfl (pc0 := 302) (pc' := 5) rfl (hb hby d1_302) (by decide) (by decide) k) ?_
          show own_Go p e below G (s₁.setTop (mkF m 5 #[.val (.ref ba), .val (.int (1 : Int32)), .val (.int en), .val (.int (i0 + (1 : Int32))), .val (.int (1 : Int32)), .val (.int ((B i0) &&& (255 : Int32))), .val (.int (1 : Int32)), .val (.int (128 : Int32)), .val (.int (191 : Int32)), .val (.int (1 : Int32)), s10] []))
          have hn := own_in (len := (1 : Int32)) (j := ((1 : Int32) - 1)) hi0 c12_1 he.2 (own_av1 hi0 c12_1 he.2) (by decide) (by decide) (by decide)
          have ha := own_add (i := i0) (j := (1 : Int32)) hi0 (Int.le_of_lt (Int.lt_of_lt_of_le (Int32.lt_iff_toInt_lt.mp c12_1) he.2)) (by decide) (by decide)
          have hc := own_add (i := i0) (j := ((1 : Int32) - 1)) hi0 (Int.le_of_lt (Int.lt_of_lt_of_le (Int32.lt_iff_toInt_lt.mp c12_1) he.2)) (by decide) (by decide)
          rw [hc] at hn
          have z1 : (((1 : Int32) - 1) : Int32).toInt = 0 := by decide
          have z2 : ((1 : Int32)).toInt = 1 := by decide
          exact ih (i0 + (1 : Int32)) _ _ _ _ _ _ (One.val rfl) (One.val rfl) (One.val rfl) (One.val rfl) (One.val rfl) hs10 (by omega) (by omega) (by omega) (heq.trans (own_vrN c12_1 (show own_vl (B i0 &&& 255) (B (i0 + 1) &&& 255) (B (i0 + 2) &&& 255) (B (i0 + 3) &&& 255) (en - i0) = (1 : Int32) by unfold own_vl; rw [if_pos c39_3]) (by decide)))
        · skip
          refine own_st (fun t k => XS.icmpYes X0.here hx rfl (pc0 := 39) (pc' := 48) rfl (hb hby d1_39) rfl (flt c39_3).2.1 (by decide) (by decide) k) ?_
          show own_Go p e below G (s₁.setTop (mkF m 48 #[.val (.ref ba), .val (.int (1 : Int32)), .val (.int en), .val (.int i0), .val (.int (1 : Int32)), .val (.int ((B i0) &&& (255 : Int32))), s6, .val (.int (128 : Int32)), .val (.int (191 : Int32)), s9, s10] []))
          refine own_st (fun t k => XS.iload X0.here hx rfl (hb hby d1_48) rfl  k) ?_
          show own_Go p e below G (s₁.setTop (mkF m 50 #[.val (.ref ba), .val (.int (1 : Int32)), .val (.int en), .val (.int i0), .val (.int (1 : Int32)), .val (.int ((B i0) &&& (255 : Int32))), s6, .val (.int (128 : Int32)), .val (.int (191 : Int32)), s9, s10] [(.int ((B i0) &&& (255 : Int32)))]))
          refine own_st (fun t k => XS.sipush X0.here hx rfl (hb hby d1_50) k) ?_
          show own_Go p e below G (s₁.setTop (mkF m 53 #[.val (.ref ba), .val (.int (1 : Int32)), .val (.int en), .val (.int i0), .val (.int (1 : Int32)), .val (.int ((B i0) &&& (255 : Int32))), s6, .val (.int (128 : Int32)), .val (.int (191 : Int32)), s9, s10] [(.int (194 : Int32)), (.int ((B i0) &&& (255 : Int32)))]))
          by_cases c53_4 : ((B i0) &&& (255 : Int32)) < (194 : Int32)
          · skip
            refine own_st (fun t k => XS.icmpYes X0.here hx rfl (pc0 := 53) (pc' := 70) rfl (hb hby d1_53) rfl (tlt c53_4).1 (by decide) (by decide) k) ?_
            show own_Go p e below G (s₁.setTop (mkF m 70 #[.val (.ref ba), .val (.int (1 : Int32)), .val (.int en), .val (.int i0), .val (.int (1 : Int32)), .val (.int ((B i0) &&& (255 : Int32))), s6, .val (.int (128 : Int32)), .val (.int (191 : Int32)), s9, s10] []))
            refine own_st (fun t k => XS.iload X0.here hx rfl (hb hby d1_70) rfl  k) ?_
            show own_Go p e below G (s₁.setTop (mkF m 72 #[.val (.ref ba), .val (.int (1 : Int32)), .val (.int en), .val (.int i0), .val (.int (1 : Int32)), .val (.int ((B i0) &&& (255 : Int32))), s6, .val (.int (128 : Int32)), .val (.int (191 : Int32)), s9, s10] [(.int ((B i0) &&& (255 : Int32)))]))
            refine own_st (fun t k => XS.sipush X0.here hx rfl (hb hby d1_72) k) ?_
            show own_Go p e below G (s₁.setTop (mkF m 75 #[.val (.ref ba), .val (.int (1 : Int32)), .val (.int en), .val (.int i0), .val (.int (1 : Int32)), .val (.int ((B i0) &&& (255 : Int32))), s6, .val (.int (128 : Int32)), .val (.int (191 : Int32)), s9, s10] [(.int (224 : Int32)), (.int ((B i0) &&& (255 : Int32)))]))
            refine own_st (fun t k => XS.icmpYes X0.here hx rfl (pc0 := 75) (pc' := 130) rfl (hb hby d1_75) rfl (tlt (Int32.lt_trans c53_4 (by decide))).1 (by decide) (by decide) k) ?_
            show own_Go p e below G (s₁.setTop (mkF m 130 #[.val (.ref ba), .val (.int (1 : Int32)), .val (.int en), .val (.int i0), .val (.int (1 : Int32)), .val (.int ((B i0) &&& (255 : Int32))), s6, .val (.int (128 : Int32)), .val (.int (191 : Int32)), s9, s10] []))
            refine own_st (fun t k => XS.iload X0.here hx rfl (hb hby d1_130) rfl  k) ?_
            show own_Go p e below G (s₁.setTop (mkF m 132 #[.val (.ref ba), .val (.int (1 : Int32)), .val (.int en), .val (.int i0), .val (.int (1 : Int32)), .val (.int ((B i0) &&& (255 : Int32))), s6, .val (.int (128 : Int32)), .val (.int (191 : Int32)), s9, s10] [(.int ((B i0) &&& (255 : Int32)))]))
            refine own_st (fun t k => XS.sipush X0.here hx rfl (hb hby d1_132) k) ?_
            show own_Go p e below G (s₁.setTop (mkF m 135 #[.val (.ref ba), .val (.int (1 : Int32)), .val (.int en), .val (.int i0), .val (.int (1 : Int32)), .val (.int ((B i0) &&& (255 : Int32))), s6, .val (.int (128 : Int32)), .val (.int (191 : Int32)), s9, s10] [(.int (240 : Int32)), (.int ((B i0) &&& (255 : Int32)))]))
            refine own_st (fun t k => XS.icmpYes X0.here hx rfl (pc0 := 135) (pc' := 190) rfl (hb hby d1_135) rfl (tlt (Int32.lt_trans c53_4 (by decide))).1 (by decide) (by decide) k) ?_
            show own_Go p e below G (s₁.setTop (mkF m 190 #[.val (.ref ba), .val (.int (1 : Int32)), .val (.int en), .val (.int i0), .val (.int (1 : Int32)), .val (.int ((B i0) &&& (255 : Int32))), s6, .val (.int (128 : Int32)), .val (.int (191 : Int32)), s9, s10] []))
            refine own_st (fun t k => XS.iconst X0.here hx rfl (hb hby d1_190) k) ?_
            show own_Go p e below G (s₁.setTop (mkF m 191 #[.val (.ref ba), .val (.int (1 : Int32)), .val (.int en), .val (.int i0), .val (.int (1 : Int32)), .val (.int ((B i0) &&& (255 : Int32))), s6, .val (.int (128 : Int32)), .val (.int (191 : Int32)), s9, s10] [(.int (0 : Int32))]))
            refine own_st (fun t k => XS.istore X0.here hx rfl (hb hby d1_191) rfl (l' := #[.val (.ref ba), .val (.int (1 : Int32)), .val (.int en), .val (.int i0), .val (.int (1 : Int32)), .val (.int ((B i0) &&& (255 : Int32))), .val (.int (0 : Int32)), .val (.int (128 : Int32)), .val (.int (191 : Int32)), s9, s10]) (XS.store1 rfl hs6 rfl) k) ?_
            show own_Go p e below G (s₁.setTop (mkF m 193 #[.val (.ref ba), .val (.int (1 : Int32)), .val (.int en), .val (.int i0), .val (.int (1 : Int32)), .val (.int ((B i0) &&& (255 : Int32))), .val (.int (0 : Int32)), .val (.int (128 : Int32)), .val (.int (191 : Int32)), s9, s10] []))
            refine own_st (fun t k => XS.iload X0.here hx rfl (hb hby d1_193) rfl  k) ?_
            show own_Go p e below G (s₁.setTop (mkF m 195 #[.val (.ref ba), .val (.int (1 : Int32)), .val (.int en), .val (.int i0), .val (.int (1 : Int32)), .val (.int ((B i0) &&& (255 : Int32))), .val (.int (0 : Int32)), .val (.int (128 : Int32)), .val (.int (191 : Int32)), s9, s10] [(.int (0 : Int32))]))
            refine own_st (fun t k => XS.ifYes X0.here hx rfl (pc0 := 195) (pc' := 210) rfl (hb hby d1_195) rfl ((if0 _ _).trans (flt (by decide)).2.2.2) (by decide) (by decide) k) ?_
            show own_Go p e below G (s₁.setTop (mkF m 210 #[.val (.ref ba), .val (.int (1 : Int32)), .val (.int en), .val (.int i0), .val (.int (1 : Int32)), .val (.int ((B i0) &&& (255 : Int32))), .val (.int (0 : Int32)), .val (.int (128 : Int32)), .val (.int (191 : Int32)), s9, s10] []))
            refine own_st (fun t k => XS.iconst X0.here hx rfl (hb hby d1_210) k) ?_
            show own_Go p e below G (s₁.setTop (mkF m 211 #[.val (.ref ba), .val (.int (1 : Int32)), .val (.int en), .val (.int i0), .val (.int (1 : Int32)), .val (.int ((B i0) &&& (255 : Int32))), .val (.int (0 : Int32)), .val (.int (128 : Int32)), .val (.int (191 : Int32)), s9, s10] [(.int (0 : Int32))]))
            exact bad211 _ _ _ _ _ _ hs9 (show own_vl (B i0 &&& 255) (B (i0 + 1) &&& 255) (B (i0 + 2) &&& 255) (B (i0 + 3) &&& 255) (en - i0) = 0 by unfold own_vl; rw [if_neg c39_3, if_pos c53_4])
          · skip
            refine own_st (fun t k => XS.icmpNo X0.here hx rfl (hb hby d1_53) rfl (flt c53_4).1 k) ?_
            show own_Go p e below G (s₁.setTop (mkF m 56 #[.val (.ref ba), .val (.int (1 : Int32)), .val (.int en), .val (.int i0), .val (.int (1 : Int32)), .val (.int ((B i0) &&& (255 : Int32))), s6, .val (.int (128 : Int32)), .val (.int (191 : Int32)), s9, s10] []))
            refine own_st (fun t k => XS.iload X0.here hx rfl (hb hby d1_56) rfl  k) ?_
            show own_Go p e below G (s₁.setTop (mkF m 58 #[.val (.ref ba), .val (.int (1 : Int32)), .val (.int en), .val (.int i0), .val (.int (1 : Int32)), .val (.int ((B i0) &&& (255 : Int32))), s6, .val (.int (128 : Int32)), .val (.int (191 : Int32)), s9, s10] [(.int ((B i0) &&& (255 : Int32)))]))
            refine own_st (fun t k => XS.sipush X0.here hx rfl (hb hby d1_58) k) ?_
            show own_Go p e below G (s₁.setTop (mkF m 61 #[.val (.ref ba), .val (.int (1 : Int32)), .val (.int en), .val (.int i0), .val (.int (1 : Int32)), .val (.int ((B i0) &&& (255 : Int32))), s6, .val (.int (128 : Int32)), .val (.int (191 : Int32)), s9, s10] [(.int (223 : Int32)), (.int ((B i0) &&& (255 : Int32)))]))
            by_cases c61_5 : (223 : Int32) < ((B i0) &&& (255 : Int32))
            · skip
              refine own_st (fun t k => XS.icmpYes X0.here hx rfl (pc0 := 61) (pc' := 70) rfl (hb hby d1_61) rfl (tlt c61_5).2.2.1 (by decide) (by decide) k) ?_
              show own_Go p e below G (s₁.setTop (mkF m 70 #[.val (.ref ba), .val (.int (1 : Int32)), .val (.int en), .val (.int i0), .val (.int (1 : Int32)), .val (.int ((B i0) &&& (255 : Int32))), s6, .val (.int (128 : Int32)), .val (.int (191 : Int32)), s9, s10] []))
              refine own_st (fun t k => XS.iload X0.here hx rfl (hb hby d1_70) rfl  k) ?_
              show own_Go p e below G (s₁.setTop (mkF m 72 #[.val (.ref ba), .val (.int (1 : Int32)), .val (.int en), .val (.int i0), .val (.int (1 : Int32)), .val (.int ((B i0) &&& (255 : Int32))), s6, .val (.int (128 : Int32)), .val (.int (191 : Int32)), s9, s10] [(.int ((B i0) &&& (255 : Int32)))]))
              refine own_st (fun t k => XS.sipush X0.here hx rfl (hb hby d1_72) k) ?_
              show own_Go p e below G (s₁.setTop (mkF m 75 #[.val (.ref ba), .val (.int (1 : Int32)), .val (.int en), .val (.int i0), .val (.int (1 : Int32)), .val (.int ((B i0) &&& (255 : Int32))), s6, .val (.int (128 : Int32)), .val (.int (191 : Int32)), s9, s10] [(.int (224 : Int32)), (.int ((B i0) &&& (255 : Int32)))]))
              refine own_st (fun t k => XS.icmpNo X0.here hx rfl (hb hby d1_75) rfl (flt (own_nl c61_5 (by decide))).1 k) ?_
              show own_Go p e below G (s₁.setTop (mkF m 78 #[.val (.ref ba), .val (.int (1 : Int32)), .val (.int en), .val (.int i0), .val (.int (1 : Int32)), .val (.int ((B i0) &&& (255 : Int32))), s6, .val (.int (128 : Int32)), .val (.int (191 : Int32)), s9, s10] []))
              refine own_st (fun t k => XS.iload X0.here hx rfl (hb hby d1_78) rfl  k) ?_
              show own_Go p e below G (s₁.setTop (mkF m 80 #[.val (.ref ba), .val (.int (1 : Int32)), .val (.int en), .val (.int i0), .val (.int (1 : Int32)), .val (.int ((B i0) &&& (255 : Int32))), s6, .val (.int (128 : Int32)), .val (.int (191 : Int32)), s9, s10] [(.int ((B i0) &&& (255 : Int32)))]))
              refine own_st (fun t k => XS.sipush X0.here hx rfl (hb hby d1_80) k) ?_
              show own_Go p e below G (s₁.setTop (mkF m 83 #[.val (.ref ba), .val (.int (1 : Int32)), .val (.int en), .val (.int i0), .val (.int (1 : Int32)), .val (.int ((B i0) &&& (255 : Int32))), s6, .val (.int (128 : Int32)), .val (.int (191 : Int32)), s9, s10] [(.int (239 : Int32)), (.int ((B i0) &&& (255 : Int32)))]))
              by_cases c83_6 : (239 : Int32) < ((B i0) &&& (255 : Int32))
              · skip
                refine own_st (fun t k => XS.icmpYes X0.here hx rfl (pc0 := 83) (pc' := 130) rfl (hb hby d1_83) rfl (tlt c83_6).2.2.1 (by decide) (by decide) k) ?_
                show own_Go p e below G (s₁.setTop (mkF m 130 #[.val (.ref ba), .val (.int (1 : Int32)), .val (.int en), .val (.int i0), .val (.int (1 : Int32)), .val (.int ((B i0) &&& (255 : Int32))), s6, .val (.int (128 : Int32)), .val (.int (191 : Int32)), s9, s10] []))
                refine own_st (fun t k => XS.iload X0.here hx rfl (hb hby d1_130) rfl  k) ?_
                show own_Go p e below G (s₁.setTop (mkF m 132 #[.val (.ref ba), .val (.int (1 : Int32)), .val (.int en), .val (.int i0), .val (.int (1 : Int32)), .val (.int ((B i0) &&& (255 : Int32))), s6, .val (.int (128 : Int32)), .val (.int (191 : Int32)), s9, s10] [(.int ((B i0) &&& (255 : Int32)))]))
                refine own_st (fun t k => XS.sipush X0.here hx rfl (hb hby d1_132) k) ?_
                show own_Go p e below G (s₁.setTop (mkF m 135 #[.val (.ref ba), .val (.int (1 : Int32)), .val (.int en), .val (.int i0), .val (.int (1 : Int32)), .val (.int ((B i0) &&& (255 : Int32))), s6, .val (.int (128 : Int32)), .val (.int (191 : Int32)), s9, s10] [(.int (240 : Int32)), (.int ((B i0) &&& (255 : Int32)))]))
                refine own_st (fun t k => XS.icmpNo X0.here hx rfl (hb hby d1_135) rfl (flt (own_nl c83_6 (by decide))).1 k) ?_
                show own_Go p e below G (s₁.setTop (mkF m 138 #[.val (.ref ba), .val (.int (1 : Int32)), .val (.int en), .val (.int i0), .val (.int (1 : Int32)), .val (.int ((B i0) &&& (255 : Int32))), s6, .val (.int (128 : Int32)), .val (.int (191 : Int32)), s9, s10] []))
                refine own_st (fun t k => XS.iload X0.here hx rfl (hb hby d1_138) rfl  k) ?_
                show own_Go p e below G (s₁.setTop (mkF m 140 #[.val (.ref ba), .val (.int (1 : Int32)), .val (.int en), .val (.int i0), .val (.int (1 : Int32)), .val (.int ((B i0) &&& (255 : Int32))), s6, .val (.int (128 : Int32)), .val (.int (191 : Int32)), s9, s10] [(.int ((B i0) &&& (255 : Int32)))]))
                refine own_st (fun t k => XS.sipush X0.here hx rfl (hb hby d1_140) k) ?_
                show own_Go p e below G (s₁.setTop (mkF m 143 #[.val (.ref ba), .val (.int (1 : Int32)), .val (.int en), .val (.int i0), .val (.int (1 : Int32)), .val (.int ((B i0) &&& (255 : Int32))), s6, .val (.int (128 : Int32)), .val (.int (191 : Int32)), s9, s10] [(.int (244 : Int32)), (.int ((B i0) &&& (255 : Int32)))]))
                by_cases c143_7 : (244 : Int32) < ((B i0) &&& (255 : Int32))
                · skip
                  refine own_st (fun t k => XS.icmpYes X0.here hx rfl (pc0 := 143) (pc' := 190) rfl (hb hby d1_143) rfl (tlt c143_7).2.2.1 (by decide) (by decide) k) ?_
                  show own_Go p e below G (s₁.setTop (mkF m 190 #[.val (.ref ba), .val (.int (1 : Int32)), .val (.int en), .val (.int i0), .val (.int (1 : Int32)), .val (.int ((B i0) &&& (255 : Int32))), s6, .val (.int (128 : Int32)), .val (.int (191 : Int32)), s9, s10] []))
                  refine own_st (fun t k => XS.iconst X0.here hx rfl (hb hby d1_190) k) ?_
                  show own_Go p e below G (s₁.setTop (mkF m 191 #[.val (.ref ba), .val (.int (1 : Int32)), .val (.int en), .val (.int i0), .val (.int (1 : Int32)), .val (.int ((B i0) &&& (255 : Int32))), s6, .val (.int (128 : Int32)), .val (.int (191 : Int32)), s9, s10] [(.int (0 : Int32))]))
                  refine own_st (fun t k => XS.istore X0.here hx rfl (hb hby d1_191) rfl (l' := #[.val (.ref ba), .val (.int (1 : Int32)), .val (.int en), .val (.int i0), .val (.int (1 : Int32)), .val (.int ((B i0) &&& (255 : Int32))), .val (.int (0 : Int32)), .val (.int (128 : Int32)), .val (.int (191 : Int32)), s9, s10]) (XS.store1 rfl hs6 rfl) k) ?_
                  show own_Go p e below G (s₁.setTop (mkF m 193 #[.val (.ref ba), .val (.int (1 : Int32)), .val (.int en), .val (.int i0), .val (.int (1 : Int32)), .val (.int ((B i0) &&& (255 : Int32))), .val (.int (0 : Int32)), .val (.int (128 : Int32)), .val (.int (191 : Int32)), s9, s10] []))
                  refine own_st (fun t k => XS.iload X0.here hx rfl (hb hby d1_193) rfl  k) ?_
                  show own_Go p e below G (s₁.setTop (mkF m 195 #[.val (.ref ba), .val (.int (1 : Int32)), .val (.int en), .val (.int i0), .val (.int (1 : Int32)), .val (.int ((B i0) &&& (255 : Int32))), .val (.int (0 : Int32)), .val (.int (128 : Int32)), .val (.int (191 : Int32)), s9, s10] [(.int (0 : Int32))]))
                  refine own_st (fun t k => XS.ifYes X0.here hx rfl (pc0 := 195) (pc' := 210) rfl (hb hby d1_195) rfl ((if0 _ _).trans (flt (by decide)).2.2.2) (by decide) (by decide) k) ?_
                  show own_Go p e below G (s₁.setTop (mkF m 210 #[.val (.ref ba), .val (.int (1 : Int32)), .val (.int en), .val (.int i0), .val (.int (1 : Int32)), .val (.int ((B i0) &&& (255 : Int32))), .val (.int (0 : Int32)), .val (.int (128 : Int32)), .val (.int (191 : Int32)), s9, s10] []))
                  refine own_st (fun t k => XS.iconst X0.here hx rfl (hb hby d1_210) k) ?_
                  show own_Go p e below G (s₁.setTop (mkF m 211 #[.val (.ref ba), .val (.int (1 : Int32)), .val (.int en), .val (.int i0), .val (.int (1 : Int32)), .val (.int ((B i0) &&& (255 : Int32))), .val (.int (0 : Int32)), .val (.int (128 : Int32)), .val (.int (191 : Int32)), s9, s10] [(.int (0 : Int32))]))
                  exact bad211 _ _ _ _ _ _ hs9 (show own_vl (B i0 &&& 255) (B (i0 + 1) &&& 255) (B (i0 + 2) &&& 255) (B (i0 + 3) &&& 255) (en - i0) = 0 by unfold own_vl; rw [if_neg c39_3, if_neg c53_4, if_pos c61_5, if_pos c83_6, if_pos c143_7])
                · skip
                  refine own_st (fun t k => XS.icmpNo X0.here hx rfl (hb hby d1_143) rfl (flt c143_7).2.2.1 k) ?_
                  show own_Go p e below G (s₁.setTop (mkF m 146 #[.val (.ref ba), .val (.int (1 : Int32)), .val (.int en), .val (.int i0), .val (.int (1 : Int32)), .val (.int ((B i0) &&& (255 : Int32))), s6, .val (.int (128 : Int32)), .val (.int (191 : Int32)), s9, s10] []))
                  refine own_st (fun t k => XS.iconst X0.here hx rfl (hb hby d1_146) k) ?_
                  show own_Go p e below G (s₁.setTop (mkF m 147 #[.val (.ref ba), .val (.int (1 : Int32)), .val (.int en), .val (.int i0), .val (.int (1 : Int32)), .val (.int ((B i0) &&& (255 : Int32))), s6, .val (.int (128 : Int32)), .val (.int (191 : Int32)), s9, s10] [(.int (4 : Int32))]))
                  refine own_st (fun t k => XS.istore X0.here hx rfl (hb hby d1_147) rfl (l' := #[.val (.ref ba), .val (.int (1 : Int32)), .val (.int en), .val (.int i0), .val (.int (1 : Int32)), .val (.int ((B i0) &&& (255 : Int32))), .val (.int (4 : Int32)), .val (.int (128 : Int32)), .val (.int (191 : Int32)), s9, s10]) (XS.store1 rfl hs6 rfl) k) ?_
                  show own_Go p e below G (s₁.setTop (mkF m 149 #[.val (.ref ba), .val (.int (1 : Int32)), .val (.int en), .val (.int i0), .val (.int (1 : Int32)), .val (.int ((B i0) &&& (255 : Int32))), .val (.int (4 : Int32)), .val (.int (128 : Int32)), .val (.int (191 : Int32)), s9, s10] []))
                  refine own_st (fun t k => XS.iload X0.here hx rfl (hb hby d1_149) rfl  k) ?_
                  show own_Go p e below G (s₁.setTop (mkF m 151 #[.val (.ref ba), .val (.int (1 : Int32)), .val (.int en), .val (.int i0), .val (.int (1 : Int32)), .val (.int ((B i0) &&& (255 : Int32))), .val (.int (4 : Int32)), .val (.int (128 : Int32)), .val (.int (191 : Int32)), s9, s10] [(.int ((B i0) &&& (255 : Int32)))]))
                  refine own_st (fun t k => XS.sipush X0.here hx rfl (hb hby d1_151) k) ?_
                  show own_Go p e below G (s₁.setTop (mkF m 154 #[.val (.ref ba), .val (.int (1 : Int32)), .val (.int en), .val (.int i0), .val (.int (1 : Int32)), .val (.int ((B i0) &&& (255 : Int32))), .val (.int (4 : Int32)), .val (.int (128 : Int32)), .val (.int (191 : Int32)), s9, s10] [(.int (240 : Int32)), (.int ((B i0) &&& (255 : Int32)))]))
                  by_cases c154_8 : ((B i0) &&& (255 : Int32)) = (240 : Int32)
                  · skip
                    refine own_st (fun t k => XS.icmpNo X0.here hx rfl (hb hby d1_154) rfl (teq c154_8).2 k) ?_
                    show own_Go p e below G (s₁.setTop (mkF m 157 #[.val (.ref ba), .val (.int (1 : Int32)), .val (.int en), .val (.int i0), .val (.int (1 : Int32)), .val (.int ((B i0) &&& (255 : Int32))), .val (.int (4 : Int32)), .val (.int (128 : Int32)), .val (.int (191 : Int32)), s9, s10] []))
                    refine own_st (fun t k => XS.sipush X0.here hx rfl (hb hby d1_157) k) ?_
                    show own_Go p e below G (s₁.setTop (mkF m 160 #[.val (.ref ba), .val (.int (1 : Int32)), .val (.int en), .val (.int i0), .val (.int (1 : Int32)), .val (.int ((B i0) &&& (255 : Int32))), .val (.int (4 : Int32)), .val (.int (128 : Int32)), .val (.int (191 : Int32)), s9, s10] [(.int (144 : Int32))]))
                    refine own_st (fun t k => XS.goto X0.here hx rfl (pc0 := 160) (pc' := 166) rfl (hb hby d1_160) (by decide) (by decide) k) ?_
                    show own_Go p e below G (s₁.setTop (mkF m 166 #[.val (.ref ba), .val (.int (1 : Int32)), .val (.int en), .val (.int i0), .val (.int (1 : Int32)), .val (.int ((B i0) &&& (255 : Int32))), .val (.int (4 : Int32)), .val (.int (128 : Int32)), .val (.int (191 : Int32)), s9, s10] [(.int (144 : Int32))]))
                    refine own_st (fun t k => XS.istore X0.here hx rfl (hb hby d1_166) rfl (l' := #[.val (.ref ba), .val (.int (1 : Int32)), .val (.int en), .val (.int i0), .val (.int (1 : Int32)), .val (.int ((B i0) &&& (255 : Int32))), .val (.int (4 : Int32)), .val (.int (144 : Int32)), .val (.int (191 : Int32)), s9, s10]) rfl k) ?_
                    show own_Go p e below G (s₁.setTop (mkF m 168 #[.val (.ref ba), .val (.int (1 : Int32)), .val (.int en), .val (.int i0), .val (.int (1 : Int32)), .val (.int ((B i0) &&& (255 : Int32))), .val (.int (4 : Int32)), .val (.int (144 : Int32)), .val (.int (191 : Int32)), s9, s10] []))
                    refine own_st (fun t k => XS.iload X0.here hx rfl (hb hby d1_168) rfl  k) ?_
                    show own_Go p e below G (s₁.setTop (mkF m 170 #[.val (.ref ba), .val (.int (1 : Int32)), .val (.int en), .val (.int i0), .val (.int (1 : Int32)), .val (.int ((B i0) &&& (255 : Int32))), .val (.int (4 : Int32)), .val (.int (144 : Int32)), .val (.int (191 : Int32)), s9, s10] [(.int ((B i0) &&& (255 : Int32)))]))
                    refine own_st (fun t k => XS.sipush X0.here hx rfl (hb hby d1_170) k) ?_
                    show own_Go p e below G (s₁.setTop (mkF m 173 #[.val (.ref ba), .val (.int (1 : Int32)), .val (.int en), .val (.int i0), .val (.int (1 : Int32)), .val (.int ((B i0) &&& (255 : Int32))), .val (.int (4 : Int32)), .val (.int (144 : Int32)), .val (.int (191 : Int32)), s9, s10] [(.int (244 : Int32)), (.int ((B i0) &&& (255 : Int32)))]))
                    refine own_st (fun t k => XS.icmpYes X0.here hx rfl (pc0 := 173) (pc' := 182) rfl (hb hby d1_173) rfl (feq (fun q => absurd (c154_8.symm.trans q) (by decide))).2 (by decide) (by decide) k) ?_
                    show own_Go p e below G (s₁.setTop (mkF m 182 #[.val (.ref ba), .val (.int (1 : Int32)), .val (.int en), .val (.int i0), .val (.int (1 : Int32)), .val (.int ((B i0) &&& (255 : Int32))), .val (.int (4 : Int32)), .val (.int (144 : Int32)), .val (.int (191 : Int32)), s9, s10] []))
                    refine own_st (fun t k => XS.sipush X0.here hx rfl (hb hby d1_182) k) ?_
                    show own_Go p e below G (s₁.setTop (mkF m 185 #[.val (.ref ba), .val (.int (1 : Int32)), .val (.int en), .val (.int i0), .val (.int (1 : Int32)), .val (.int ((B i0) &&& (255 : Int32))), .val (.int (4 : Int32)), .val (.int (144 : Int32)), .val (.int (191 : Int32)), s9, s10] [(.int (191 : Int32))]))
                    refine own_st (fun t k => XS.istore X0.here hx rfl (hb hby d1_185) rfl (l' := #[.val (.ref ba), .val (.int (1 : Int32)), .val (.int en), .val (.int i0), .val (.int (1 : Int32)), .val (.int ((B i0) &&& (255 : Int32))), .val (.int (4 : Int32)), .val (.int (144 : Int32)), .val (.int (191 : Int32)), s9, s10]) rfl k) ?_
                    show own_Go p e below G (s₁.setTop (mkF m 187 #[.val (.ref ba), .val (.int (1 : Int32)), .val (.int en), .val (.int i0), .val (.int (1 : Int32)), .val (.int ((B i0) &&& (255 : Int32))), .val (.int (4 : Int32)), .val (.int (144 : Int32)), .val (.int (191 : Int32)), s9, s10] []))
                    refine own_st (fun t k => XS.goto X0.here hx rfl (pc0 := 187) (pc' := 193) rfl (hb hby d1_187) (by decide) (by decide) k) ?_
                    show own_Go p e below G (s₁.setTop (mkF m 193 #[.val (.ref ba), .val (.int (1 : Int32)), .val (.int en), .val (.int i0), .val (.int (1 : Int32)), .val (.int ((B i0) &&& (255 : Int32))), .val (.int (4 : Int32)), .val (.int (144 : Int32)), .val (.int (191 : Int32)), s9, s10] []))
                    refine own_st (fun t k => XS.iload X0.here hx rfl (hb hby d1_193) rfl  k) ?_
                    show own_Go p e below G (s₁.setTop (mkF m 195 #[.val (.ref ba), .val (.int (1 : Int32)), .val (.int en), .val (.int i0), .val (.int (1 : Int32)), .val (.int ((B i0) &&& (255 : Int32))), .val (.int (4 : Int32)), .val (.int (144 : Int32)), .val (.int (191 : Int32)), s9, s10] [(.int (4 : Int32))]))
                    refine own_st (fun t k => XS.ifNo X0.here hx rfl (hb hby d1_195) rfl ((if0 _ _).trans (tlt (by decide)).2.2.2) k) ?_
                    show own_Go p e below G (s₁.setTop (mkF m 198 #[.val (.ref ba), .val (.int (1 : Int32)), .val (.int en), .val (.int i0), .val (.int (1 : Int32)), .val (.int ((B i0) &&& (255 : Int32))), .val (.int (4 : Int32)), .val (.int (144 : Int32)), .val (.int (191 : Int32)), s9, s10] []))
                    refine own_st (fun t k => XS.iloadN X0.here hx rfl (hb hby d1_198) rfl  k) ?_
                    show own_Go p e below G (s₁.setTop (mkF m 199 #[.val (.ref ba), .val (.int (1 : Int32)), .val (.int en), .val (.int i0), .val (.int (1 : Int32)), .val (.int ((B i0) &&& (255 : Int32))), .val (.int (4 : Int32)), .val (.int (144 : Int32)), .val (.int (191 : Int32)), s9, s10] [(.int en)]))
                    refine own_st (fun t k => XS.iloadN X0.here hx rfl (hb hby d1_199) rfl  k) ?_
                    show own_Go p e below G (s₁.setTop (mkF m 200 #[.val (.ref ba), .val (.int (1 : Int32)), .val (.int en), .val (.int i0), .val (.int (1 : Int32)), .val (.int ((B i0) &&& (255 : Int32))), .val (.int (4 : Int32)), .val (.int (144 : Int32)), .val (.int (191 : Int32)), s9, s10] [(.int i0), (.int en)]))
                    refine own_st (fun t k => XS.isub X0.here hx rfl (hb hby d1_200) rfl k) ?_
                    show own_Go p e below G (s₁.setTop (mkF m 201 #[.val (.ref ba), .val (.int (1 : Int32)), .val (.int en), .val (.int i0), .val (.int (1 : Int32)), .val (.int ((B i0) &&& (255 : Int32))), .val (.int (4 : Int32)), .val (.int (144 : Int32)), .val (.int (191 : Int32)), s9, s10] [(.int (en - i0))]))
                    refine own_st (fun t k => XS.iload X0.here hx rfl (hb hby d1_201) rfl  k) ?_
                    show own_Go p e below G (s₁.setTop (mkF m 203 #[.val (.ref ba), .val (.int (1 : Int32)), .val (.int en), .val (.int i0), .val (.int (1 : Int32)), .val (.int ((B i0) &&& (255 : Int32))), .val (.int (4 : Int32)), .val (.int (144 : Int32)), .val (.int (191 : Int32)), s9, s10] [(.int (4 : Int32)), (.int (en - i0))]))
                    by_cases c203_9 : (en - i0) < (4 : Int32)
                    · skip
                      refine own_st (fun t k => XS.icmpYes X0.here hx rfl (pc0 := 203) (pc' := 210) rfl (hb hby d1_203) rfl (tlt c203_9).1 (by decide) (by decide) k) ?_
                      show own_Go p e below G (s₁.setTop (mkF m 210 #[.val (.ref ba), .val (.int (1 : Int32)), .val (.int en), .val (.int i0), .val (.int (1 : Int32)), .val (.int ((B i0) &&& (255 : Int32))), .val (.int (4 : Int32)), .val (.int (144 : Int32)), .val (.int (191 : Int32)), s9, s10] []))
                      refine own_st (fun t k => XS.iconst X0.here hx rfl (hb hby d1_210) k) ?_
                      show own_Go p e below G (s₁.setTop (mkF m 211 #[.val (.ref ba), .val (.int (1 : Int32)), .val (.int en), .val (.int i0), .val (.int (1 : Int32)), .val (.int ((B i0) &&& (255 : Int32))), .val (.int (4 : Int32)), .val (.int (144 : Int32)), .val (.int (191 : Int32)), s9, s10] [(.int (0 : Int32))]))
                      exact bad211 _ _ _ _ _ _ hs9 (show own_vl (B i0 &&& 255) (B (i0 + 1) &&& 255) (B (i0 + 2) &&& 255) (B (i0 + 3) &&& 255) (en - i0) = 0 by unfold own_vl; rw [if_neg c39_3, if_neg c53_4, if_pos c61_5, if_pos c83_6, if_neg c143_7, if_pos c154_8, if_neg (show ¬ (B i0 &&& 255) = 244 from fun q => absurd (c154_8.symm.trans q) (by decide)), if_pos c203_9])
                    · skip
                      refine own_st (fun t k => XS.icmpNo X0.here hx rfl (hb hby d1_203) rfl (flt c203_9).1 k) ?_
                      show own_Go p e below G (s₁.setTop (mkF m 206 #[.val (.ref ba), .val (.int (1 : Int32)), .val (.int en), .val (.int i0), .val (.int (1 : Int32)), .val (.int ((B i0) &&& (255 : Int32))), .val (.int (4 : Int32)), .val (.int (144 : Int32)), .val (.int (191 : Int32)), s9, s10] []))
                      refine own_st (fun t k => XS.iconst X0.here hx rfl (hb hby d1_206) k) ?_
                      show own_Go p e below G (s₁.setTop (mkF m 207 #[.val (.ref ba), .val (.int (1 : Int32)), .val (.int en), .val (.int i0), .val (.int (1 : Int32)), .val (.int ((B i0) &&& (255 : Int32))), .val (.int (4 : Int32)), .val (.int (144 : Int32)), .val (.int (191 : Int32)), s9, s10] [(.int (1 : Int32))]))
                      refine own_st (fun t k => XS.goto X0.here hx rfl (pc0 := 207) (pc' := 211) rfl (hb hby d1_207) (by decide) (by decide) k) ?_
                      show own_Go p e below G (s₁.setTop (mkF m 211 #[.val (.ref ba), .val (.int (1 : Int32)), .val (.int en), .val (.int i0), .val (.int (1 : Int32)), .val (.int ((B i0) &&& (255 : Int32))), .val (.int (4 : Int32)), .val (.int (144 : Int32)), .val (.int (191 : Int32)), s9, s10] [(.int (1 : Int32))]))
                      refine own_st (fun t k => XS.istore X0.here hx rfl (hb hby d1_211) rfl (l' := #[.val (.ref ba), .val (.int (1 : Int32)), .val (.int en), .val (.int i0), .val (.int (1 : Int32)), .val (.int ((B i0) &&& (255 : Int32))), .val (.int (4 : Int32)), .val (.int (144 : Int32)), .val (.int (191 : Int32)), s9, s10]) rfl k) ?_
                      show own_Go p e below G (s₁.setTop (mkF m 213 #[.val (.ref ba), .val (.int (1 : Int32)), .val (.int en), .val (.int i0), .val (.int (1 : Int32)), .val (.int ((B i0) &&& (255 : Int32))), .val (.int (4 : Int32)), .val (.int (144 : Int32)), .val (.int (191 : Int32)), s9, s10] []))
                      refine own_st (fun t k => XS.iconst X0.here hx rfl (hb hby d1_213) k) ?_
                      show own_Go p e below G (s₁.setTop (mkF m 214 #[.val (.ref ba), .val (.int (1 : Int32)), .val (.int en), .val (.int i0), .val (.int (1 : Int32)), .val (.int ((B i0) &&& (255 : Int32))), .val (.int (4 : Int32)), .val (.int (144 : Int32)), .val (.int (191 : Int32)), s9, s10] [(.int (1 : Int32))]))
                      refine own_st (fun t k => XS.istore X0.here hx rfl (hb hby d1_214) rfl (l' := #[.val (.ref ba), .val (.int (1 : Int32)), .val (.int en), .val (.int i0), .val (.int (1 : Int32)), .val (.int ((B i0) &&& (255 : Int32))), .val (.int (4 : Int32)), .val (.int (144 : Int32)), .val (.int (191 : Int32)), .val (.int (1 : Int32)), s10]) (XS.store1 rfl hs9 rfl) k) ?_
                      show own_Go p e below G (s₁.setTop (mkF m 216 #[.val (.ref ba), .val (.int (1 : Int32)), .val (.int en), .val (.int i0), .val (.int (1 : Int32)), .val (.int ((B i0) &&& (255 : Int32))), .val (.int (4 : Int32)), .val (.int (144 : Int32)), .val (.int (191 : Int32)), .val (.int (1 : Int32)), s10] []))
                      refine own_st (fun t k => XS.iload X0.here hx rfl (hb hby d1_216) rfl  k) ?_
                      show own_Go p e below G (s₁.setTop (mkF m 218 #[.val (.ref ba), .val (.int (1 : Int32)), .val (.int en), .val (.int i0), .val (.int (1 : Int32)), .val (.int ((B i0) &&& (255 : Int32))), .val (.int (4 : Int32)), .val (.int (144 : Int32)), .val (.int (191 : Int32)), .val (.int (1 : Int32)), s10] [(.int (1 : Int32))]))
                      refine own_st (fun t k => XS.ifNo X0.here hx rfl (hb hby d1_218) rfl ((if0 _ _).trans (feq (by decide)).1) k) ?_
                      show own_Go p e below G (s₁.setTop (mkF m 221 #[.val (.ref ba), .val (.int (1 : Int32)), .val (.int en), .val (.int i0), .val (.int (1 : Int32)), .val (.int ((B i0) &&& (255 : Int32))), .val (.int (4 : Int32)), .val (.int (144 : Int32)), .val (.int (191 : Int32)), .val (.int (1 : Int32)), s10] []))
                      refine own_st (fun t k => XS.iload X0.here hx rfl (hb hby d1_221) rfl  k) ?_
                      show own_Go p e below G (s₁.setTop (mkF m 223 #[.val (.ref ba), .val (.int (1 : Int32)), .val (.int en), .val (.int i0), .val (.int (1 : Int32)), .val (.int ((B i0) &&& (255 : Int32))), .val (.int (4 : Int32)), .val (.int (144 : Int32)), .val (.int (191 : Int32)), .val (.int (1 : Int32)), s10] [(.int (1 : Int32))]))
                      refine own_st (fun t k => XS.iload X0.here hx rfl (hb hby d1_223) rfl  k) ?_
                      show own_Go p e below G (s₁.setTop (mkF m 225 #[.val (.ref ba), .val (.int (1 : Int32)), .val (.int en), .val (.int i0), .val (.int (1 : Int32)), .val (.int ((B i0) &&& (255 : Int32))), .val (.int (4 : Int32)), .val (.int (144 : Int32)), .val (.int (191 : Int32)), .val (.int (1 : Int32)), s10] [(.int (4 : Int32)), (.int (1 : Int32))]))
                      refine own_st (fun t k => XS.icmpNo X0.here hx rfl (hb hby d1_225) rfl (tlt (by decide)).2.1 k) ?_
                      show own_Go p e below G (s₁.setTop (mkF m 228 #[.val (.ref ba), .val (.int (1 : Int32)), .val (.int en), .val (.int i0), .val (.int (1 : Int32)), .val (.int ((B i0) &&& (255 : Int32))), .val (.int (4 : Int32)), .val (.int (144 : Int32)), .val (.int (191 : Int32)), .val (.int (1 : Int32)), s10] []))
                      refine own_st (fun t k => XS.aloadN X0.here hx rfl (hb hby d1_228) rfl rfl  k) ?_
                      show own_Go p e below G (s₁.setTop (mkF m 229 #[.val (.ref ba), .val (.int (1 : Int32)), .val (.int en), .val (.int i0), .val (.int (1 : Int32)), .val (.int ((B i0) &&& (255 : Int32))), .val (.int (4 : Int32)), .val (.int (144 : Int32)), .val (.int (191 : Int32)), .val (.int (1 : Int32)), s10] [(.ref ba)]))
                      refine own_st (fun t k => XS.iloadN X0.here hx rfl (hb hby d1_229) rfl  k) ?_
                      show own_Go p e below G (s₁.setTop (mkF m 230 #[.val (.ref ba), .val (.int (1 : Int32)), .val (.int en), .val (.int i0), .val (.int (1 : Int32)), .val (.int ((B i0) &&& (255 : Int32))), .val (.int (4 : Int32)), .val (.int (144 : Int32)), .val (.int (191 : Int32)), .val (.int (1 : Int32)), s10] [(.int i0), (.ref ba)]))
                      refine own_st (fun t k => XS.iload X0.here hx rfl (hb hby d1_230) rfl  k) ?_
                      show own_Go p e below G (s₁.setTop (mkF m 232 #[.val (.ref ba), .val (.int (1 : Int32)), .val (.int en), .val (.int i0), .val (.int (1 : Int32)), .val (.int ((B i0) &&& (255 : Int32))), .val (.int (4 : Int32)), .val (.int (144 : Int32)), .val (.int (191 : Int32)), .val (.int (1 : Int32)), s10] [(.int (1 : Int32)), (.int i0), (.ref ba)]))
                      refine own_st (fun t k => XS.iadd X0.here hx rfl (hb hby d1_232) rfl k) ?_
                      show own_Go p e below G (s₁.setTop (mkF m 233 #[.val (.ref ba), .val (.int (1 : Int32)), .val (.int en), .val (.int i0), .val (.int (1 : Int32)), .val (.int ((B i0) &&& (255 : Int32))), .val (.int (4 : Int32)), .val (.int (144 : Int32)), .val (.int (191 : Int32)), .val (.int (1 : Int32)), s10] [(.int (i0 + (1 : Int32))), (.ref ba)]))
                      have hb10 := own_bd (n := 6) (own_in hi0 c12_1 he.2 c203_9 (j := (1 : Int32)) (by decide) (by decide) (by decide)) (Int.le_trans he.2 (by decide))
                      have hin10 := inb_of S0 hb10
                      refine own_st (fun t k => X0.baloadBytes hx (j := (i0 + (1 : Int32))) (v := (.int (B (i0 + (1 : Int32))))) (by rw [e0]; exact Ar0.1) (State.isArrayOf_alike hZ.alike Ar0.2.1) Ar0.2.2 hin10 (hB _ hb10.1 hb10.2) (g := (mkF m 233 #[.val (.ref ba), .val (.int (1 : Int32)), .val (.int en), .val (.int i0), .val (.int (1 : Int32)), .val (.int ((B i0) &&& (255 : Int32))), .val (.int (4 : Int32)), .val (.int (144 : Int32)), .val (.int (191 : Int32)), .val (.int (1 : Int32)), s10] [(.int (i0 + (1 : Int32))), (.ref ba)])) rfl rfl (hb hby d1_233) t k) ?_
                      show own_Go p e below G (s₁.setTop (mkF m 234 #[.val (.ref ba), .val (.int (1 : Int32)), .val (.int en), .val (.int i0), .val (.int (1 : Int32)), .val (.int ((B i0) &&& (255 : Int32))), .val (.int (4 : Int32)), .val (.int (144 : Int32)), .val (.int (191 : Int32)), .val (.int (1 : Int32)), s10] [(.int (B (i0 + (1 : Int32))))]))
                      refine own_st (fun t k => XS.sipush X0.here hx rfl (hb hby d1_234) k) ?_
                      show own_Go p e below G (s₁.setTop (mkF m 237 #[.val (.ref ba), .val (.int (1 : Int32)), .val (.int en), .val (.int i0), .val (.int (1 : Int32)), .val (.int ((B i0) &&& (255 : Int32))), .val (.int (4 : Int32)), .val (.int (144 : Int32)), .val (.int (191 : Int32)), .val (.int (1 : Int32)), s10] [(.int (255 : Int32)), (.int (B (i0 + (1 : Int32))))]))
                      refine own_st (fun t k => XS.iand X0.here hx rfl (hb hby d1_237) rfl k) ?_
                      show own_Go p e below G (s₁.setTop (mkF m 238 #[.val (.ref ba), .val (.int (1 : Int32)), .val (.int en), .val (.int i0), .val (.int (1 : Int32)), .val (.int ((B i0) &&& (255 : Int32))), .val (.int (4 : Int32)), .val (.int (144 : Int32)), .val (.int (191 : Int32)), .val (.int (1 : Int32)), s10] [(.int ((B (i0 + (1 : Int32))) &&& (255 : Int32)))]))
                      refine own_st (fun t k => XS.istore X0.here hx rfl (hb hby d1_238) rfl (l' := #[.val (.ref ba), .val (.int (1 : Int32)), .val (.int en), .val (.int i0), .val (.int (1 : Int32)), .val (.int ((B i0) &&& (255 : Int32))), .val (.int (4 : Int32)), .val (.int (144 : Int32)), .val (.int (191 : Int32)), .val (.int (1 : Int32)), .val (.int ((B (i0 + (1 : Int32))) &&& (255 : Int32)))]) (XS.store1 rfl hs10 rfl) k) ?_
                      show own_Go p e below G (s₁.setTop (mkF m 240 #[.val (.ref ba), .val (.int (1 : Int32)), .val (.int en), .val (.int i0), .val (.int (1 : Int32)), .val (.int ((B i0) &&& (255 : Int32))), .val (.int (4 : Int32)), .val (.int (144 : Int32)), .val (.int (191 : Int32)), .val (.int (1 : Int32)), .val (.int ((B (i0 + (1 : Int32))) &&& (255 : Int32)))] []))
                      refine own_st (fun t k => XS.iload X0.here hx rfl (hb hby d1_240) rfl  k) ?_
                      show own_Go p e below G (s₁.setTop (mkF m 242 #[.val (.ref ba), .val (.int (1 : Int32)), .val (.int en), .val (.int i0), .val (.int (1 : Int32)), .val (.int ((B i0) &&& (255 : Int32))), .val (.int (4 : Int32)), .val (.int (144 : Int32)), .val (.int (191 : Int32)), .val (.int (1 : Int32)), .val (.int ((B (i0 + (1 : Int32))) &&& (255 : Int32)))] [(.int (1 : Int32))]))
                      refine own_st (fun t k => XS.iconst X0.here hx rfl (hb hby d1_242) k) ?_
                      show own_Go p e below G (s₁.setTop (mkF m 243 #[.val (.ref ba), .val (.int (1 : Int32)), .val (.int en), .val (.int i0), .val (.int (1 : Int32)), .val (.int ((B i0) &&& (255 : Int32))), .val (.int (4 : Int32)), .val (.int (144 : Int32)), .val (.int (191 : Int32)), .val (.int (1 : Int32)), .val (.int ((B (i0 + (1 : Int32))) &&& (255 : Int32)))] [(.int (1 : Int32)), (.int (1 : Int32))]))
                      refine own_st (fun t k => XS.icmpNo X0.here hx rfl (hb hby d1_243) rfl (teq (by decide)).2 k) ?_
                      show own_Go p e below G (s₁.setTop (mkF m 246 #[.val (.ref ba), .val (.int (1 : Int32)), .val (.int en), .val (.int i0), .val (.int (1 : Int32)), .val (.int ((B i0) &&& (255 : Int32))), .val (.int (4 : Int32)), .val (.int (144 : Int32)), .val (.int (191 : Int32)), .val (.int (1 : Int32)), .val (.int ((B (i0 + (1 : Int32))) &&& (255 : Int32)))] []))
                      refine own_st (fun t k => XS.iload X0.here hx rfl (hb hby d1_246) rfl  k) ?_
                      show own_Go p e below G (s₁.setTop (mkF m 248 #[.val (.ref ba), .val (.int (1 : Int32)), .val (.int en), .val (.int i0), .val (.int (1 : Int32)), .val (.int ((B i0) &&& (255 : Int32))), .val (.int (4 : Int32)), .val (.int (144 : Int32)), .val (.int (191 : Int32)), .val (.int (1 : Int32)), .val (.int ((B (i0 + (1 : Int32))) &&& (255 : Int32)))] [(.int ((B (i0 + (1 : Int32))) &&& (255 : Int32)))]))
                      refine own_st (fun t k => XS.iload X0.here hx rfl (hb hby d1_248) rfl  k) ?_
                      show own_Go p e below G (s₁.setTop (mkF m 250 #[.val (.ref ba), .val (.int (1 : Int32)), .val (.int en), .val (.int i0), .val (.int (1 : Int32)), .val (.int ((B i0) &&& (255 : Int32))), .val (.int (4 : Int32)), .val (.int (144 : Int32)), .val (.int (191 : Int32)), .val (.int (1 : Int32)), .val (.int ((B (i0 + (1 : Int32))) &&& (255 : Int32)))] [(.int (144 : Int32)), (.int ((B (i0 + (1 : Int32))) &&& (255 : Int32)))]))
                      by_cases c250_11 : ((B (i0 + (1 : Int32))) &&& (255 : Int32)) < (144 : Int32)
                      · skip
                        refine own_st (fun t k => XS.icmpYes X0.here hx rfl (pc0 := 250) (pc' := 264) rfl (hb hby d1_250) rfl (tlt c250_11).1 (by decide) (by decide) k) ?_
                        show own_Go p e below G (s₁.setTop (mkF m 264 #[.val (.ref ba), .val (.int (1 : Int32)), .val (.int en), .val (.int i0), .val (.int (1 : Int32)), .val (.int ((B i0) &&& (255 : Int32))), .val (.int (4 : Int32)), .val (.int (144 : Int32)), .val (.int (191 : Int32)), .val (.int (1 : Int32)), .val (.int ((B (i0 + (1 : Int32))) &&& (255 : Int32)))] []))
                        refine own_st (fun t k => XS.iconst X0.here hx rfl (hb hby d1_264) k) ?_
                        show own_Go p e below G (s₁.setTop (mkF m 265 #[.val (.ref ba), .val (.int (1 : Int32)), .val (.int en), .val (.int i0), .val (.int (1 : Int32)), .val (.int ((B i0) &&& (255 : Int32))), .val (.int (4 : Int32)), .val (.int (144 : Int32)), .val (.int (191 : Int32)), .val (.int (1 : Int32)), .val (.int ((B (i0 + (1 : Int32))) &&& (255 : Int32)))] [(.int (0 : Int32))]))
                        refine own_st (fun t k => XS.goto X0.here hx rfl (pc0 := 265) (pc' := 289) rfl (hb hby d1_265) (by decide) (by decide) k) ?_
                        show own_Go p e below G (s₁.setTop (mkF m 289 #[.val (.ref ba), .val (.int (1 : Int32)), .val (.int en), .val (.int i0), .val (.int (1 : Int32)), .val (.int ((B i0) &&& (255 : Int32))), .val (.int (4 : Int32)), .val (.int (144 : Int32)), .val (.int (191 : Int32)), .val (.int (1 : Int32)), .val (.int ((B (i0 + (1 : Int32))) &&& (255 : Int32)))] [(.int (0 : Int32))]))
                        exact bad289 _ _ _ _ _ _ (show own_vl (B i0 &&& 255) (B (i0 + 1) &&& 255) (B (i0 + 2) &&& 255) (B (i0 + 3) &&& 255) (en - i0) = 0 by unfold own_vl; rw [if_neg c39_3, if_neg c53_4, if_pos c61_5, if_pos c83_6, if_neg c143_7, if_pos c154_8, if_neg (show ¬ (B i0 &&& 255) = 244 from fun q => absurd (c154_8.symm.trans q) (by decide)), if_neg c203_9, if_pos c250_11])
                      · skip
                        refine own_st (fun t k => XS.icmpNo X0.here hx rfl (hb hby d1_250) rfl (flt c250_11).1 k) ?_
                        show own_Go p e below G (s₁.setTop (mkF m 253 #[.val (.ref ba), .val (.int (1 : Int32)), .val (.int en), .val (.int i0), .val (.int (1 : Int32)), .val (.int ((B i0) &&& (255 : Int32))), .val (.int (4 : Int32)), .val (.int (144 : Int32)), .val (.int (191 : Int32)), .val (.int (1 : Int32)), .val (.int ((B (i0 + (1 : Int32))) &&& (255 : Int32)))] []))
                        refine own_st (fun t k => XS.iload X0.here hx rfl (hb hby d1_253) rfl  k) ?_
                        show own_Go p e below G (s₁.setTop (mkF m 255 #[.val (.ref ba), .val (.int (1 : Int32)), .val (.int en), .val (.int i0), .val (.int (1 : Int32)), .val (.int ((B i0) &&& (255 : Int32))), .val (.int (4 : Int32)), .val (.int (144 : Int32)), .val (.int (191 : Int32)), .val (.int (1 : Int32)), .val (.int ((B (i0 + (1 : Int32))) &&& (255 : Int32)))] [(.int ((B (i0 + (1 : Int32))) &&& (255 : Int32)))]))
                        refine own_st (fun t k => XS.iload X0.here hx rfl (hb hby d1_255) rfl  k) ?_
                        show own_Go p e below G (s₁.setTop (mkF m 257 #[.val (.ref ba), .val (.int (1 : Int32)), .val (.int en), .val (.int i0), .val (.int (1 : Int32)), .val (.int ((B i0) &&& (255 : Int32))), .val (.int (4 : Int32)), .val (.int (144 : Int32)), .val (.int (191 : Int32)), .val (.int (1 : Int32)), .val (.int ((B (i0 + (1 : Int32))) &&& (255 : Int32)))] [(.int (191 : Int32)), (.int ((B (i0 + (1 : Int32))) &&& (255 : Int32)))]))
                        by_cases c257_12 : (191 : Int32) < ((B (i0 + (1 : Int32))) &&& (255 : Int32))
                        · skip
                          refine own_st (fun t k => XS.icmpYes X0.here hx rfl (pc0 := 257) (pc' := 264) rfl (hb hby d1_257) rfl (tlt c257_12).2.2.1 (by decide) (by decide) k) ?_
                          show own_Go p e below G (s₁.setTop (mkF m 264 #[.val (.ref ba), .val (.int (1 : Int32)), .val (.int en), .val (.int i0), .val (.int (1 : Int32)), .val (.int ((B i0) &&& (255 : Int32))), .val (.int (4 : Int32)), .val (.int (144 : Int32)), .val (.int (191 : Int32)), .val (.int (1 : Int32)), .val (.int ((B (i0 + (1 : Int32))) &&& (255 : Int32)))] []))
                          refine own_st (fun t k => XS.iconst X0.here hx rfl (hb hby d1_264) k) ?_
                          show own_Go p e below G (s₁.setTop (mkF m 265 #[.val (.ref ba), .val (.int (1 : Int32)), .val (.int en), .val (.int i0), .val (.int (1 : Int32)), .val (.int ((B i0) &&& (255 : Int32))), .val (.int (4 : Int32)), .val (.int (144 : Int32)), .val (.int (191 : Int32)), .val (.int (1 : Int32)), .val (.int ((B (i0 + (1 : Int32))) &&& (255 : Int32)))] [(.int (0 : Int32))]))
                          refine own_st (fun t k => XS.goto X0.here hx rfl (pc0 := 265) (pc' := 289) rfl (hb hby d1_265) (by decide) (by decide) k) ?_
                          show own_Go p e below G (s₁.setTop (mkF m 289 #[.val (.ref ba), .val (.int (1 : Int32)), .val (.int en), .val (.int i0), .val (.int (1 : Int32)), .val (.int ((B i0) &&& (255 : Int32))), .val (.int (4 : Int32)), .val (.int (144 : Int32)), .val (.int (191 : Int32)), .val (.int (1 : Int32)), .val (.int ((B (i0 + (1 : Int32))) &&& (255 : Int32)))] [(.int (0 : Int32))]))
                          exact bad289 _ _ _ _ _ _ (show own_vl (B i0 &&& 255) (B (i0 + 1) &&& 255) (B (i0 + 2) &&& 255) (B (i0 + 3) &&& 255) (en - i0) = 0 by unfold own_vl; rw [if_neg c39_3, if_neg c53_4, if_pos c61_5, if_pos c83_6, if_neg c143_7, if_pos c154_8, if_neg (show ¬ (B i0 &&& 255) = 244 from fun q => absurd (c154_8.symm.trans q) (by decide)), if_neg c203_9, if_neg c250_11, if_pos c257_12])
                        · skip
                          refine own_st (fun t k => XS.icmpNo X0.here hx rfl (hb hby d1_257) rfl (flt c257_12).2.2.1 k) ?_
                          show own_Go p e below G (s₁.setTop (mkF m 260 #[.val (.ref ba), .val (.int (1 : Int32)), .val (.int en), .val (.int i0), .val (.int (1 : Int32)), .val (.int ((B i0) &&& (255 : Int32))), .val (.int (4 : Int32)), .val (.int (144 : Int32)), .val (.int (191 : Int32)), .val (.int (1 : Int32)), .val (.int ((B (i0 + (1 : Int32))) &&& (255 : Int32)))] []))
                          refine own_st (fun t k => XS.iconst X0.here hx rfl (hb hby d1_260) k) ?_
                          show own_Go p e below G (s₁.setTop (mkF m 261 #[.val (.ref ba), .val (.int (1 : Int32)), .val (.int en), .val (.int i0), .val (.int (1 : Int32)), .val (.int ((B i0) &&& (255 : Int32))), .val (.int (4 : Int32)), .val (.int (144 : Int32)), .val (.int (191 : Int32)), .val (.int (1 : Int32)), .val (.int ((B (i0 + (1 : Int32))) &&& (255 : Int32)))] [(.int (1 : Int32))]))
                          refine own_st (fun t k => XS.goto X0.here hx rfl (pc0 := 261) (pc' := 289) rfl (hb hby d1_261) (by decide) (by decide) k) ?_
                          show own_Go p e below G (s₁.setTop (mkF m 289 #[.val (.ref ba), .val (.int (1 : Int32)), .val (.int en), .val (.int i0), .val (.int (1 : Int32)), .val (.int ((B i0) &&& (255 : Int32))), .val (.int (4 : Int32)), .val (.int (144 : Int32)), .val (.int (191 : Int32)), .val (.int (1 : Int32)), .val (.int ((B (i0 + (1 : Int32))) &&& (255 : Int32)))] [(.int (1 : Int32))]))
                          refine own_st (fun t k => XS.istore X0.here hx rfl (hb hby d1_289) rfl (l' := #[.val (.ref ba), .val (.int (1 : Int32)), .val (.int en), .val (.int i0), .val (.int (1 : Int32)), .val (.int ((B i0) &&& (255 : Int32))), .val (.int (4 : Int32)), .val (.int (144 : Int32)), .val (.int (191 : Int32)), .val (.int (1 : Int32)), .val (.int ((B (i0 + (1 : Int32))) &&& (255 : Int32)))]) rfl k) ?_
                          show own_Go p e below G (s₁.setTop (mkF m 291 #[.val (.ref ba), .val (.int (1 : Int32)), .val (.int en), .val (.int i0), .val (.int (1 : Int32)), .val (.int ((B i0) &&& (255 : Int32))), .val (.int (4 : Int32)), .val (.int (144 : Int32)), .val (.int (191 : Int32)), .val (.int (1 : Int32)), .val (.int ((B (i0 + (1 : Int32))) &&& (255 : Int32)))] []))
                          refine own_st (fun t k => XS.iinc X0.here hx rfl (hb hby d1_291) rfl (l' := #[.val (.ref ba), .val (.int (1 : Int32)), .val (.int en), .val (.int i0), .val (.int (1 : Int32)), .val (.int ((B i0) &&& (255 : Int32))), .val (.int (4 : Int32)), .val (.int (144 : Int32)), .val (.int (191 : Int32)), .val (.int (2 : Int32)), .val (.int ((B (i0 + (1 : Int32))) &&& (255 : Int32)))]) rfl k) ?_
                          show own_Go p e below G (s₁.setTop (mkF m 294 #[.val (.ref ba), .val (.int (1 : Int32)), .val (.int en), .val (.int i0), .val (.int (1 : Int32)), .val (.int ((B i0) &&& (255 : Int32))), .val (.int (4 : Int32)), .val (.int (144 : Int32)), .val (.int (191 : Int32)), .val (.int (2 : Int32)), .val (.int ((B (i0 + (1 : Int32))) &&& (255 : Int32)))] []))
                          refine own_st (fun t k => XS.goto X0.here hx rfl (pc0 := 294) (pc' := 216) rfl (hb hby d1_294) (by decide) (by decide) k) ?_
                          show own_Go p e below G (s₁.setTop (mkF m 216 #[.val (.ref ba), .val (.int (1 : Int32)), .val (.int en), .val (.int i0), .val (.int (1 : Int32)), .val (.int ((B i0) &&& (255 : Int32))), .val (.int (4 : Int32)), .val (.int (144 : Int32)), .val (.int (191 : Int32)), .val (.int (2 : Int32)), .val (.int ((B (i0 + (1 : Int32))) &&& (255 : Int32)))] []))
                          refine own_st (fun t k => XS.iload X0.here hx rfl (hb hby d1_216) rfl  k) ?_
                          show own_Go p e below G (s₁.setTop (mkF m 218 #[.val (.ref ba), .val (.int (1 : Int32)), .val (.int en), .val (.int i0), .val (.int (1 : Int32)), .val (.int ((B i0) &&& (255 : Int32))), .val (.int (4 : Int32)), .val (.int (144 : Int32)), .val (.int (191 : Int32)), .val (.int (2 : Int32)), .val (.int ((B (i0 + (1 : Int32))) &&& (255 : Int32)))] [(.int (1 : Int32))]))
                          refine own_st (fun t k => XS.ifNo X0.here hx rfl (hb hby d1_218) rfl ((if0 _ _).trans (feq (by decide)).1) k) ?_
                          show own_Go p e below G (s₁.setTop (mkF m 221 #[.val (.ref ba), .val (.int (1 : Int32)), .val (.int en), .val (.int i0), .val (.int (1 : Int32)), .val (.int ((B i0) &&& (255 : Int32))), .val (.int (4 : Int32)), .val (.int (144 : Int32)), .val (.int (191 : Int32)), .val (.int (2 : Int32)), .val (.int ((B (i0 + (1 : Int32))) &&& (255 : Int32)))] []))
                          refine own_st (fun t k => XS.iload X0.here hx rfl (hb hby d1_221) rfl  k) ?_
                          show own_Go p e below G (s₁.setTop (mkF m 223 #[.val (.ref ba), .val (.int (1 : Int32)), .val (.int en), .val (.int i0), .val (.int (1 : Int32)), .val (.int ((B i0) &&& (255 : Int32))), .val (.int (4 : Int32)), .val (.int (144 : Int32)), .val (.int (191 : Int32)), .val (.int (2 : Int32)), .val (.int ((B (i0 + (1 : Int32))) &&& (255 : Int32)))] [(.int (2 : Int32))]))
                          refine own_st (fun t k => XS.iload X0.here hx rfl (hb hby d1_223) rfl  k) ?_
                          show own_Go p e below G (s₁.setTop (mkF m 225 #[.val (.ref ba), .val (.int (1 : Int32)), .val (.int en), .val (.int i0), .val (.int (1 : Int32)), .val (.int ((B i0) &&& (255 : Int32))), .val (.int (4 : Int32)), .val (.int (144 : Int32)), .val (.int (191 : Int32)), .val (.int (2 : Int32)), .val (.int ((B (i0 + (1 : Int32))) &&& (255 : Int32)))] [(.int (4 : Int32)), (.int (2 : Int32))]))
                          refine own_st (fun t k => XS.icmpNo X0.here hx rfl (hb hby d1_225) rfl (tlt (by decide)).2.1 k) ?_
                          show own_Go p e below G (s₁.setTop (mkF m 228 #[.val (.ref ba), .val (.int (1 : Int32)), .val (.int en), .val (.int i0), .val (.int (1 : Int32)), .val (.int ((B i0) &&& (255 : Int32))), .val (.int (4 : Int32)), .val (.int (144 : Int32)), .val (.int (191 : Int32)), .val (.int (2 : Int32)), .val (.int ((B (i0 + (1 : Int32))) &&& (255 : Int32)))] []))
                          refine own_st (fun t k => XS.aloadN X0.here hx rfl (hb hby d1_228) rfl rfl  k) ?_
                          show own_Go p e below G (s₁.setTop (mkF m 229 #[.val (.ref ba), .val (.int (1 : Int32)), .val (.int en), .val (.int i0), .val (.int (1 : Int32)), .val (.int ((B i0) &&& (255 : Int32))), .val (.int (4 : Int32)), .val (.int (144 : Int32)), .val (.int (191 : Int32)), .val (.int (2 : Int32)), .val (.int ((B (i0 + (1 : Int32))) &&& (255 : Int32)))] [(.ref ba)]))
                          refine own_st (fun t k => XS.iloadN X0.here hx rfl (hb hby d1_229) rfl  k) ?_
                          show own_Go p e below G (s₁.setTop (mkF m 230 #[.val (.ref ba), .val (.int (1 : Int32)), .val (.int en), .val (.int i0), .val (.int (1 : Int32)), .val (.int ((B i0) &&& (255 : Int32))), .val (.int (4 : Int32)), .val (.int (144 : Int32)), .val (.int (191 : Int32)), .val (.int (2 : Int32)), .val (.int ((B (i0 + (1 : Int32))) &&& (255 : Int32)))] [(.int i0), (.ref ba)]))
                          refine own_st (fun t k => XS.iload X0.here hx rfl (hb hby d1_230) rfl  k) ?_
                          show own_Go p e below G (s₁.setTop (mkF m 232 #[.val (.ref ba), .val (.int (1 : Int32)), .val (.int en), .val (.int i0), .val (.int (1 : Int32)), .val (.int ((B i0) &&& (255 : Int32))), .val (.int (4 : Int32)), .val (.int (144 : Int32)), .val (.int (191 : Int32)), .val (.int (2 : Int32)), .val (.int ((B (i0 + (1 : Int32))) &&& (255 : Int32)))] [(.int (2 : Int32)), (.int i0), (.ref ba)]))
                          refine own_st (fun t k => XS.iadd X0.here hx rfl (hb hby d1_232) rfl k) ?_
                          show own_Go p e below G (s₁.setTop (mkF m 233 #[.val (.ref ba), .val (.int (1 : Int32)), .val (.int en), .val (.int i0), .val (.int (1 : Int32)), .val (.int ((B i0) &&& (255 : Int32))), .val (.int (4 : Int32)), .val (.int (144 : Int32)), .val (.int (191 : Int32)), .val (.int (2 : Int32)), .val (.int ((B (i0 + (1 : Int32))) &&& (255 : Int32)))] [(.int (i0 + (2 : Int32))), (.ref ba)]))
                          have hb13 := own_bd (n := 6) (own_in hi0 c12_1 he.2 c203_9 (j := (2 : Int32)) (by decide) (by decide) (by decide)) (Int.le_trans he.2 (by decide))
                          have hin13 := inb_of S0 hb13
                          refine own_st (fun t k => X0.baloadBytes hx (j := (i0 + (2 : Int32))) (v := (.int (B (i0 + (2 : Int32))))) (by rw [e0]; exact Ar0.1) (State.isArrayOf_alike hZ.alike Ar0.2.1) Ar0.2.2 hin13 (hB _ hb13.1 hb13.2) (g := (mkF m 233 #[.val (.ref ba), .val (.int (1 : Int32)), .val (.int en), .val (.int i0), .val (.int (1 : Int32)), .val (.int ((B i0) &&& (255 : Int32))), .val (.int (4 : Int32)), .val (.int (144 : Int32)), .val (.int (191 : Int32)), .val (.int (2 : Int32)), .val (.int ((B (i0 + (1 : Int32))) &&& (255 : Int32)))] [(.int (i0 + (2 : Int32))), (.ref ba)])) rfl rfl (hb hby d1_233) t k) ?_
                          show own_Go p e below G (s₁.setTop (mkF m 234 #[.val (.ref ba), .val (.int (1 : Int32)), .val (.int en), .val (.int i0), .val (.int (1 : Int32)), .val (.int ((B i0) &&& (255 : Int32))), .val (.int (4 : Int32)), .val (.int (144 : Int32)), .val (.int (191 : Int32)), .val (.int (2 : Int32)), .val (.int ((B (i0 + (1 : Int32))) &&& (255 : Int32)))] [(.int (B (i0 + (2 : Int32))))]))
                          refine own_st (fun t k => XS.sipush X0.here hx rfl (hb hby d1_234) k) ?_
                          show own_Go p e below G (s₁.setTop (mkF m 237 #[.val (.ref ba), .val (.int (1 : Int32)), .val (.int en), .val (.int i0), .val (.int (1 : Int32)), .val (.int ((B i0) &&& (255 : Int32))), .val (.int (4 : Int32)), .val (.int (144 : Int32)), .val (.int (191 : Int32)), .val (.int (2 : Int32)), .val (.int ((B (i0 + (1 : Int32))) &&& (255 : Int32)))] [(.int (255 : Int32)), (.int (B (i0 + (2 : Int32))))]))
                          refine own_st (fun t k => XS.iand X0.here hx rfl (hb hby d1_237) rfl k) ?_
                          show own_Go p e below G (s₁.setTop (mkF m 238 #[.val (.ref ba), .val (.int (1 : Int32)), .val (.int en), .val (.int i0), .val (.int (1 : Int32)), .val (.int ((B i0) &&& (255 : Int32))), .val (.int (4 : Int32)), .val (.int (144 : Int32)), .val (.int (191 : Int32)), .val (.int (2 : Int32)), .val (.int ((B (i0 + (1 : Int32))) &&& (255 : Int32)))] [(.int ((B (i0 + (2 : Int32))) &&& (255 : Int32)))]))
                          refine own_st (fun t k => XS.istore X0.here hx rfl (hb hby d1_238) rfl (l' := #[.val (.ref ba), .val (.int (1 : Int32)), .val (.int en), .val (.int i0), .val (.int (1 : Int32)), .val (.int ((B i0) &&& (255 : Int32))), .val (.int (4 : Int32)), .val (.int (144 : Int32)), .val (.int (191 : Int32)), .val (.int (2 : Int32)), .val (.int ((B (i0 + (2 : Int32))) &&& (255 : Int32)))]) rfl k) ?_
                          show own_Go p e below G (s₁.setTop (mkF m 240 #[.val (.ref ba), .val (.int (1 : Int32)), .val (.int en), .val (.int i0), .val (.int (1 : Int32)), .val (.int ((B i0) &&& (255 : Int32))), .val (.int (4 : Int32)), .val (.int (144 : Int32)), .val (.int (191 : Int32)), .val (.int (2 : Int32)), .val (.int ((B (i0 + (2 : Int32))) &&& (255 : Int32)))] []))
                          refine own_st (fun t k => XS.iload X0.here hx rfl (hb hby d1_240) rfl  k) ?_
                          show own_Go p e below G (s₁.setTop (mkF m 242 #[.val (.ref ba), .val (.int (1 : Int32)), .val (.int en), .val (.int i0), .val (.int (1 : Int32)), .val (.int ((B i0) &&& (255 : Int32))), .val (.int (4 : Int32)), .val (.int (144 : Int32)), .val (.int (191 : Int32)), .val (.int (2 : Int32)), .val (.int ((B (i0 + (2 : Int32))) &&& (255 : Int32)))] [(.int (2 : Int32))]))
                          refine own_st (fun t k => XS.iconst X0.here hx rfl (hb hby d1_242) k) ?_
                          show own_Go p e below G (s₁.setTop (mkF m 243 #[.val (.ref ba), .val (.int (1 : Int32)), .val (.int en), .val (.int i0), .val (.int (1 : Int32)), .val (.int ((B i0) &&& (255 : Int32))), .val (.int (4 : Int32)), .val (.int (144 : Int32)), .val (.int (191 : Int32)), .val (.int (2 : Int32)), .val (.int ((B (i0 + (2 : Int32))) &&& (255 : Int32)))] [(.int (1 : Int32)), (.int (2 : Int32))]))
                          refine own_st (fun t k => XS.icmpYes X0.here hx rfl (pc0 := 243) (pc' := 268) rfl (hb hby d1_243) rfl (feq (by decide)).2 (by decide) (by decide) k) ?_
                          show own_Go p e below G (s₁.setTop (mkF m 268 #[.val (.ref ba), .val (.int (1 : Int32)), .val (.int en), .val (.int i0), .val (.int (1 : Int32)), .val (.int ((B i0) &&& (255 : Int32))), .val (.int (4 : Int32)), .val (.int (144 : Int32)), .val (.int (191 : Int32)), .val (.int (2 : Int32)), .val (.int ((B (i0 + (2 : Int32))) &&& (255 : Int32)))] []))
                          refine own_st (fun t k => XS.iload X0.here hx rfl (hb hby d1_268) rfl  k) ?_
                          show own_Go p e below G (s₁.setTop (mkF m 270 #[.val (.ref ba), .val (.int (1 : Int32)), .val (.int en), .val (.int i0), .val (.int (1 : Int32)), .val (.int ((B i0) &&& (255 : Int32))), .val (.int (4 : Int32)), .val (.int (144 : Int32)), .val (.int (191 : Int32)), .val (.int (2 : Int32)), .val (.int ((B (i0 + (2 : Int32))) &&& (255 : Int32)))] [(.int ((B (i0 + (2 : Int32))) &&& (255 : Int32)))]))
                          refine own_st (fun t k => XS.sipush X0.here hx rfl (hb hby d1_270) k) ?_
                          show own_Go p e below G (s₁.setTop (mkF m 273 #[.val (.ref ba), .val (.int (1 : Int32)), .val (.int en), .val (.int i0), .val (.int (1 : Int32)), .val (.int ((B i0) &&& (255 : Int32))), .val (.int (4 : Int32)), .val (.int (144 : Int32)), .val (.int (191 : Int32)), .val (.int (2 : Int32)), .val (.int ((B (i0 + (2 : Int32))) &&& (255 : Int32)))] [(.int (128 : Int32)), (.int ((B (i0 + (2 : Int32))) &&& (255 : Int32)))]))
                          by_cases c273_14 : ((B (i0 + (2 : Int32))) &&& (255 : Int32)) < (128 : Int32)
                          · skip
                            refine own_st (fun t k => XS.icmpYes X0.here hx rfl (pc0 := 273) (pc' := 288) rfl (hb hby d1_273) rfl (tlt c273_14).1 (by decide) (by decide) k) ?_
                            show own_Go p e below G (s₁.setTop (mkF m 288 #[.val (.ref ba), .val (.int (1 : Int32)), .val (.int en), .val (.int i0), .val (.int (1 : Int32)), .val (.int ((B i0) &&& (255 : Int32))), .val (.int (4 : Int32)), .val (.int (144 : Int32)), .val (.int (191 : Int32)), .val (.int (2 : Int32)), .val (.int ((B (i0 + (2 : Int32))) &&& (255 : Int32)))] []))
                            refine own_st (fun t k => XS.iconst X0.here hx rfl (hb hby d1_288) k) ?_
                            show own_Go p e below G (s₁.setTop (mkF m 289 #[.val (.ref ba), .val (.int (1 : Int32)), .val (.int en), .val (.int i0), .val (.int (1 : Int32)), .val (.int ((B i0) &&& (255 : Int32))), .val (.int (4 : Int32)), .val (.int (144 : Int32)), .val (.int (191 : Int32)), .val (.int (2 : Int32)), .val (.int ((B (i0 + (2 : Int32))) &&& (255 : Int32)))] [(.int (0 : Int32))]))
                            exact bad289 _ _ _ _ _ _ (show own_vl (B i0 &&& 255) (B (i0 + 1) &&& 255) (B (i0 + 2) &&& 255) (B (i0 + 3) &&& 255) (en - i0) = 0 by unfold own_vl; rw [if_neg c39_3, if_neg c53_4, if_pos c61_5, if_pos c83_6, if_neg c143_7, if_pos c154_8, if_neg (show ¬ (B i0 &&& 255) = 244 from fun q => absurd (c154_8.symm.trans q) (by decide)), if_neg c203_9, if_neg c250_11, if_neg c257_12, if_pos c273_14])
                          · skip
                            refine own_st (fun t k => XS.icmpNo X0.here hx rfl (hb hby d1_273) rfl (flt c273_14).1 k) ?_
                            show own_Go p e below G (s₁.setTop (mkF m 276 #[.val (.ref ba), .val (.int (1 : Int32)), .val (.int en), .val (.int i0), .val (.int (1 : Int32)), .val (.int ((B i0) &&& (255 : Int32))), .val (.int (4 : Int32)), .val (.int (144 : Int32)), .val (.int (191 : Int32)), .val (.int (2 : Int32)), .val (.int ((B (i0 + (2 : Int32))) &&& (255 : Int32)))] []))
                            refine own_st (fun t k => XS.iload X0.here hx rfl (hb hby d1_276) rfl  k) ?_
                            show own_Go p e below G (s₁.setTop (mkF m 278 #[.val (.ref ba), .val (.int (1 : Int32)), .val (.int en), .val (.int i0), .val (.int (1 : Int32)), .val (.int ((B i0) &&& (255 : Int32))), .val (.int (4 : Int32)), .val (.int (144 : Int32)), .val (.int (191 : Int32)), .val (.int (2 : Int32)), .val (.int ((B (i0 + (2 : Int32))) &&& (255 : Int32)))] [(.int ((B (i0 + (2 : Int32))) &&& (255 : Int32)))]))
                            refine own_st (fun t k => XS.sipush X0.here hx rfl (hb hby d1_278) k) ?_
                            show own_Go p e below G (s₁.setTop (mkF m 281 #[.val (.ref ba), .val (.int (1 : Int32)), .val (.int en), .val (.int i0), .val (.int (1 : Int32)), .val (.int ((B i0) &&& (255 : Int32))), .val (.int (4 : Int32)), .val (.int (144 : Int32)), .val (.int (191 : Int32)), .val (.int (2 : Int32)), .val (.int ((B (i0 + (2 : Int32))) &&& (255 : Int32)))] [(.int (191 : Int32)), (.int ((B (i0 + (2 : Int32))) &&& (255 : Int32)))]))
                            by_cases c281_15 : (191 : Int32) < ((B (i0 + (2 : Int32))) &&& (255 : Int32))
                            · skip
                              refine own_st (fun t k => XS.icmpYes X0.here hx rfl (pc0 := 281) (pc' := 288) rfl (hb hby d1_281) rfl (tlt c281_15).2.2.1 (by decide) (by decide) k) ?_
                              show own_Go p e below G (s₁.setTop (mkF m 288 #[.val (.ref ba), .val (.int (1 : Int32)), .val (.int en), .val (.int i0), .val (.int (1 : Int32)), .val (.int ((B i0) &&& (255 : Int32))), .val (.int (4 : Int32)), .val (.int (144 : Int32)), .val (.int (191 : Int32)), .val (.int (2 : Int32)), .val (.int ((B (i0 + (2 : Int32))) &&& (255 : Int32)))] []))
                              refine own_st (fun t k => XS.iconst X0.here hx rfl (hb hby d1_288) k) ?_
                              show own_Go p e below G (s₁.setTop (mkF m 289 #[.val (.ref ba), .val (.int (1 : Int32)), .val (.int en), .val (.int i0), .val (.int (1 : Int32)), .val (.int ((B i0) &&& (255 : Int32))), .val (.int (4 : Int32)), .val (.int (144 : Int32)), .val (.int (191 : Int32)), .val (.int (2 : Int32)), .val (.int ((B (i0 + (2 : Int32))) &&& (255 : Int32)))] [(.int (0 : Int32))]))
                              exact bad289 _ _ _ _ _ _ (show own_vl (B i0 &&& 255) (B (i0 + 1) &&& 255) (B (i0 + 2) &&& 255) (B (i0 + 3) &&& 255) (en - i0) = 0 by unfold own_vl; rw [if_neg c39_3, if_neg c53_4, if_pos c61_5, if_pos c83_6, if_neg c143_7, if_pos c154_8, if_neg (show ¬ (B i0 &&& 255) = 244 from fun q => absurd (c154_8.symm.trans q) (by decide)), if_neg c203_9, if_neg c250_11, if_neg c257_12, if_neg c273_14, if_pos c281_15])
                            · skip
                              refine own_st (fun t k => XS.icmpNo X0.here hx rfl (hb hby d1_281) rfl (flt c281_15).2.2.1 k) ?_
                              show own_Go p e below G (s₁.setTop (mkF m 284 #[.val (.ref ba), .val (.int (1 : Int32)), .val (.int en), .val (.int i0), .val (.int (1 : Int32)), .val (.int ((B i0) &&& (255 : Int32))), .val (.int (4 : Int32)), .val (.int (144 : Int32)), .val (.int (191 : Int32)), .val (.int (2 : Int32)), .val (.int ((B (i0 + (2 : Int32))) &&& (255 : Int32)))] []))
                              refine own_st (fun t k => XS.iconst X0.here hx rfl (hb hby d1_284) k) ?_
                              show own_Go p e below G (s₁.setTop (mkF m 285 #[.val (.ref ba), .val (.int (1 : Int32)), .val (.int en), .val (.int i0), .val (.int (1 : Int32)), .val (.int ((B i0) &&& (255 : Int32))), .val (.int (4 : Int32)), .val (.int (144 : Int32)), .val (.int (191 : Int32)), .val (.int (2 : Int32)), .val (.int ((B (i0 + (2 : Int32))) &&& (255 : Int32)))] [(.int (1 : Int32))]))
                              refine own_st (fun t k => XS.goto X0.here hx rfl (pc0 := 285) (pc' := 289) rfl (hb hby d1_285) (by decide) (by decide) k) ?_
                              show own_Go p e below G (s₁.setTop (mkF m 289 #[.val (.ref ba), .val (.int (1 : Int32)), .val (.int en), .val (.int i0), .val (.int (1 : Int32)), .val (.int ((B i0) &&& (255 : Int32))), .val (.int (4 : Int32)), .val (.int (144 : Int32)), .val (.int (191 : Int32)), .val (.int (2 : Int32)), .val (.int ((B (i0 + (2 : Int32))) &&& (255 : Int32)))] [(.int (1 : Int32))]))
                              refine own_st (fun t k => XS.istore X0.here hx rfl (hb hby d1_289) rfl (l' := #[.val (.ref ba), .val (.int (1 : Int32)), .val (.int en), .val (.int i0), .val (.int (1 : Int32)), .val (.int ((B i0) &&& (255 : Int32))), .val (.int (4 : Int32)), .val (.int (144 : Int32)), .val (.int (191 : Int32)), .val (.int (2 : Int32)), .val (.int ((B (i0 + (2 : Int32))) &&& (255 : Int32)))]) rfl k) ?_
                              show own_Go p e below G (s₁.setTop (mkF m 291 #[.val (.ref ba), .val (.int (1 : Int32)), .val (.int en), .val (.int i0), .val (.int (1 : Int32)), .val (.int ((B i0) &&& (255 : Int32))), .val (.int (4 : Int32)), .val (.int (144 : Int32)), .val (.int (191 : Int32)), .val (.int (2 : Int32)), .val (.int ((B (i0 + (2 : Int32))) &&& (255 : Int32)))] []))
                              refine own_st (fun t k => XS.iinc X0.here hx rfl (hb hby d1_291) rfl (l' := #[.val (.ref ba), .val (.int (1 : Int32)), .val (.int en), .val (.int i0), .val (.int (1 : Int32)), .val (.int ((B i0) &&& (255 : Int32))), .val (.int (4 : Int32)), .val (.int (144 : Int32)), .val (.int (191 : Int32)), .val (.int (3 : Int32)), .val (.int ((B (i0 + (2 : Int32))) &&& (255 : Int32)))]) rfl k) ?_
                              show own_Go p e below G (s₁.setTop (mkF m 294 #[.val (.ref ba), .val (.int (1 : Int32)), .val (.int en), .val (.int i0), .val (.int (1 : Int32)), .val (.int ((B i0) &&& (255 : Int32))), .val (.int (4 : Int32)), .val (.int (144 : Int32)), .val (.int (191 : Int32)), .val (.int (3 : Int32)), .val (.int ((B (i0 + (2 : Int32))) &&& (255 : Int32)))] []))
                              refine own_st (fun t k => XS.goto X0.here hx rfl (pc0 := 294) (pc' := 216) rfl (hb hby d1_294) (by decide) (by decide) k) ?_
                              show own_Go p e below G (s₁.setTop (mkF m 216 #[.val (.ref ba), .val (.int (1 : Int32)), .val (.int en), .val (.int i0), .val (.int (1 : Int32)), .val (.int ((B i0) &&& (255 : Int32))), .val (.int (4 : Int32)), .val (.int (144 : Int32)), .val (.int (191 : Int32)), .val (.int (3 : Int32)), .val (.int ((B (i0 + (2 : Int32))) &&& (255 : Int32)))] []))
                              refine own_st (fun t k => XS.iload X0.here hx rfl (hb hby d1_216) rfl  k) ?_
                              show own_Go p e below G (s₁.setTop (mkF m 218 #[.val (.ref ba), .val (.int (1 : Int32)), .val (.int en), .val (.int i0), .val (.int (1 : Int32)), .val (.int ((B i0) &&& (255 : Int32))), .val (.int (4 : Int32)), .val (.int (144 : Int32)), .val (.int (191 : Int32)), .val (.int (3 : Int32)), .val (.int ((B (i0 + (2 : Int32))) &&& (255 : Int32)))] [(.int (1 : Int32))]))
                              refine own_st (fun t k => XS.ifNo X0.here hx rfl (hb hby d1_218) rfl ((if0 _ _).trans (feq (by decide)).1) k) ?_
                              show own_Go p e below G (s₁.setTop (mkF m 221 #[.val (.ref ba), .val (.int (1 : Int32)), .val (.int en), .val (.int i0), .val (.int (1 : Int32)), .val (.int ((B i0) &&& (255 : Int32))), .val (.int (4 : Int32)), .val (.int (144 : Int32)), .val (.int (191 : Int32)), .val (.int (3 : Int32)), .val (.int ((B (i0 + (2 : Int32))) &&& (255 : Int32)))] []))
                              refine own_st (fun t k => XS.iload X0.here hx rfl (hb hby d1_221) rfl  k) ?_
                              show own_Go p e below G (s₁.setTop (mkF m 223 #[.val (.ref ba), .val (.int (1 : Int32)), .val (.int en), .val (.int i0), .val (.int (1 : Int32)), .val (.int ((B i0) &&& (255 : Int32))), .val (.int (4 : Int32)), .val (.int (144 : Int32)), .val (.int (191 : Int32)), .val (.int (3 : Int32)), .val (.int ((B (i0 + (2 : Int32))) &&& (255 : Int32)))] [(.int (3 : Int32))]))
                              refine own_st (fun t k => XS.iload X0.here hx rfl (hb hby d1_223) rfl  k) ?_
                              show own_Go p e below G (s₁.setTop (mkF m 225 #[.val (.ref ba), .val (.int (1 : Int32)), .val (.int en), .val (.int i0), .val (.int (1 : Int32)), .val (.int ((B i0) &&& (255 : Int32))), .val (.int (4 : Int32)), .val (.int (144 : Int32)), .val (.int (191 : Int32)), .val (.int (3 : Int32)), .val (.int ((B (i0 + (2 : Int32))) &&& (255 : Int32)))] [(.int (4 : Int32)), (.int (3 : Int32))]))
                              refine own_st (fun t k => XS.icmpNo X0.here hx rfl (hb hby d1_225) rfl (tlt (by decide)).2.1 k) ?_
                              show own_Go p e below G (s₁.setTop (mkF m 228 #[.val (.ref ba), .val (.int (1 : Int32)), .val (.int en), .val (.int i0), .val (.int (1 : Int32)), .val (.int ((B i0) &&& (255 : Int32))), .val (.int (4 : Int32)), .val (.int (144 : Int32)), .val (.int (191 : Int32)), .val (.int (3 : Int32)), .val (.int ((B (i0 + (2 : Int32))) &&& (255 : Int32)))] []))
                              refine own_st (fun t k => XS.aloadN X0.here hx rfl (hb hby d1_228) rfl rfl  k) ?_
                              show own_Go p e below G (s₁.setTop (mkF m 229 #[.val (.ref ba), .val (.int (1 : Int32)), .val (.int en), .val (.int i0), .val (.int (1 : Int32)), .val (.int ((B i0) &&& (255 : Int32))), .val (.int (4 : Int32)), .val (.int (144 : Int32)), .val (.int (191 : Int32)), .val (.int (3 : Int32)), .val (.int ((B (i0 + (2 : Int32))) &&& (255 : Int32)))] [(.ref ba)]))
                              refine own_st (fun t k => XS.iloadN X0.here hx rfl (hb hby d1_229) rfl  k) ?_
                              show own_Go p e below G (s₁.setTop (mkF m 230 #[.val (.ref ba), .val (.int (1 : Int32)), .val (.int en), .val (.int i0), .val (.int (1 : Int32)), .val (.int ((B i0) &&& (255 : Int32))), .val (.int (4 : Int32)), .val (.int (144 : Int32)), .val (.int (191 : Int32)), .val (.int (3 : Int32)), .val (.int ((B (i0 + (2 : Int32))) &&& (255 : Int32)))] [(.int i0), (.ref ba)]))
                              refine own_st (fun t k => XS.iload X0.here hx rfl (hb hby d1_230) rfl  k) ?_
                              show own_Go p e below G (s₁.setTop (mkF m 232 #[.val (.ref ba), .val (.int (1 : Int32)), .val (.int en), .val (.int i0), .val (.int (1 : Int32)), .val (.int ((B i0) &&& (255 : Int32))), .val (.int (4 : Int32)), .val (.int (144 : Int32)), .val (.int (191 : Int32)), .val (.int (3 : Int32)), .val (.int ((B (i0 + (2 : Int32))) &&& (255 : Int32)))] [(.int (3 : Int32)), (.int i0), (.ref ba)]))
                              refine own_st (fun t k => XS.iadd X0.here hx rfl (hb hby d1_232) rfl k) ?_
                              show own_Go p e below G (s₁.setTop (mkF m 233 #[.val (.ref ba), .val (.int (1 : Int32)), .val (.int en), .val (.int i0), .val (.int (1 : Int32)), .val (.int ((B i0) &&& (255 : Int32))), .val (.int (4 : Int32)), .val (.int (144 : Int32)), .val (.int (191 : Int32)), .val (.int (3 : Int32)), .val (.int ((B (i0 + (2 : Int32))) &&& (255 : Int32)))] [(.int (i0 + (3 : Int32))), (.ref ba)]))
                              have hb16 := own_bd (n := 6) (own_in hi0 c12_1 he.2 c203_9 (j := (3 : Int32)) (by decide) (by decide) (by decide)) (Int.le_trans he.2 (by decide))
                              have hin16 := inb_of S0 hb16
                              refine own_st (fun t k => X0.baloadBytes hx (j := (i0 + (3 : Int32))) (v := (.int (B (i0 + (3 : Int32))))) (by rw [e0]; exact Ar0.1) (State.isArrayOf_alike hZ.alike Ar0.2.1) Ar0.2.2 hin16 (hB _ hb16.1 hb16.2) (g := (mkF m 233 #[.val (.ref ba), .val (.int (1 : Int32)), .val (.int en), .val (.int i0), .val (.int (1 : Int32)), .val (.int ((B i0) &&& (255 : Int32))), .val (.int (4 : Int32)), .val (.int (144 : Int32)), .val (.int (191 : Int32)), .val (.int (3 : Int32)), .val (.int ((B (i0 + (2 : Int32))) &&& (255 : Int32)))] [(.int (i0 + (3 : Int32))), (.ref ba)])) rfl rfl (hb hby d1_233) t k) ?_
                              show own_Go p e below G (s₁.setTop (mkF m 234 #[.val (.ref ba), .val (.int (1 : Int32)), .val (.int en), .val (.int i0), .val (.int (1 : Int32)), .val (.int ((B i0) &&& (255 : Int32))), .val (.int (4 : Int32)), .val (.int (144 : Int32)), .val (.int (191 : Int32)), .val (.int (3 : Int32)), .val (.int ((B (i0 + (2 : Int32))) &&& (255 : Int32)))] [(.int (B (i0 + (3 : Int32))))]))
                              refine own_st (fun t k => XS.sipush X0.here hx rfl (hb hby d1_234) k) ?_
                              show own_Go p e below G (s₁.setTop (mkF m 237 #[.val (.ref ba), .val (.int (1 : Int32)), .val (.int en), .val (.int i0), .val (.int (1 : Int32)), .val (.int ((B i0) &&& (255 : Int32))), .val (.int (4 : Int32)), .val (.int (144 : Int32)), .val (.int (191 : Int32)), .val (.int (3 : Int32)), .val (.int ((B (i0 + (2 : Int32))) &&& (255 : Int32)))] [(.int (255 : Int32)), (.int (B (i0 + (3 : Int32))))]))
                              refine own_st (fun t k => XS.iand X0.here hx rfl (hb hby d1_237) rfl k) ?_
                              show own_Go p e below G (s₁.setTop (mkF m 238 #[.val (.ref ba), .val (.int (1 : Int32)), .val (.int en), .val (.int i0), .val (.int (1 : Int32)), .val (.int ((B i0) &&& (255 : Int32))), .val (.int (4 : Int32)), .val (.int (144 : Int32)), .val (.int (191 : Int32)), .val (.int (3 : Int32)), .val (.int ((B (i0 + (2 : Int32))) &&& (255 : Int32)))] [(.int ((B (i0 + (3 : Int32))) &&& (255 : Int32)))]))
                              refine own_st (fun t k => XS.istore X0.here hx rfl (hb hby d1_238) rfl (l' := #[.val (.ref ba), .val (.int (1 : Int32)), .val (.int en), .val (.int i0), .val (.int (1 : Int32)), .val (.int ((B i0) &&& (255 : Int32))), .val (.int (4 : Int32)), .val (.int (144 : Int32)), .val (.int (191 : Int32)), .val (.int (3 : Int32)), .val (.int ((B (i0 + (3 : Int32))) &&& (255 : Int32)))]) rfl k) ?_
                              show own_Go p e below G (s₁.setTop (mkF m 240 #[.val (.ref ba), .val (.int (1 : Int32)), .val (.int en), .val (.int i0), .val (.int (1 : Int32)), .val (.int ((B i0) &&& (255 : Int32))), .val (.int (4 : Int32)), .val (.int (144 : Int32)), .val (.int (191 : Int32)), .val (.int (3 : Int32)), .val (.int ((B (i0 + (3 : Int32))) &&& (255 : Int32)))] []))
                              refine own_st (fun t k => XS.iload X0.here hx rfl (hb hby d1_240) rfl  k) ?_
                              show own_Go p e below G (s₁.setTop (mkF m 242 #[.val (.ref ba), .val (.int (1 : Int32)), .val (.int en), .val (.int i0), .val (.int (1 : Int32)), .val (.int ((B i0) &&& (255 : Int32))), .val (.int (4 : Int32)), .val (.int (144 : Int32)), .val (.int (191 : Int32)), .val (.int (3 : Int32)), .val (.int ((B (i0 + (3 : Int32))) &&& (255 : Int32)))] [(.int (3 : Int32))]))
                              refine own_st (fun t k => XS.iconst X0.here hx rfl (hb hby d1_242) k) ?_
                              show own_Go p e below G (s₁.setTop (mkF m 243 #[.val (.ref ba), .val (.int (1 : Int32)), .val (.int en), .val (.int i0), .val (.int (1 : Int32)), .val (.int ((B i0) &&& (255 : Int32))), .val (.int (4 : Int32)), .val (.int (144 : Int32)), .val (.int (191 : Int32)), .val (.int (3 : Int32)), .val (.int ((B (i0 + (3 : Int32))) &&& (255 : Int32)))] [(.int (1 : Int32)), (.int (3 : Int32))]))
                              refine own_st (fun t k => XS.icmpYes X0.here hx rfl (pc0 := 243) (pc' := 268) rfl (hb hby d1_243) rfl (feq (by decide)).2 (by decide) (by decide) k) ?_
                              show own_Go p e below G (s₁.setTop (mkF m 268 #[.val (.ref ba), .val (.int (1 : Int32)), .val (.int en), .val (.int i0), .val (.int (1 : Int32)), .val (.int ((B i0) &&& (255 : Int32))), .val (.int (4 : Int32)), .val (.int (144 : Int32)), .val (.int (191 : Int32)), .val (.int (3 : Int32)), .val (.int ((B (i0 + (3 : Int32))) &&& (255 : Int32)))] []))
                              refine own_st (fun t k => XS.iload X0.here hx rfl (hb hby d1_268) rfl  k) ?_
                              show own_Go p e below G (s₁.setTop (mkF m 270 #[.val (.ref ba), .val (.int (1 : Int32)), .val (.int en), .val (.int i0), .val (.int (1 : Int32)), .val (.int ((B i0) &&& (255 : Int32))), .val (.int (4 : Int32)), .val (.int (144 : Int32)), .val (.int (191 : Int32)), .val (.int (3 : Int32)), .val (.int ((B (i0 + (3 : Int32))) &&& (255 : Int32)))] [(.int ((B (i0 + (3 : Int32))) &&& (255 : Int32)))]))
                              refine own_st (fun t k => XS.sipush X0.here hx rfl (hb hby d1_270) k) ?_
                              show own_Go p e below G (s₁.setTop (mkF m 273 #[.val (.ref ba), .val (.int (1 : Int32)), .val (.int en), .val (.int i0), .val (.int (1 : Int32)), .val (.int ((B i0) &&& (255 : Int32))), .val (.int (4 : Int32)), .val (.int (144 : Int32)), .val (.int (191 : Int32)), .val (.int (3 : Int32)), .val (.int ((B (i0 + (3 : Int32))) &&& (255 : Int32)))] [(.int (128 : Int32)), (.int ((B (i0 + (3 : Int32))) &&& (255 : Int32)))]))
                              by_cases c273_17 : ((B (i0 + (3 : Int32))) &&& (255 : Int32)) < (128 : Int32)
                              · skip
                                refine own_st (fun t k => XS.icmpYes X0.here hx rfl (pc0 := 273) (pc' := 288) rfl (hb hby d1_273) rfl (tlt c273_17).1 (by decide) (by decide) k) ?_
                                show own_Go p e below G (s₁.setTop (mkF m 288 #[.val (.ref ba), .val (.int (1 : Int32)), .val (.int en), .val (.int i0), .val (.int (1 : Int32)), .val (.int ((B i0) &&& (255 : Int32))), .val (.int (4 : Int32)), .val (.int (144 : Int32)), .val (.int (191 : Int32)), .val (.int (3 : Int32)), .val (.int ((B (i0 + (3 : Int32))) &&& (255 : Int32)))] []))
                                refine own_st (fun t k => XS.iconst X0.here hx rfl (hb hby d1_288) k) ?_
                                show own_Go p e below G (s₁.setTop (mkF m 289 #[.val (.ref ba), .val (.int (1 : Int32)), .val (.int en), .val (.int i0), .val (.int (1 : Int32)), .val (.int ((B i0) &&& (255 : Int32))), .val (.int (4 : Int32)), .val (.int (144 : Int32)), .val (.int (191 : Int32)), .val (.int (3 : Int32)), .val (.int ((B (i0 + (3 : Int32))) &&& (255 : Int32)))] [(.int (0 : Int32))]))
                                exact bad289 _ _ _ _ _ _ (show own_vl (B i0 &&& 255) (B (i0 + 1) &&& 255) (B (i0 + 2) &&& 255) (B (i0 + 3) &&& 255) (en - i0) = 0 by unfold own_vl; rw [if_neg c39_3, if_neg c53_4, if_pos c61_5, if_pos c83_6, if_neg c143_7, if_pos c154_8, if_neg (show ¬ (B i0 &&& 255) = 244 from fun q => absurd (c154_8.symm.trans q) (by decide)), if_neg c203_9, if_neg c250_11, if_neg c257_12, if_neg c273_14, if_neg c281_15, if_pos c273_17])
                              · skip
                                refine own_st (fun t k => XS.icmpNo X0.here hx rfl (hb hby d1_273) rfl (flt c273_17).1 k) ?_
                                show own_Go p e below G (s₁.setTop (mkF m 276 #[.val (.ref ba), .val (.int (1 : Int32)), .val (.int en), .val (.int i0), .val (.int (1 : Int32)), .val (.int ((B i0) &&& (255 : Int32))), .val (.int (4 : Int32)), .val (.int (144 : Int32)), .val (.int (191 : Int32)), .val (.int (3 : Int32)), .val (.int ((B (i0 + (3 : Int32))) &&& (255 : Int32)))] []))
                                refine own_st (fun t k => XS.iload X0.here hx rfl (hb hby d1_276) rfl  k) ?_
                                show own_Go p e below G (s₁.setTop (mkF m 278 #[.val (.ref ba), .val (.int (1 : Int32)), .val (.int en), .val (.int i0), .val (.int (1 : Int32)), .val (.int ((B i0) &&& (255 : Int32))), .val (.int (4 : Int32)), .val (.int (144 : Int32)), .val (.int (191 : Int32)), .val (.int (3 : Int32)), .val (.int ((B (i0 + (3 : Int32))) &&& (255 : Int32)))] [(.int ((B (i0 + (3 : Int32))) &&& (255 : Int32)))]))
                                refine own_st (fun t k => XS.sipush X0.here hx rfl (hb hby d1_278) k) ?_
                                show own_Go p e below G (s₁.setTop (mkF m 281 #[.val (.ref ba), .val (.int (1 : Int32)), .val (.int en), .val (.int i0), .val (.int (1 : Int32)), .val (.int ((B i0) &&& (255 : Int32))), .val (.int (4 : Int32)), .val (.int (144 : Int32)), .val (.int (191 : Int32)), .val (.int (3 : Int32)), .val (.int ((B (i0 + (3 : Int32))) &&& (255 : Int32)))] [(.int (191 : Int32)), (.int ((B (i0 + (3 : Int32))) &&& (255 : Int32)))]))
                                by_cases c281_18 : (191 : Int32) < ((B (i0 + (3 : Int32))) &&& (255 : Int32))
                                · skip
                                  refine own_st (fun t k => XS.icmpYes X0.here hx rfl (pc0 := 281) (pc' := 288) rfl (hb hby d1_281) rfl (tlt c281_18).2.2.1 (by decide) (by decide) k) ?_
                                  show own_Go p e below G (s₁.setTop (mkF m 288 #[.val (.ref ba), .val (.int (1 : Int32)), .val (.int en), .val (.int i0), .val (.int (1 : Int32)), .val (.int ((B i0) &&& (255 : Int32))), .val (.int (4 : Int32)), .val (.int (144 : Int32)), .val (.int (191 : Int32)), .val (.int (3 : Int32)), .val (.int ((B (i0 + (3 : Int32))) &&& (255 : Int32)))] []))
                                  refine own_st (fun t k => XS.iconst X0.here hx rfl (hb hby d1_288) k) ?_
                                  show own_Go p e below G (s₁.setTop (mkF m 289 #[.val (.ref ba), .val (.int (1 : Int32)), .val (.int en), .val (.int i0), .val (.int (1 : Int32)), .val (.int ((B i0) &&& (255 : Int32))), .val (.int (4 : Int32)), .val (.int (144 : Int32)), .val (.int (191 : Int32)), .val (.int (3 : Int32)), .val (.int ((B (i0 + (3 : Int32))) &&& (255 : Int32)))] [(.int (0 : Int32))]))
                                  exact bad289 _ _ _ _ _ _ (show own_vl (B i0 &&& 255) (B (i0 + 1) &&& 255) (B (i0 + 2) &&& 255) (B (i0 + 3) &&& 255) (en - i0) = 0 by unfold own_vl; rw [if_neg c39_3, if_neg c53_4, if_pos c61_5, if_pos c83_6, if_neg c143_7, if_pos c154_8, if_neg (show ¬ (B i0 &&& 255) = 244 from fun q => absurd (c154_8.symm.trans q) (by decide)), if_neg c203_9, if_neg c250_11, if_neg c257_12, if_neg c273_14, if_neg c281_15, if_neg c273_17, if_pos c281_18])
                                · skip
                                  refine own_st (fun t k => XS.icmpNo X0.here hx rfl (hb hby d1_281) rfl (flt c281_18).2.2.1 k) ?_
                                  show own_Go p e below G (s₁.setTop (mkF m 284 #[.val (.ref ba), .val (.int (1 : Int32)), .val (.int en), .val (.int i0), .val (.int (1 : Int32)), .val (.int ((B i0) &&& (255 : Int32))), .val (.int (4 : Int32)), .val (.int (144 : Int32)), .val (.int (191 : Int32)), .val (.int (3 : Int32)), .val (.int ((B (i0 + (3 : Int32))) &&& (255 : Int32)))] []))
                                  refine own_st (fun t k => XS.iconst X0.here hx rfl (hb hby d1_284) k) ?_
                                  show own_Go p e below G (s₁.setTop (mkF m 285 #[.val (.ref ba), .val (.int (1 : Int32)), .val (.int en), .val (.int i0), .val (.int (1 : Int32)), .val (.int ((B i0) &&& (255 : Int32))), .val (.int (4 : Int32)), .val (.int (144 : Int32)), .val (.int (191 : Int32)), .val (.int (3 : Int32)), .val (.int ((B (i0 + (3 : Int32))) &&& (255 : Int32)))] [(.int (1 : Int32))]))
                                  refine own_st (fun t k => XS.goto X0.here hx rfl (pc0 := 285) (pc' := 289) rfl (hb hby d1_285) (by decide) (by decide) k) ?_
                                  show own_Go p e below G (s₁.setTop (mkF m 289 #[.val (.ref ba), .val (.int (1 : Int32)), .val (.int en), .val (.int i0), .val (.int (1 : Int32)), .val (.int ((B i0) &&& (255 : Int32))), .val (.int (4 : Int32)), .val (.int (144 : Int32)), .val (.int (191 : Int32)), .val (.int (3 : Int32)), .val (.int ((B (i0 + (3 : Int32))) &&& (255 : Int32)))] [(.int (1 : Int32))]))
                                  refine own_st (fun t k => XS.istore X0.here hx rfl (hb hby d1_289) rfl (l' := #[.val (.ref ba), .val (.int (1 : Int32)), .val (.int en), .val (.int i0), .val (.int (1 : Int32)), .val (.int ((B i0) &&& (255 : Int32))), .val (.int (4 : Int32)), .val (.int (144 : Int32)), .val (.int (191 : Int32)), .val (.int (3 : Int32)), .val (.int ((B (i0 + (3 : Int32))) &&& (255 : Int32)))]) rfl k) ?_
                                  show own_Go p e below G (s₁.setTop (mkF m 291 #[.val (.ref ba), .val (.int (1 : Int32)), .val (.int en), .val (.int i0), .val (.int (1 : Int32)), .val (.int ((B i0) &&& (255 : Int32))), .val (.int (4 : Int32)), .val (.int (144 : Int32)), .val (.int (191 : Int32)), .val (.int (3 : Int32)), .val (.int ((B (i0 + (3 : Int32))) &&& (255 : Int32)))] []))
                                  refine own_st (fun t k => XS.iinc X0.here hx rfl (hb hby d1_291) rfl (l' := #[.val (.ref ba), .val (.int (1 : Int32)), .val (.int en), .val (.int i0), .val (.int (1 : Int32)), .val (.int ((B i0) &&& (255 : Int32))), .val (.int (4 : Int32)), .val (.int (144 : Int32)), .val (.int (191 : Int32)), .val (.int (4 : Int32)), .val (.int ((B (i0 + (3 : Int32))) &&& (255 : Int32)))]) rfl k) ?_
                                  show own_Go p e below G (s₁.setTop (mkF m 294 #[.val (.ref ba), .val (.int (1 : Int32)), .val (.int en), .val (.int i0), .val (.int (1 : Int32)), .val (.int ((B i0) &&& (255 : Int32))), .val (.int (4 : Int32)), .val (.int (144 : Int32)), .val (.int (191 : Int32)), .val (.int (4 : Int32)), .val (.int ((B (i0 + (3 : Int32))) &&& (255 : Int32)))] []))
                                  refine own_st (fun t k => XS.goto X0.here hx rfl (pc0 := 294) (pc' := 216) rfl (hb hby d1_294) (by decide) (by decide) k) ?_
                                  show own_Go p e below G (s₁.setTop (mkF m 216 #[.val (.ref ba), .val (.int (1 : Int32)), .val (.int en), .val (.int i0), .val (.int (1 : Int32)), .val (.int ((B i0) &&& (255 : Int32))), .val (.int (4 : Int32)), .val (.int (144 : Int32)), .val (.int (191 : Int32)), .val (.int (4 : Int32)), .val (.int ((B (i0 + (3 : Int32))) &&& (255 : Int32)))] []))
                                  refine own_st (fun t k => XS.iload X0.here hx rfl (hb hby d1_216) rfl  k) ?_
                                  show own_Go p e below G (s₁.setTop (mkF m 218 #[.val (.ref ba), .val (.int (1 : Int32)), .val (.int en), .val (.int i0), .val (.int (1 : Int32)), .val (.int ((B i0) &&& (255 : Int32))), .val (.int (4 : Int32)), .val (.int (144 : Int32)), .val (.int (191 : Int32)), .val (.int (4 : Int32)), .val (.int ((B (i0 + (3 : Int32))) &&& (255 : Int32)))] [(.int (1 : Int32))]))
                                  refine own_st (fun t k => XS.ifNo X0.here hx rfl (hb hby d1_218) rfl ((if0 _ _).trans (feq (by decide)).1) k) ?_
                                  show own_Go p e below G (s₁.setTop (mkF m 221 #[.val (.ref ba), .val (.int (1 : Int32)), .val (.int en), .val (.int i0), .val (.int (1 : Int32)), .val (.int ((B i0) &&& (255 : Int32))), .val (.int (4 : Int32)), .val (.int (144 : Int32)), .val (.int (191 : Int32)), .val (.int (4 : Int32)), .val (.int ((B (i0 + (3 : Int32))) &&& (255 : Int32)))] []))
                                  refine own_st (fun t k => XS.iload X0.here hx rfl (hb hby d1_221) rfl  k) ?_
                                  show own_Go p e below G (s₁.setTop (mkF m 223 #[.val (.ref ba), .val (.int (1 : Int32)), .val (.int en), .val (.int i0), .val (.int (1 : Int32)), .val (.int ((B i0) &&& (255 : Int32))), .val (.int (4 : Int32)), .val (.int (144 : Int32)), .val (.int (191 : Int32)), .val (.int (4 : Int32)), .val (.int ((B (i0 + (3 : Int32))) &&& (255 : Int32)))] [(.int (4 : Int32))]))
                                  refine own_st (fun t k => XS.iload X0.here hx rfl (hb hby d1_223) rfl  k) ?_
                                  show own_Go p e below G (s₁.setTop (mkF m 225 #[.val (.ref ba), .val (.int (1 : Int32)), .val (.int en), .val (.int i0), .val (.int (1 : Int32)), .val (.int ((B i0) &&& (255 : Int32))), .val (.int (4 : Int32)), .val (.int (144 : Int32)), .val (.int (191 : Int32)), .val (.int (4 : Int32)), .val (.int ((B (i0 + (3 : Int32))) &&& (255 : Int32)))] [(.int (4 : Int32)), (.int (4 : Int32))]))
                                  refine own_st (fun t k => XS.icmpYes X0.here hx rfl (pc0 := 225) (pc' := 297) rfl (hb hby d1_225) rfl (flt (by decide)).2.1 (by decide) (by decide) k) ?_
                                  show own_Go p e below G (s₁.setTop (mkF m 297 #[.val (.ref ba), .val (.int (1 : Int32)), .val (.int en), .val (.int i0), .val (.int (1 : Int32)), .val (.int ((B i0) &&& (255 : Int32))), .val (.int (4 : Int32)), .val (.int (144 : Int32)), .val (.int (191 : Int32)), .val (.int (4 : Int32)), .val (.int ((B (i0 + (3 : Int32))) &&& (255 : Int32)))] []))
                                  refine own_st (fun t k => XS.iloadN X0.here hx rfl (hb hby d1_297) rfl  k) ?_
                                  show own_Go p e below G (s₁.setTop (mkF m 298 #[.val (.ref ba), .val (.int (1 : Int32)), .val (.int en), .val (.int i0), .val (.int (1 : Int32)), .val (.int ((B i0) &&& (255 : Int32))), .val (.int (4 : Int32)), .val (.int (144 : Int32)), .val (.int (191 : Int32)), .val (.int (4 : Int32)), .val (.int ((B (i0 + (3 : Int32))) &&& (255 : Int32)))] [(.int i0)]))
                                  refine own_st (fun t k => XS.iload X0.here hx rfl (hb hby d1_298) rfl  k) ?_
                                  show own_Go p e below G (s₁.setTop (mkF m 300 #[.val (.ref ba), .val (.int (1 : Int32)), .val (.int en), .val (.int i0), .val (.int (1 : Int32)), .val (.int ((B i0) &&& (255 : Int32))), .val (.int (4 : Int32)), .val (.int (144 : Int32)), .val (.int (191 : Int32)), .val (.int (4 : Int32)), .val (.int ((B (i0 + (3 : Int32))) &&& (255 : Int32)))] [(.int (4 : Int32)), (.int i0)]))
                                  refine own_st (fun t k => XS.iadd X0.here hx rfl (hb hby d1_300) rfl k) ?_
                                  show own_Go p e below G (s₁.setTop (mkF m 301 #[.val (.ref ba), .val (.int (1 : Int32)), .val (.int en), .val (.int i0), .val (.int (1 : Int32)), .val (.int ((B i0) &&& (255 : Int32))), .val (.int (4 : Int32)), .val (.int (144 : Int32)), .val (.int (191 : Int32)), .val (.int (4 : Int32)), .val (.int ((B (i0 + (3 : Int32))) &&& (255 : Int32)))] [(.int (i0 + (4 : Int32)))]))
                                  refine own_st (fun t k => XS.istoreN X0.here hx rfl (hb hby d1_301) rfl (l' := #[.val (.ref ba), .val (.int (1 : Int32)), .val (.int en), .val (.int (i0 + (4 : Int32))), .val (.int (1 : Int32)), .val (.int ((B i0) &&& (255 : Int32))), .val (.int (4 : Int32)), .val (.int (144 : Int32)), .val (.int (191 : Int32)), .val (.int (4 : Int32)), .val (.int ((B (i0 + (3 : Int32))) &&& (255 : Int32)))]) rfl k) ?_
                                  show own_Go p e below G (s₁.setTop (mkF m 302 #[.val (.ref ba), .val (.int (1 : Int32)), .val (.int en), .val (.int (i0 + (4 : Int32))), .val (.int (1 : Int32)), .val (.int ((B i0) &&& (255 : Int32))), .val (.int (4 : Int32)), .val (.int (144 : Int32)), .val (.int (191 : Int32)), .val (.int (4 : Int32)), .val (.int ((B (i0 + (3 : Int32))) &&& (255 : Int32)))] []))
                                  refine own_st (fun t k => XS.goto X0.here hx rfl (pc0 := 302) (pc' := 5) rfl (hb hby d1_302) (by decide) (by decide) k) ?_
                                  show own_Go p e below G (s₁.setTop (mkF m 5 #[.val (.ref ba), .val (.int (1 : Int32)), .val (.int en), .val (.int (i0 + (4 : Int32))), .val (.int (1 : Int32)), .val (.int ((B i0) &&& (255 : Int32))), .val (.int (4 : Int32)), .val (.int (144 : Int32)), .val (.int (191 : Int32)), .val (.int (4 : Int32)), .val (.int ((B (i0 + (3 : Int32))) &&& (255 : Int32)))] []))
                                  have hn := own_in (len := (4 : Int32)) (j := ((4 : Int32) - 1)) hi0 c12_1 he.2 c203_9 (by decide) (by decide) (by decide)
                                  have ha := own_add (i := i0) (j := (4 : Int32)) hi0 (Int.le_of_lt (Int.lt_of_lt_of_le (Int32.lt_iff_toInt_lt.mp c12_1) he.2)) (by decide) (by decide)
                                  have hc := own_add (i := i0) (j := ((4 : Int32) - 1)) hi0 (Int.le_of_lt (Int.lt_of_lt_of_le (Int32.lt_iff_toInt_lt.mp c12_1) he.2)) (by decide) (by decide)
                                  rw [hc] at hn
                                  have z1 : (((4 : Int32) - 1) : Int32).toInt = 3 := by decide
                                  have z2 : ((4 : Int32)).toInt = 4 := by decide
                                  exact ih (i0 + (4 : Int32)) _ _ _ _ _ _ (One.val rfl) (One.val rfl) (One.val rfl) (One.val rfl) (One.val rfl) (One.val rfl) (by omega) (by omega) (by omega) (heq.trans (own_vrN c12_1 (show own_vl (B i0 &&& 255) (B (i0 + 1) &&& 255) (B (i0 + 2) &&& 255) (B (i0 + 3) &&& 255) (en - i0) = (4 : Int32) by unfold own_vl; rw [if_neg c39_3, if_neg c53_4, if_pos c61_5, if_pos c83_6, if_neg c143_7, if_pos c154_8, if_neg (show ¬ (B i0 &&& 255) = 244 from fun q => absurd (c154_8.symm.trans q) (by decide)), if_neg c203_9, if_neg c250_11, if_neg c257_12, if_neg c273_14, if_neg c281_15, if_neg c273_17, if_neg c281_18]) (by decide)))
                  · skip
                    refine own_st (fun t k => XS.icmpYes X0.here hx rfl (pc0 := 154) (pc' := 163) rfl (hb hby d1_154) rfl (feq c154_8).2 (by decide) (by decide) k) ?_
                    show own_Go p e below G (s₁.setTop (mkF m 163 #[.val (.ref ba), .val (.int (1 : Int32)), .val (.int en), .val (.int i0), .val (.int (1 : Int32)), .val (.int ((B i0) &&& (255 : Int32))), .val (.int (4 : Int32)), .val (.int (128 : Int32)), .val (.int (191 : Int32)), s9, s10] []))
                    refine own_st (fun t k => XS.sipush X0.here hx rfl (hb hby d1_163) k) ?_
                    show own_Go p e below G (s₁.setTop (mkF m 166 #[.val (.ref ba), .val (.int (1 : Int32)), .val (.int en), .val (.int i0), .val (.int (1 : Int32)), .val (.int ((B i0) &&& (255 : Int32))), .val (.int (4 : Int32)), .val (.int (128 : Int32)), .val (.int (191 : Int32)), s9, s10] [(.int (128 : Int32))]))
                    refine own_st (fun t k => XS.istore X0.here hx rfl (hb hby d1_166) rfl (l' := #[.val (.ref ba), .val (.int (1 : Int32)), .val (.int en), .val (.int i0), .val (.int (1 : Int32)), .val (.int ((B i0) &&& (255 : Int32))), .val (.int (4 : Int32)), .val (.int (128 : Int32)), .val (.int (191 : Int32)), s9, s10]) rfl k) ?_
                    show own_Go p e below G (s₁.setTop (mkF m 168 #[.val (.ref ba), .val (.int (1 : Int32)), .val (.int en), .val (.int i0), .val (.int (1 : Int32)), .val (.int ((B i0) &&& (255 : Int32))), .val (.int (4 : Int32)), .val (.int (128 : Int32)), .val (.int (191 : Int32)), s9, s10] []))
                    refine own_st (fun t k => XS.iload X0.here hx rfl (hb hby d1_168) rfl  k) ?_
                    show own_Go p e below G (s₁.setTop (mkF m 170 #[.val (.ref ba), .val (.int (1 : Int32)), .val (.int en), .val (.int i0), .val (.int (1 : Int32)), .val (.int ((B i0) &&& (255 : Int32))), .val (.int (4 : Int32)), .val (.int (128 : Int32)), .val (.int (191 : Int32)), s9, s10] [(.int ((B i0) &&& (255 : Int32)))]))
                    refine own_st (fun t k => XS.sipush X0.here hx rfl (hb hby d1_170) k) ?_
                    show own_Go p e below G (s₁.setTop (mkF m 173 #[.val (.ref ba), .val (.int (1 : Int32)), .val (.int en), .val (.int i0), .val (.int (1 : Int32)), .val (.int ((B i0) &&& (255 : Int32))), .val (.int (4 : Int32)), .val (.int (128 : Int32)), .val (.int (191 : Int32)), s9, s10] [(.int (244 : Int32)), (.int ((B i0) &&& (255 : Int32)))]))
                    by_cases c173_19 : ((B i0) &&& (255 : Int32)) = (244 : Int32)
                    · skip
                      refine own_st (fun t k => XS.icmpNo X0.here hx rfl (hb hby d1_173) rfl (teq c173_19).2 k) ?_
                      show own_Go p e below G (s₁.setTop (mkF m 176 #[.val (.ref ba), .val (.int (1 : Int32)), .val (.int en), .val (.int i0), .val (.int (1 : Int32)), .val (.int ((B i0) &&& (255 : Int32))), .val (.int (4 : Int32)), .val (.int (128 : Int32)), .val (.int (191 : Int32)), s9, s10] []))
                      refine own_st (fun t k => XS.sipush X0.here hx rfl (hb hby d1_176) k) ?_
                      show own_Go p e below G (s₁.setTop (mkF m 179 #[.val (.ref ba), .val (.int (1 : Int32)), .val (.int en), .val (.int i0), .val (.int (1 : Int32)), .val (.int ((B i0) &&& (255 : Int32))), .val (.int (4 : Int32)), .val (.int (128 : Int32)), .val (.int (191 : Int32)), s9, s10] [(.int (143 : Int32))]))
                      refine own_st (fun t k => XS.goto X0.here hx rfl (pc0 := 179) (pc' := 185) rfl (hb hby d1_179) (by decide) (by decide) k) ?_
                      show own_Go p e below G (s₁.setTop (mkF m 185 #[.val (.ref ba), .val (.int (1 : Int32)), .val (.int en), .val (.int i0), .val (.int (1 : Int32)), .val (.int ((B i0) &&& (255 : Int32))), .val (.int (4 : Int32)), .val (.int (128 : Int32)), .val (.int (191 : Int32)), s9, s10] [(.int (143 : Int32))]))
                      refine own_st (fun t k => XS.istore X0.here hx rfl (hb hby d1_185) rfl (l' := #[.val (.ref ba), .val (.int (1 : Int32)), .val (.int en), .val (.int i0), .val (.int (1 : Int32)), .val (.int ((B i0) &&& (255 : Int32))), .val (.int (4 : Int32)), .val (.int (128 : Int32)), .val (.int (143 : Int32)), s9, s10]) rfl k) ?_
                      show own_Go p e below G (s₁.setTop (mkF m 187 #[.val (.ref ba), .val (.int (1 : Int32)), .val (.int en), .val (.int i0), .val (.int (1 : Int32)), .val (.int ((B i0) &&& (255 : Int32))), .val (.int (4 : Int32)), .val (.int (128 : Int32)), .val (.int (143 : Int32)), s9, s10] []))
                      refine own_st (fun t k => XS.goto X0.here hx rfl (pc0 := 187) (pc' := 193) rfl (hb hby d1_187) (by decide) (by decide) k) ?_
                      show own_Go p e below G (s₁.setTop (mkF m 193 #[.val (.ref ba), .val (.int (1 : Int32)), .val (.int en), .val (.int i0), .val (.int (1 : Int32)), .val (.int ((B i0) &&& (255 : Int32))), .val (.int (4 : Int32)), .val (.int (128 : Int32)), .val (.int (143 : Int32)), s9, s10] []))
                      refine own_st (fun t k => XS.iload X0.here hx rfl (hb hby d1_193) rfl  k) ?_
                      show own_Go p e below G (s₁.setTop (mkF m 195 #[.val (.ref ba), .val (.int (1 : Int32)), .val (.int en), .val (.int i0), .val (.int (1 : Int32)), .val (.int ((B i0) &&& (255 : Int32))), .val (.int (4 : Int32)), .val (.int (128 : Int32)), .val (.int (143 : Int32)), s9, s10] [(.int (4 : Int32))]))
                      refine own_st (fun t k => XS.ifNo X0.here hx rfl (hb hby d1_195) rfl ((if0 _ _).trans (tlt (by decide)).2.2.2) k) ?_
                      show own_Go p e below G (s₁.setTop (mkF m 198 #[.val (.ref ba), .val (.int (1 : Int32)), .val (.int en), .val (.int i0), .val (.int (1 : Int32)), .val (.int ((B i0) &&& (255 : Int32))), .val (.int (4 : Int32)), .val (.int (128 : Int32)), .val (.int (143 : Int32)), s9, s10] []))
                      refine own_st (fun t k => XS.iloadN X0.here hx rfl (hb hby d1_198) rfl  k) ?_
                      show own_Go p e below G (s₁.setTop (mkF m 199 #[.val (.ref ba), .val (.int (1 : Int32)), .val (.int en), .val (.int i0), .val (.int (1 : Int32)), .val (.int ((B i0) &&& (255 : Int32))), .val (.int (4 : Int32)), .val (.int (128 : Int32)), .val (.int (143 : Int32)), s9, s10] [(.int en)]))
                      refine own_st (fun t k => XS.iloadN X0.here hx rfl (hb hby d1_199) rfl  k) ?_
                      show own_Go p e below G (s₁.setTop (mkF m 200 #[.val (.ref ba), .val (.int (1 : Int32)), .val (.int en), .val (.int i0), .val (.int (1 : Int32)), .val (.int ((B i0) &&& (255 : Int32))), .val (.int (4 : Int32)), .val (.int (128 : Int32)), .val (.int (143 : Int32)), s9, s10] [(.int i0), (.int en)]))
                      refine own_st (fun t k => XS.isub X0.here hx rfl (hb hby d1_200) rfl k) ?_
                      show own_Go p e below G (s₁.setTop (mkF m 201 #[.val (.ref ba), .val (.int (1 : Int32)), .val (.int en), .val (.int i0), .val (.int (1 : Int32)), .val (.int ((B i0) &&& (255 : Int32))), .val (.int (4 : Int32)), .val (.int (128 : Int32)), .val (.int (143 : Int32)), s9, s10] [(.int (en - i0))]))
                      refine own_st (fun t k => XS.iload X0.here hx rfl (hb hby d1_201) rfl  k) ?_
                      show own_Go p e below G (s₁.setTop (mkF m 203 #[.val (.ref ba), .val (.int (1 : Int32)), .val (.int en), .val (.int i0), .val (.int (1 : Int32)), .val (.int ((B i0) &&& (255 : Int32))), .val (.int (4 : Int32)), .val (.int (128 : Int32)), .val (.int (143 : Int32)), s9, s10] [(.int (4 : Int32)), (.int (en - i0))]))
                      by_cases c203_20 : (en - i0) < (4 : Int32)
                      · skip
                        refine own_st (fun t k => XS.icmpYes X0.here hx rfl (pc0 := 203) (pc' := 210) rfl (hb hby d1_203) rfl (tlt c203_20).1 (by decide) (by decide) k) ?_
                        show own_Go p e below G (s₁.setTop (mkF m 210 #[.val (.ref ba), .val (.int (1 : Int32)), .val (.int en), .val (.int i0), .val (.int (1 : Int32)), .val (.int ((B i0) &&& (255 : Int32))), .val (.int (4 : Int32)), .val (.int (128 : Int32)), .val (.int (143 : Int32)), s9, s10] []))
                        refine own_st (fun t k => XS.iconst X0.here hx rfl (hb hby d1_210) k) ?_
                        show own_Go p e below G (s₁.setTop (mkF m 211 #[.val (.ref ba), .val (.int (1 : Int32)), .val (.int en), .val (.int i0), .val (.int (1 : Int32)), .val (.int ((B i0) &&& (255 : Int32))), .val (.int (4 : Int32)), .val (.int (128 : Int32)), .val (.int (143 : Int32)), s9, s10] [(.int (0 : Int32))]))
                        exact bad211 _ _ _ _ _ _ hs9 (show own_vl (B i0 &&& 255) (B (i0 + 1) &&& 255) (B (i0 + 2) &&& 255) (B (i0 + 3) &&& 255) (en - i0) = 0 by unfold own_vl; rw [if_neg c39_3, if_neg c53_4, if_pos c61_5, if_pos c83_6, if_neg c143_7, if_neg c154_8, if_pos c173_19, if_pos c203_20])
                      · skip
                        refine own_st (fun t k => XS.icmpNo X0.here hx rfl (hb hby d1_203) rfl (flt c203_20).1 k) ?_
                        show own_Go p e below G (s₁.setTop (mkF m 206 #[.val (.ref ba), .val (.int (1 : Int32)), .val (.int en), .val (.int i0), .val (.int (1 : Int32)), .val (.int ((B i0) &&& (255 : Int32))), .val (.int (4 : Int32)), .val (.int (128 : Int32)), .val (.int (143 : Int32)), s9, s10] []))
                        refine own_st (fun t k => XS.iconst X0.here hx rfl (hb hby d1_206) k) ?_
                        show own_Go p e below G (s₁.setTop (mkF m 207 #[.val (.ref ba), .val (.int (1 : Int32)), .val (.int en), .val (.int i0), .val (.int (1 : Int32)), .val (.int ((B i0) &&& (255 : Int32))), .val (.int (4 : Int32)), .val (.int (128 : Int32)), .val (.int (143 : Int32)), s9, s10] [(.int (1 : Int32))]))
                        refine own_st (fun t k => XS.goto X0.here hx rfl (pc0 := 207) (pc' := 211) rfl (hb hby d1_207) (by decide) (by decide) k) ?_
                        show own_Go p e below G (s₁.setTop (mkF m 211 #[.val (.ref ba), .val (.int (1 : Int32)), .val (.int en), .val (.int i0), .val (.int (1 : Int32)), .val (.int ((B i0) &&& (255 : Int32))), .val (.int (4 : Int32)), .val (.int (128 : Int32)), .val (.int (143 : Int32)), s9, s10] [(.int (1 : Int32))]))
                        refine own_st (fun t k => XS.istore X0.here hx rfl (hb hby d1_211) rfl (l' := #[.val (.ref ba), .val (.int (1 : Int32)), .val (.int en), .val (.int i0), .val (.int (1 : Int32)), .val (.int ((B i0) &&& (255 : Int32))), .val (.int (4 : Int32)), .val (.int (128 : Int32)), .val (.int (143 : Int32)), s9, s10]) rfl k) ?_
                        show own_Go p e below G (s₁.setTop (mkF m 213 #[.val (.ref ba), .val (.int (1 : Int32)), .val (.int en), .val (.int i0), .val (.int (1 : Int32)), .val (.int ((B i0) &&& (255 : Int32))), .val (.int (4 : Int32)), .val (.int (128 : Int32)), .val (.int (143 : Int32)), s9, s10] []))
                        refine own_st (fun t k => XS.iconst X0.here hx rfl (hb hby d1_213) k) ?_
                        show own_Go p e below G (s₁.setTop (mkF m 214 #[.val (.ref ba), .val (.int (1 : Int32)), .val (.int en), .val (.int i0), .val (.int (1 : Int32)), .val (.int ((B i0) &&& (255 : Int32))), .val (.int (4 : Int32)), .val (.int (128 : Int32)), .val (.int (143 : Int32)), s9, s10] [(.int (1 : Int32))]))
                        refine own_st (fun t k => XS.istore X0.here hx rfl (hb hby d1_214) rfl (l' := #[.val (.ref ba), .val (.int (1 : Int32)), .val (.int en), .val (.int i0), .val (.int (1 : Int32)), .val (.int ((B i0) &&& (255 : Int32))), .val (.int (4 : Int32)), .val (.int (128 : Int32)), .val (.int (143 : Int32)), .val (.int (1 : Int32)), s10]) (XS.store1 rfl hs9 rfl) k) ?_
                        show own_Go p e below G (s₁.setTop (mkF m 216 #[.val (.ref ba), .val (.int (1 : Int32)), .val (.int en), .val (.int i0), .val (.int (1 : Int32)), .val (.int ((B i0) &&& (255 : Int32))), .val (.int (4 : Int32)), .val (.int (128 : Int32)), .val (.int (143 : Int32)), .val (.int (1 : Int32)), s10] []))
                        refine own_st (fun t k => XS.iload X0.here hx rfl (hb hby d1_216) rfl  k) ?_
                        show own_Go p e below G (s₁.setTop (mkF m 218 #[.val (.ref ba), .val (.int (1 : Int32)), .val (.int en), .val (.int i0), .val (.int (1 : Int32)), .val (.int ((B i0) &&& (255 : Int32))), .val (.int (4 : Int32)), .val (.int (128 : Int32)), .val (.int (143 : Int32)), .val (.int (1 : Int32)), s10] [(.int (1 : Int32))]))
                        refine own_st (fun t k => XS.ifNo X0.here hx rfl (hb hby d1_218) rfl ((if0 _ _).trans (feq (by decide)).1) k) ?_
                        show own_Go p e below G (s₁.setTop (mkF m 221 #[.val (.ref ba), .val (.int (1 : Int32)), .val (.int en), .val (.int i0), .val (.int (1 : Int32)), .val (.int ((B i0) &&& (255 : Int32))), .val (.int (4 : Int32)), .val (.int (128 : Int32)), .val (.int (143 : Int32)), .val (.int (1 : Int32)), s10] []))
                        refine own_st (fun t k => XS.iload X0.here hx rfl (hb hby d1_221) rfl  k) ?_
                        show own_Go p e below G (s₁.setTop (mkF m 223 #[.val (.ref ba), .val (.int (1 : Int32)), .val (.int en), .val (.int i0), .val (.int (1 : Int32)), .val (.int ((B i0) &&& (255 : Int32))), .val (.int (4 : Int32)), .val (.int (128 : Int32)), .val (.int (143 : Int32)), .val (.int (1 : Int32)), s10] [(.int (1 : Int32))]))
                        refine own_st (fun t k => XS.iload X0.here hx rfl (hb hby d1_223) rfl  k) ?_
                        show own_Go p e below G (s₁.setTop (mkF m 225 #[.val (.ref ba), .val (.int (1 : Int32)), .val (.int en), .val (.int i0), .val (.int (1 : Int32)), .val (.int ((B i0) &&& (255 : Int32))), .val (.int (4 : Int32)), .val (.int (128 : Int32)), .val (.int (143 : Int32)), .val (.int (1 : Int32)), s10] [(.int (4 : Int32)), (.int (1 : Int32))]))
                        refine own_st (fun t k => XS.icmpNo X0.here hx rfl (hb hby d1_225) rfl (tlt (by decide)).2.1 k) ?_
                        show own_Go p e below G (s₁.setTop (mkF m 228 #[.val (.ref ba), .val (.int (1 : Int32)), .val (.int en), .val (.int i0), .val (.int (1 : Int32)), .val (.int ((B i0) &&& (255 : Int32))), .val (.int (4 : Int32)), .val (.int (128 : Int32)), .val (.int (143 : Int32)), .val (.int (1 : Int32)), s10] []))
                        refine own_st (fun t k => XS.aloadN X0.here hx rfl (hb hby d1_228) rfl rfl  k) ?_
                        show own_Go p e below G (s₁.setTop (mkF m 229 #[.val (.ref ba), .val (.int (1 : Int32)), .val (.int en), .val (.int i0), .val (.int (1 : Int32)), .val (.int ((B i0) &&& (255 : Int32))), .val (.int (4 : Int32)), .val (.int (128 : Int32)), .val (.int (143 : Int32)), .val (.int (1 : Int32)), s10] [(.ref ba)]))
                        refine own_st (fun t k => XS.iloadN X0.here hx rfl (hb hby d1_229) rfl  k) ?_
                        show own_Go p e below G (s₁.setTop (mkF m 230 #[.val (.ref ba), .val (.int (1 : Int32)), .val (.int en), .val (.int i0), .val (.int (1 : Int32)), .val (.int ((B i0) &&& (255 : Int32))), .val (.int (4 : Int32)), .val (.int (128 : Int32)), .val (.int (143 : Int32)), .val (.int (1 : Int32)), s10] [(.int i0), (.ref ba)]))
                        refine own_st (fun t k => XS.iload X0.here hx rfl (hb hby d1_230) rfl  k) ?_
                        show own_Go p e below G (s₁.setTop (mkF m 232 #[.val (.ref ba), .val (.int (1 : Int32)), .val (.int en), .val (.int i0), .val (.int (1 : Int32)), .val (.int ((B i0) &&& (255 : Int32))), .val (.int (4 : Int32)), .val (.int (128 : Int32)), .val (.int (143 : Int32)), .val (.int (1 : Int32)), s10] [(.int (1 : Int32)), (.int i0), (.ref ba)]))
                        refine own_st (fun t k => XS.iadd X0.here hx rfl (hb hby d1_232) rfl k) ?_
                        show own_Go p e below G (s₁.setTop (mkF m 233 #[.val (.ref ba), .val (.int (1 : Int32)), .val (.int en), .val (.int i0), .val (.int (1 : Int32)), .val (.int ((B i0) &&& (255 : Int32))), .val (.int (4 : Int32)), .val (.int (128 : Int32)), .val (.int (143 : Int32)), .val (.int (1 : Int32)), s10] [(.int (i0 + (1 : Int32))), (.ref ba)]))
                        have hb21 := own_bd (n := 6) (own_in hi0 c12_1 he.2 c203_20 (j := (1 : Int32)) (by decide) (by decide) (by decide)) (Int.le_trans he.2 (by decide))
                        have hin21 := inb_of S0 hb21
                        refine own_st (fun t k => X0.baloadBytes hx (j := (i0 + (1 : Int32))) (v := (.int (B (i0 + (1 : Int32))))) (by rw [e0]; exact Ar0.1) (State.isArrayOf_alike hZ.alike Ar0.2.1) Ar0.2.2 hin21 (hB _ hb21.1 hb21.2) (g := (mkF m 233 #[.val (.ref ba), .val (.int (1 : Int32)), .val (.int en), .val (.int i0), .val (.int (1 : Int32)), .val (.int ((B i0) &&& (255 : Int32))), .val (.int (4 : Int32)), .val (.int (128 : Int32)), .val (.int (143 : Int32)), .val (.int (1 : Int32)), s10] [(.int (i0 + (1 : Int32))), (.ref ba)])) rfl rfl (hb hby d1_233) t k) ?_
                        show own_Go p e below G (s₁.setTop (mkF m 234 #[.val (.ref ba), .val (.int (1 : Int32)), .val (.int en), .val (.int i0), .val (.int (1 : Int32)), .val (.int ((B i0) &&& (255 : Int32))), .val (.int (4 : Int32)), .val (.int (128 : Int32)), .val (.int (143 : Int32)), .val (.int (1 : Int32)), s10] [(.int (B (i0 + (1 : Int32))))]))
                        refine own_st (fun t k => XS.sipush X0.here hx rfl (hb hby d1_234) k) ?_
                        show own_Go p e below G (s₁.setTop (mkF m 237 #[.val (.ref ba), .val (.int (1 : Int32)), .val (.int en), .val (.int i0), .val (.int (1 : Int32)), .val (.int ((B i0) &&& (255 : Int32))), .val (.int (4 : Int32)), .val (.int (128 : Int32)), .val (.int (143 : Int32)), .val (.int (1 : Int32)), s10] [(.int (255 : Int32)), (.int (B (i0 + (1 : Int32))))]))
                        refine own_st (fun t k => XS.iand X0.here hx rfl (hb hby d1_237) rfl k) ?_
                        show own_Go p e below G (s₁.setTop (mkF m 238 #[.val (.ref ba), .val (.int (1 : Int32)), .val (.int en), .val (.int i0), .val (.int (1 : Int32)), .val (.int ((B i0) &&& (255 : Int32))), .val (.int (4 : Int32)), .val (.int (128 : Int32)), .val (.int (143 : Int32)), .val (.int (1 : Int32)), s10] [(.int ((B (i0 + (1 : Int32))) &&& (255 : Int32)))]))
                        refine own_st (fun t k => XS.istore X0.here hx rfl (hb hby d1_238) rfl (l' := #[.val (.ref ba), .val (.int (1 : Int32)), .val (.int en), .val (.int i0), .val (.int (1 : Int32)), .val (.int ((B i0) &&& (255 : Int32))), .val (.int (4 : Int32)), .val (.int (128 : Int32)), .val (.int (143 : Int32)), .val (.int (1 : Int32)), .val (.int ((B (i0 + (1 : Int32))) &&& (255 : Int32)))]) (XS.store1 rfl hs10 rfl) k) ?_
                        show own_Go p e below G (s₁.setTop (mkF m 240 #[.val (.ref ba), .val (.int (1 : Int32)), .val (.int en), .val (.int i0), .val (.int (1 : Int32)), .val (.int ((B i0) &&& (255 : Int32))), .val (.int (4 : Int32)), .val (.int (128 : Int32)), .val (.int (143 : Int32)), .val (.int (1 : Int32)), .val (.int ((B (i0 + (1 : Int32))) &&& (255 : Int32)))] []))
                        refine own_st (fun t k => XS.iload X0.here hx rfl (hb hby d1_240) rfl  k) ?_
                        show own_Go p e below G (s₁.setTop (mkF m 242 #[.val (.ref ba), .val (.int (1 : Int32)), .val (.int en), .val (.int i0), .val (.int (1 : Int32)), .val (.int ((B i0) &&& (255 : Int32))), .val (.int (4 : Int32)), .val (.int (128 : Int32)), .val (.int (143 : Int32)), .val (.int (1 : Int32)), .val (.int ((B (i0 + (1 : Int32))) &&& (255 : Int32)))] [(.int (1 : Int32))]))
                        refine own_st (fun t k => XS.iconst X0.here hx rfl (hb hby d1_242) k) ?_
                        show own_Go p e below G (s₁.setTop (mkF m 243 #[.val (.ref ba), .val (.int (1 : Int32)), .val (.int en), .val (.int i0), .val (.int (1 : Int32)), .val (.int ((B i0) &&& (255 : Int32))), .val (.int (4 : Int32)), .val (.int (128 : Int32)), .val (.int (143 : Int32)), .val (.int (1 : Int32)), .val (.int ((B (i0 + (1 : Int32))) &&& (255 : Int32)))] [(.int (1 : Int32)), (.int (1 : Int32))]))
                        refine own_st (fun t k => XS.icmpNo X0.here hx rfl (hb hby d1_243) rfl (teq (by decide)).2 k) ?_
                        show own_Go p e below G (s₁.setTop (mkF m 246 #[.val (.ref ba), .val (.int (1 : Int32)), .val (.int en), .val (.int i0), .val (.int (1 : Int32)), .val (.int ((B i0) &&& (255 : Int32))), .val (.int (4 : Int32)), .val (.int (128 : Int32)), .val (.int (143 : Int32)), .val (.int (1 : Int32)), .val (.int ((B (i0 + (1 : Int32))) &&& (255 : Int32)))] []))
                        refine own_st (fun t k => XS.iload X0.here hx rfl (hb hby d1_246) rfl  k) ?_
                        show own_Go p e below G (s₁.setTop (mkF m 248 #[.val (.ref ba), .val (.int (1 : Int32)), .val (.int en), .val (.int i0), .val (.int (1 : Int32)), .val (.int ((B i0) &&& (255 : Int32))), .val (.int (4 : Int32)), .val (.int (128 : Int32)), .val (.int (143 : Int32)), .val (.int (1 : Int32)), .val (.int ((B (i0 + (1 : Int32))) &&& (255 : Int32)))] [(.int ((B (i0 + (1 : Int32))) &&& (255 : Int32)))]))
                        refine own_st (fun t k => XS.iload X0.here hx rfl (hb hby d1_248) rfl  k) ?_
                        show own_Go p e below G (s₁.setTop (mkF m 250 #[.val (.ref ba), .val (.int (1 : Int32)), .val (.int en), .val (.int i0), .val (.int (1 : Int32)), .val (.int ((B i0) &&& (255 : Int32))), .val (.int (4 : Int32)), .val (.int (128 : Int32)), .val (.int (143 : Int32)), .val (.int (1 : Int32)), .val (.int ((B (i0 + (1 : Int32))) &&& (255 : Int32)))] [(.int (128 : Int32)), (.int ((B (i0 + (1 : Int32))) &&& (255 : Int32)))]))
                        by_cases c250_22 : ((B (i0 + (1 : Int32))) &&& (255 : Int32)) < (128 : Int32)
                        · skip
                          refine own_st (fun t k => XS.icmpYes X0.here hx rfl (pc0 := 250) (pc' := 264) rfl (hb hby d1_250) rfl (tlt c250_22).1 (by decide) (by decide) k) ?_
                          show own_Go p e below G (s₁.setTop (mkF m 264 #[.val (.ref ba), .val (.int (1 : Int32)), .val (.int en), .val (.int i0), .val (.int (1 : Int32)), .val (.int ((B i0) &&& (255 : Int32))), .val (.int (4 : Int32)), .val (.int (128 : Int32)), .val (.int (143 : Int32)), .val (.int (1 : Int32)), .val (.int ((B (i0 + (1 : Int32))) &&& (255 : Int32)))] []))
                          refine own_st (fun t k => XS.iconst X0.here hx rfl (hb hby d1_264) k) ?_
                          show own_Go p e below G (s₁.setTop (mkF m 265 #[.val (.ref ba), .val (.int (1 : Int32)), .val (.int en), .val (.int i0), .val (.int (1 : Int32)), .val (.int ((B i0) &&& (255 : Int32))), .val (.int (4 : Int32)), .val (.int (128 : Int32)), .val (.int (143 : Int32)), .val (.int (1 : Int32)), .val (.int ((B (i0 + (1 : Int32))) &&& (255 : Int32)))] [(.int (0 : Int32))]))
                          refine own_st (fun t k => XS.goto X0.here hx rfl (pc0 := 265) (pc' := 289) rfl (hb hby d1_265) (by decide) (by decide) k) ?_
                          show own_Go p e below G (s₁.setTop (mkF m 289 #[.val (.ref ba), .val (.int (1 : Int32)), .val (.int en), .val (.int i0), .val (.int (1 : Int32)), .val (.int ((B i0) &&& (255 : Int32))), .val (.int (4 : Int32)), .val (.int (128 : Int32)), .val (.int (143 : Int32)), .val (.int (1 : Int32)), .val (.int ((B (i0 + (1 : Int32))) &&& (255 : Int32)))] [(.int (0 : Int32))]))
                          exact bad289 _ _ _ _ _ _ (show own_vl (B i0 &&& 255) (B (i0 + 1) &&& 255) (B (i0 + 2) &&& 255) (B (i0 + 3) &&& 255) (en - i0) = 0 by unfold own_vl; rw [if_neg c39_3, if_neg c53_4, if_pos c61_5, if_pos c83_6, if_neg c143_7, if_neg c154_8, if_pos c173_19, if_neg c203_20, if_pos c250_22])
                        · skip
                          refine own_st (fun t k => XS.icmpNo X0.here hx rfl (hb hby d1_250) rfl (flt c250_22).1 k) ?_
                          show own_Go p e below G (s₁.setTop (mkF m 253 #[.val (.ref ba), .val (.int (1 : Int32)), .val (.int en), .val (.int i0), .val (.int (1 : Int32)), .val (.int ((B i0) &&& (255 : Int32))), .val (.int (4 : Int32)), .val (.int (128 : Int32)), .val (.int (143 : Int32)), .val (.int (1 : Int32)), .val (.int ((B (i0 + (1 : Int32))) &&& (255 : Int32)))] []))
                          refine own_st (fun t k => XS.iload X0.here hx rfl (hb hby d1_253) rfl  k) ?_
                          show own_Go p e below G (s₁.setTop (mkF m 255 #[.val (.ref ba), .val (.int (1 : Int32)), .val (.int en), .val (.int i0), .val (.int (1 : Int32)), .val (.int ((B i0) &&& (255 : Int32))), .val (.int (4 : Int32)), .val (.int (128 : Int32)), .val (.int (143 : Int32)), .val (.int (1 : Int32)), .val (.int ((B (i0 + (1 : Int32))) &&& (255 : Int32)))] [(.int ((B (i0 + (1 : Int32))) &&& (255 : Int32)))]))
                          refine own_st (fun t k => XS.iload X0.here hx rfl (hb hby d1_255) rfl  k) ?_
                          show own_Go p e below G (s₁.setTop (mkF m 257 #[.val (.ref ba), .val (.int (1 : Int32)), .val (.int en), .val (.int i0), .val (.int (1 : Int32)), .val (.int ((B i0) &&& (255 : Int32))), .val (.int (4 : Int32)), .val (.int (128 : Int32)), .val (.int (143 : Int32)), .val (.int (1 : Int32)), .val (.int ((B (i0 + (1 : Int32))) &&& (255 : Int32)))] [(.int (143 : Int32)), (.int ((B (i0 + (1 : Int32))) &&& (255 : Int32)))]))
                          by_cases c257_23 : (143 : Int32) < ((B (i0 + (1 : Int32))) &&& (255 : Int32))
                          · skip
                            refine own_st (fun t k => XS.icmpYes X0.here hx rfl (pc0 := 257) (pc' := 264) rfl (hb hby d1_257) rfl (tlt c257_23).2.2.1 (by decide) (by decide) k) ?_
                            show own_Go p e below G (s₁.setTop (mkF m 264 #[.val (.ref ba), .val (.int (1 : Int32)), .val (.int en), .val (.int i0), .val (.int (1 : Int32)), .val (.int ((B i0) &&& (255 : Int32))), .val (.int (4 : Int32)), .val (.int (128 : Int32)), .val (.int (143 : Int32)), .val (.int (1 : Int32)), .val (.int ((B (i0 + (1 : Int32))) &&& (255 : Int32)))] []))
                            refine own_st (fun t k => XS.iconst X0.here hx rfl (hb hby d1_264) k) ?_
                            show own_Go p e below G (s₁.setTop (mkF m 265 #[.val (.ref ba), .val (.int (1 : Int32)), .val (.int en), .val (.int i0), .val (.int (1 : Int32)), .val (.int ((B i0) &&& (255 : Int32))), .val (.int (4 : Int32)), .val (.int (128 : Int32)), .val (.int (143 : Int32)), .val (.int (1 : Int32)), .val (.int ((B (i0 + (1 : Int32))) &&& (255 : Int32)))] [(.int (0 : Int32))]))
                            refine own_st (fun t k => XS.goto X0.here hx rfl (pc0 := 265) (pc' := 289) rfl (hb hby d1_265) (by decide) (by decide) k) ?_
                            show own_Go p e below G (s₁.setTop (mkF m 289 #[.val (.ref ba), .val (.int (1 : Int32)), .val (.int en), .val (.int i0), .val (.int (1 : Int32)), .val (.int ((B i0) &&& (255 : Int32))), .val (.int (4 : Int32)), .val (.int (128 : Int32)), .val (.int (143 : Int32)), .val (.int (1 : Int32)), .val (.int ((B (i0 + (1 : Int32))) &&& (255 : Int32)))] [(.int (0 : Int32))]))
                            exact bad289 _ _ _ _ _ _ (show own_vl (B i0 &&& 255) (B (i0 + 1) &&& 255) (B (i0 + 2) &&& 255) (B (i0 + 3) &&& 255) (en - i0) = 0 by unfold own_vl; rw [if_neg c39_3, if_neg c53_4, if_pos c61_5, if_pos c83_6, if_neg c143_7, if_neg c154_8, if_pos c173_19, if_neg c203_20, if_neg c250_22, if_pos c257_23])
                          · skip
                            refine own_st (fun t k => XS.icmpNo X0.here hx rfl (hb hby d1_257) rfl (flt c257_23).2.2.1 k) ?_
                            show own_Go p e below G (s₁.setTop (mkF m 260 #[.val (.ref ba), .val (.int (1 : Int32)), .val (.int en), .val (.int i0), .val (.int (1 : Int32)), .val (.int ((B i0) &&& (255 : Int32))), .val (.int (4 : Int32)), .val (.int (128 : Int32)), .val (.int (143 : Int32)), .val (.int (1 : Int32)), .val (.int ((B (i0 + (1 : Int32))) &&& (255 : Int32)))] []))
                            refine own_st (fun t k => XS.iconst X0.here hx rfl (hb hby d1_260) k) ?_
                            show own_Go p e below G (s₁.setTop (mkF m 261 #[.val (.ref ba), .val (.int (1 : Int32)), .val (.int en), .val (.int i0), .val (.int (1 : Int32)), .val (.int ((B i0) &&& (255 : Int32))), .val (.int (4 : Int32)), .val (.int (128 : Int32)), .val (.int (143 : Int32)), .val (.int (1 : Int32)), .val (.int ((B (i0 + (1 : Int32))) &&& (255 : Int32)))] [(.int (1 : Int32))]))
                            refine own_st (fun t k => XS.goto X0.here hx rfl (pc0 := 261) (pc' := 289) rfl (hb hby d1_261) (by decide) (by decide) k) ?_
                            show own_Go p e below G (s₁.setTop (mkF m 289 #[.val (.ref ba), .val (.int (1 : Int32)), .val (.int en), .val (.int i0), .val (.int (1 : Int32)), .val (.int ((B i0) &&& (255 : Int32))), .val (.int (4 : Int32)), .val (.int (128 : Int32)), .val (.int (143 : Int32)), .val (.int (1 : Int32)), .val (.int ((B (i0 + (1 : Int32))) &&& (255 : Int32)))] [(.int (1 : Int32))]))
                            refine own_st (fun t k => XS.istore X0.here hx rfl (hb hby d1_289) rfl (l' := #[.val (.ref ba), .val (.int (1 : Int32)), .val (.int en), .val (.int i0), .val (.int (1 : Int32)), .val (.int ((B i0) &&& (255 : Int32))), .val (.int (4 : Int32)), .val (.int (128 : Int32)), .val (.int (143 : Int32)), .val (.int (1 : Int32)), .val (.int ((B (i0 + (1 : Int32))) &&& (255 : Int32)))]) rfl k) ?_
                            show own_Go p e below G (s₁.setTop (mkF m 291 #[.val (.ref ba), .val (.int (1 : Int32)), .val (.int en), .val (.int i0), .val (.int (1 : Int32)), .val (.int ((B i0) &&& (255 : Int32))), .val (.int (4 : Int32)), .val (.int (128 : Int32)), .val (.int (143 : Int32)), .val (.int (1 : Int32)), .val (.int ((B (i0 + (1 : Int32))) &&& (255 : Int32)))] []))
                            refine own_st (fun t k => XS.iinc X0.here hx rfl (hb hby d1_291) rfl (l' := #[.val (.ref ba), .val (.int (1 : Int32)), .val (.int en), .val (.int i0), .val (.int (1 : Int32)), .val (.int ((B i0) &&& (255 : Int32))), .val (.int (4 : Int32)), .val (.int (128 : Int32)), .val (.int (143 : Int32)), .val (.int (2 : Int32)), .val (.int ((B (i0 + (1 : Int32))) &&& (255 : Int32)))]) rfl k) ?_
                            show own_Go p e below G (s₁.setTop (mkF m 294 #[.val (.ref ba), .val (.int (1 : Int32)), .val (.int en), .val (.int i0), .val (.int (1 : Int32)), .val (.int ((B i0) &&& (255 : Int32))), .val (.int (4 : Int32)), .val (.int (128 : Int32)), .val (.int (143 : Int32)), .val (.int (2 : Int32)), .val (.int ((B (i0 + (1 : Int32))) &&& (255 : Int32)))] []))
                            refine own_st (fun t k => XS.goto X0.here hx rfl (pc0 := 294) (pc' := 216) rfl (hb hby d1_294) (by decide) (by decide) k) ?_
                            show own_Go p e below G (s₁.setTop (mkF m 216 #[.val (.ref ba), .val (.int (1 : Int32)), .val (.int en), .val (.int i0), .val (.int (1 : Int32)), .val (.int ((B i0) &&& (255 : Int32))), .val (.int (4 : Int32)), .val (.int (128 : Int32)), .val (.int (143 : Int32)), .val (.int (2 : Int32)), .val (.int ((B (i0 + (1 : Int32))) &&& (255 : Int32)))] []))
                            refine own_st (fun t k => XS.iload X0.here hx rfl (hb hby d1_216) rfl  k) ?_
                            show own_Go p e below G (s₁.setTop (mkF m 218 #[.val (.ref ba), .val (.int (1 : Int32)), .val (.int en), .val (.int i0), .val (.int (1 : Int32)), .val (.int ((B i0) &&& (255 : Int32))), .val (.int (4 : Int32)), .val (.int (128 : Int32)), .val (.int (143 : Int32)), .val (.int (2 : Int32)), .val (.int ((B (i0 + (1 : Int32))) &&& (255 : Int32)))] [(.int (1 : Int32))]))
                            refine own_st (fun t k => XS.ifNo X0.here hx rfl (hb hby d1_218) rfl ((if0 _ _).trans (feq (by decide)).1) k) ?_
                            show own_Go p e below G (s₁.setTop (mkF m 221 #[.val (.ref ba), .val (.int (1 : Int32)), .val (.int en), .val (.int i0), .val (.int (1 : Int32)), .val (.int ((B i0) &&& (255 : Int32))), .val (.int (4 : Int32)), .val (.int (128 : Int32)), .val (.int (143 : Int32)), .val (.int (2 : Int32)), .val (.int ((B (i0 + (1 : Int32))) &&& (255 : Int32)))] []))
                            refine own_st (fun t k => XS.iload X0.here hx rfl (hb hby d1_221) rfl  k) ?_
                            show own_Go p e below G (s₁.setTop (mkF m 223 #[.val (.ref ba), .val (.int (1 : Int32)), .val (.int en), .val (.int i0), .val (.int (1 : Int32)), .val (.int ((B i0) &&& (255 : Int32))), .val (.int (4 : Int32)), .val (.int (128 : Int32)), .val (.int (143 : Int32)), .val (.int (2 : Int32)), .val (.int ((B (i0 + (1 : Int32))) &&& (255 : Int32)))] [(.int (2 : Int32))]))
                            refine own_st (fun t k => XS.iload X0.here hx rfl (hb hby d1_223) rfl  k) ?_
                            show own_Go p e below G (s₁.setTop (mkF m 225 #[.val (.ref ba), .val (.int (1 : Int32)), .val (.int en), .val (.int i0), .val (.int (1 : Int32)), .val (.int ((B i0) &&& (255 : Int32))), .val (.int (4 : Int32)), .val (.int (128 : Int32)), .val (.int (143 : Int32)), .val (.int (2 : Int32)), .val (.int ((B (i0 + (1 : Int32))) &&& (255 : Int32)))] [(.int (4 : Int32)), (.int (2 : Int32))]))
                            refine own_st (fun t k => XS.icmpNo X0.here hx rfl (hb hby d1_225) rfl (tlt (by decide)).2.1 k) ?_
                            show own_Go p e below G (s₁.setTop (mkF m 228 #[.val (.ref ba), .val (.int (1 : Int32)), .val (.int en), .val (.int i0), .val (.int (1 : Int32)), .val (.int ((B i0) &&& (255 : Int32))), .val (.int (4 : Int32)), .val (.int (128 : Int32)), .val (.int (143 : Int32)), .val (.int (2 : Int32)), .val (.int ((B (i0 + (1 : Int32))) &&& (255 : Int32)))] []))
                            refine own_st (fun t k => XS.aloadN X0.here hx rfl (hb hby d1_228) rfl rfl  k) ?_
                            show own_Go p e below G (s₁.setTop (mkF m 229 #[.val (.ref ba), .val (.int (1 : Int32)), .val (.int en), .val (.int i0), .val (.int (1 : Int32)), .val (.int ((B i0) &&& (255 : Int32))), .val (.int (4 : Int32)), .val (.int (128 : Int32)), .val (.int (143 : Int32)), .val (.int (2 : Int32)), .val (.int ((B (i0 + (1 : Int32))) &&& (255 : Int32)))] [(.ref ba)]))
                            refine own_st (fun t k => XS.iloadN X0.here hx rfl (hb hby d1_229) rfl  k) ?_
                            show own_Go p e below G (s₁.setTop (mkF m 230 #[.val (.ref ba), .val (.int (1 : Int32)), .val (.int en), .val (.int i0), .val (.int (1 : Int32)), .val (.int ((B i0) &&& (255 : Int32))), .val (.int (4 : Int32)), .val (.int (128 : Int32)), .val (.int (143 : Int32)), .val (.int (2 : Int32)), .val (.int ((B (i0 + (1 : Int32))) &&& (255 : Int32)))] [(.int i0), (.ref ba)]))
                            refine own_st (fun t k => XS.iload X0.here hx rfl (hb hby d1_230) rfl  k) ?_
                            show own_Go p e below G (s₁.setTop (mkF m 232 #[.val (.ref ba), .val (.int (1 : Int32)), .val (.int en), .val (.int i0), .val (.int (1 : Int32)), .val (.int ((B i0) &&& (255 : Int32))), .val (.int (4 : Int32)), .val (.int (128 : Int32)), .val (.int (143 : Int32)), .val (.int (2 : Int32)), .val (.int ((B (i0 + (1 : Int32))) &&& (255 : Int32)))] [(.int (2 : Int32)), (.int i0), (.ref ba)]))
                            refine own_st (fun t k => XS.iadd X0.here hx rfl (hb hby d1_232) rfl k) ?_
                            show own_Go p e below G (s₁.setTop (mkF m 233 #[.val (.ref ba), .val (.int (1 : Int32)), .val (.int en), .val (.int i0), .val (.int (1 : Int32)), .val (.int ((B i0) &&& (255 : Int32))), .val (.int (4 : Int32)), .val (.int (128 : Int32)), .val (.int (143 : Int32)), .val (.int (2 : Int32)), .val (.int ((B (i0 + (1 : Int32))) &&& (255 : Int32)))] [(.int (i0 + (2 : Int32))), (.ref ba)]))
                            have hb24 := own_bd (n := 6) (own_in hi0 c12_1 he.2 c203_20 (j := (2 : Int32)) (by decide) (by decide) (by decide)) (Int.le_trans he.2 (by decide))
                            have hin24 := inb_of S0 hb24
                            refine own_st (fun t k => X0.baloadBytes hx (j := (i0 + (2 : Int32))) (v := (.int (B (i0 + (2 : Int32))))) (by rw [e0]; exact Ar0.1) (State.isArrayOf_alike hZ.alike Ar0.2.1) Ar0.2.2 hin24 (hB _ hb24.1 hb24.2) (g := (mkF m 233 #[.val (.ref ba), .val (.int (1 : Int32)), .val (.int en), .val (.int i0), .val (.int (1 : Int32)), .val (.int ((B i0) &&& (255 : Int32))), .val (.int (4 : Int32)), .val (.int (128 : Int32)), .val (.int (143 : Int32)), .val (.int (2 : Int32)), .val (.int ((B (i0 + (1 : Int32))) &&& (255 : Int32)))] [(.int (i0 + (2 : Int32))), (.ref ba)])) rfl rfl (hb hby d1_233) t k) ?_
                            show own_Go p e below G (s₁.setTop (mkF m 234 #[.val (.ref ba), .val (.int (1 : Int32)), .val (.int en), .val (.int i0), .val (.int (1 : Int32)), .val (.int ((B i0) &&& (255 : Int32))), .val (.int (4 : Int32)), .val (.int (128 : Int32)), .val (.int (143 : Int32)), .val (.int (2 : Int32)), .val (.int ((B (i0 + (1 : Int32))) &&& (255 : Int32)))] [(.int (B (i0 + (2 : Int32))))]))
                            refine own_st (fun t k => XS.sipush X0.here hx rfl (hb hby d1_234) k) ?_
                            show own_Go p e below G (s₁.setTop (mkF m 237 #[.val (.ref ba), .val (.int (1 : Int32)), .val (.int en), .val (.int i0), .val (.int (1 : Int32)), .val (.int ((B i0) &&& (255 : Int32))), .val (.int (4 : Int32)), .val (.int (128 : Int32)), .val (.int (143 : Int32)), .val (.int (2 : Int32)), .val (.int ((B (i0 + (1 : Int32))) &&& (255 : Int32)))] [(.int (255 : Int32)), (.int (B (i0 + (2 : Int32))))]))
                            refine own_st (fun t k => XS.iand X0.here hx rfl (hb hby d1_237) rfl k) ?_
                            show own_Go p e below G (s₁.setTop (mkF m 238 #[.val (.ref ba), .val (.int (1 : Int32)), .val (.int en), .val (.int i0), .val (.int (1 : Int32)), .val (.int ((B i0) &&& (255 : Int32))), .val (.int (4 : Int32)), .val (.int (128 : Int32)), .val (.int (143 : Int32)), .val (.int (2 : Int32)), .val (.int ((B (i0 + (1 : Int32))) &&& (255 : Int32)))] [(.int ((B (i0 + (2 : Int32))) &&& (255 : Int32)))]))
                            refine own_st (fun t k => XS.istore X0.here hx rfl (hb hby d1_238) rfl (l' := #[.val (.ref ba), .val (.int (1 : Int32)), .val (.int en), .val (.int i0), .val (.int (1 : Int32)), .val (.int ((B i0) &&& (255 : Int32))), .val (.int (4 : Int32)), .val (.int (128 : Int32)), .val (.int (143 : Int32)), .val (.int (2 : Int32)), .val (.int ((B (i0 + (2 : Int32))) &&& (255 : Int32)))]) rfl k) ?_
                            show own_Go p e below G (s₁.setTop (mkF m 240 #[.val (.ref ba), .val (.int (1 : Int32)), .val (.int en), .val (.int i0), .val (.int (1 : Int32)), .val (.int ((B i0) &&& (255 : Int32))), .val (.int (4 : Int32)), .val (.int (128 : Int32)), .val (.int (143 : Int32)), .val (.int (2 : Int32)), .val (.int ((B (i0 + (2 : Int32))) &&& (255 : Int32)))] []))
                            refine own_st (fun t k => XS.iload X0.here hx rfl (hb hby d1_240) rfl  k) ?_
                            show own_Go p e below G (s₁.setTop (mkF m 242 #[.val (.ref ba), .val (.int (1 : Int32)), .val (.int en), .val (.int i0), .val (.int (1 : Int32)), .val (.int ((B i0) &&& (255 : Int32))), .val (.int (4 : Int32)), .val (.int (128 : Int32)), .val (.int (143 : Int32)), .val (.int (2 : Int32)), .val (.int ((B (i0 + (2 : Int32))) &&& (255 : Int32)))] [(.int (2 : Int32))]))
                            refine own_st (fun t k => XS.iconst X0.here hx rfl (hb hby d1_242) k) ?_
                            show own_Go p e below G (s₁.setTop (mkF m 243 #[.val (.ref ba), .val (.int (1 : Int32)), .val (.int en), .val (.int i0), .val (.int (1 : Int32)), .val (.int ((B i0) &&& (255 : Int32))), .val (.int (4 : Int32)), .val (.int (128 : Int32)), .val (.int (143 : Int32)), .val (.int (2 : Int32)), .val (.int ((B (i0 + (2 : Int32))) &&& (255 : Int32)))] [(.int (1 : Int32)), (.int (2 : Int32))]))
                            refine own_st (fun t k => XS.icmpYes X0.here hx rfl (pc0 := 243) (pc' := 268) rfl (hb hby d1_243) rfl (feq (by decide)).2 (by decide) (by decide) k) ?_
                            show own_Go p e below G (s₁.setTop (mkF m 268 #[.val (.ref ba), .val (.int (1 : Int32)), .val (.int en), .val (.int i0), .val (.int (1 : Int32)), .val (.int ((B i0) &&& (255 : Int32))), .val (.int (4 : Int32)), .val (.int (128 : Int32)), .val (.int (143 : Int32)), .val (.int (2 : Int32)), .val (.int ((B (i0 + (2 : Int32))) &&& (255 : Int32)))] []))
                            refine own_st (fun t k => XS.iload X0.here hx rfl (hb hby d1_268) rfl  k) ?_
                            show own_Go p e below G (s₁.setTop (mkF m 270 #[.val (.ref ba), .val (.int (1 : Int32)), .val (.int en), .val (.int i0), .val (.int (1 : Int32)), .val (.int ((B i0) &&& (255 : Int32))), .val (.int (4 : Int32)), .val (.int (128 : Int32)), .val (.int (143 : Int32)), .val (.int (2 : Int32)), .val (.int ((B (i0 + (2 : Int32))) &&& (255 : Int32)))] [(.int ((B (i0 + (2 : Int32))) &&& (255 : Int32)))]))
                            refine own_st (fun t k => XS.sipush X0.here hx rfl (hb hby d1_270) k) ?_
                            show own_Go p e below G (s₁.setTop (mkF m 273 #[.val (.ref ba), .val (.int (1 : Int32)), .val (.int en), .val (.int i0), .val (.int (1 : Int32)), .val (.int ((B i0) &&& (255 : Int32))), .val (.int (4 : Int32)), .val (.int (128 : Int32)), .val (.int (143 : Int32)), .val (.int (2 : Int32)), .val (.int ((B (i0 + (2 : Int32))) &&& (255 : Int32)))] [(.int (128 : Int32)), (.int ((B (i0 + (2 : Int32))) &&& (255 : Int32)))]))
                            by_cases c273_25 : ((B (i0 + (2 : Int32))) &&& (255 : Int32)) < (128 : Int32)
                            · skip
                              refine own_st (fun t k => XS.icmpYes X0.here hx rfl (pc0 := 273) (pc' := 288) rfl (hb hby d1_273) rfl (tlt c273_25).1 (by decide) (by decide) k) ?_
                              show own_Go p e below G (s₁.setTop (mkF m 288 #[.val (.ref ba), .val (.int (1 : Int32)), .val (.int en), .val (.int i0), .val (.int (1 : Int32)), .val (.int ((B i0) &&& (255 : Int32))), .val (.int (4 : Int32)), .val (.int (128 : Int32)), .val (.int (143 : Int32)), .val (.int (2 : Int32)), .val (.int ((B (i0 + (2 : Int32))) &&& (255 : Int32)))] []))
                              refine own_st (fun t k => XS.iconst X0.here hx rfl (hb hby d1_288) k) ?_
                              show own_Go p e below G (s₁.setTop (mkF m 289 #[.val (.ref ba), .val (.int (1 : Int32)), .val (.int en), .val (.int i0), .val (.int (1 : Int32)), .val (.int ((B i0) &&& (255 : Int32))), .val (.int (4 : Int32)), .val (.int (128 : Int32)), .val (.int (143 : Int32)), .val (.int (2 : Int32)), .val (.int ((B (i0 + (2 : Int32))) &&& (255 : Int32)))] [(.int (0 : Int32))]))
                              exact bad289 _ _ _ _ _ _ (show own_vl (B i0 &&& 255) (B (i0 + 1) &&& 255) (B (i0 + 2) &&& 255) (B (i0 + 3) &&& 255) (en - i0) = 0 by unfold own_vl; rw [if_neg c39_3, if_neg c53_4, if_pos c61_5, if_pos c83_6, if_neg c143_7, if_neg c154_8, if_pos c173_19, if_neg c203_20, if_neg c250_22, if_neg c257_23, if_pos c273_25])
                            · skip
                              refine own_st (fun t k => XS.icmpNo X0.here hx rfl (hb hby d1_273) rfl (flt c273_25).1 k) ?_
                              show own_Go p e below G (s₁.setTop (mkF m 276 #[.val (.ref ba), .val (.int (1 : Int32)), .val (.int en), .val (.int i0), .val (.int (1 : Int32)), .val (.int ((B i0) &&& (255 : Int32))), .val (.int (4 : Int32)), .val (.int (128 : Int32)), .val (.int (143 : Int32)), .val (.int (2 : Int32)), .val (.int ((B (i0 + (2 : Int32))) &&& (255 : Int32)))] []))
                              refine own_st (fun t k => XS.iload X0.here hx rfl (hb hby d1_276) rfl  k) ?_
                              show own_Go p e below G (s₁.setTop (mkF m 278 #[.val (.ref ba), .val (.int (1 : Int32)), .val (.int en), .val (.int i0), .val (.int (1 : Int32)), .val (.int ((B i0) &&& (255 : Int32))), .val (.int (4 : Int32)), .val (.int (128 : Int32)), .val (.int (143 : Int32)), .val (.int (2 : Int32)), .val (.int ((B (i0 + (2 : Int32))) &&& (255 : Int32)))] [(.int ((B (i0 + (2 : Int32))) &&& (255 : Int32)))]))
                              refine own_st (fun t k => XS.sipush X0.here hx rfl (hb hby d1_278) k) ?_
                              show own_Go p e below G (s₁.setTop (mkF m 281 #[.val (.ref ba), .val (.int (1 : Int32)), .val (.int en), .val (.int i0), .val (.int (1 : Int32)), .val (.int ((B i0) &&& (255 : Int32))), .val (.int (4 : Int32)), .val (.int (128 : Int32)), .val (.int (143 : Int32)), .val (.int (2 : Int32)), .val (.int ((B (i0 + (2 : Int32))) &&& (255 : Int32)))] [(.int (191 : Int32)), (.int ((B (i0 + (2 : Int32))) &&& (255 : Int32)))]))
                              by_cases c281_26 : (191 : Int32) < ((B (i0 + (2 : Int32))) &&& (255 : Int32))
                              · skip
                                refine own_st (fun t k => XS.icmpYes X0.here hx rfl (pc0 := 281) (pc' := 288) rfl (hb hby d1_281) rfl (tlt c281_26).2.2.1 (by decide) (by decide) k) ?_
                                show own_Go p e below G (s₁.setTop (mkF m 288 #[.val (.ref ba), .val (.int (1 : Int32)), .val (.int en), .val (.int i0), .val (.int (1 : Int32)), .val (.int ((B i0) &&& (255 : Int32))), .val (.int (4 : Int32)), .val (.int (128 : Int32)), .val (.int (143 : Int32)), .val (.int (2 : Int32)), .val (.int ((B (i0 + (2 : Int32))) &&& (255 : Int32)))] []))
                                refine own_st (fun t k => XS.iconst X0.here hx rfl (hb hby d1_288) k) ?_
                                show own_Go p e below G (s₁.setTop (mkF m 289 #[.val (.ref ba), .val (.int (1 : Int32)), .val (.int en), .val (.int i0), .val (.int (1 : Int32)), .val (.int ((B i0) &&& (255 : Int32))), .val (.int (4 : Int32)), .val (.int (128 : Int32)), .val (.int (143 : Int32)), .val (.int (2 : Int32)), .val (.int ((B (i0 + (2 : Int32))) &&& (255 : Int32)))] [(.int (0 : Int32))]))
                                exact bad289 _ _ _ _ _ _ (show own_vl (B i0 &&& 255) (B (i0 + 1) &&& 255) (B (i0 + 2) &&& 255) (B (i0 + 3) &&& 255) (en - i0) = 0 by unfold own_vl; rw [if_neg c39_3, if_neg c53_4, if_pos c61_5, if_pos c83_6, if_neg c143_7, if_neg c154_8, if_pos c173_19, if_neg c203_20, if_neg c250_22, if_neg c257_23, if_neg c273_25, if_pos c281_26])
                              · skip
                                refine own_st (fun t k => XS.icmpNo X0.here hx rfl (hb hby d1_281) rfl (flt c281_26).2.2.1 k) ?_
                                show own_Go p e below G (s₁.setTop (mkF m 284 #[.val (.ref ba), .val (.int (1 : Int32)), .val (.int en), .val (.int i0), .val (.int (1 : Int32)), .val (.int ((B i0) &&& (255 : Int32))), .val (.int (4 : Int32)), .val (.int (128 : Int32)), .val (.int (143 : Int32)), .val (.int (2 : Int32)), .val (.int ((B (i0 + (2 : Int32))) &&& (255 : Int32)))] []))
                                refine own_st (fun t k => XS.iconst X0.here hx rfl (hb hby d1_284) k) ?_
                                show own_Go p e below G (s₁.setTop (mkF m 285 #[.val (.ref ba), .val (.int (1 : Int32)), .val (.int en), .val (.int i0), .val (.int (1 : Int32)), .val (.int ((B i0) &&& (255 : Int32))), .val (.int (4 : Int32)), .val (.int (128 : Int32)), .val (.int (143 : Int32)), .val (.int (2 : Int32)), .val (.int ((B (i0 + (2 : Int32))) &&& (255 : Int32)))] [(.int (1 : Int32))]))
                                refine own_st (fun t k => XS.goto X0.here hx rfl (pc0 := 285) (pc' := 289) rfl (hb hby d1_285) (by decide) (by decide) k) ?_
                                show own_Go p e below G (s₁.setTop (mkF m 289 #[.val (.ref ba), .val (.int (1 : Int32)), .val (.int en), .val (.int i0), .val (.int (1 : Int32)), .val (.int ((B i0) &&& (255 : Int32))), .val (.int (4 : Int32)), .val (.int (128 : Int32)), .val (.int (143 : Int32)), .val (.int (2 : Int32)), .val (.int ((B (i0 + (2 : Int32))) &&& (255 : Int32)))] [(.int (1 : Int32))]))
                                refine own_st (fun t k => XS.istore X0.here hx rfl (hb hby d1_289) rfl (l' := #[.val (.ref ba), .val (.int (1 : Int32)), .val (.int en), .val (.int i0), .val (.int (1 : Int32)), .val (.int ((B i0) &&& (255 : Int32))), .val (.int (4 : Int32)), .val (.int (128 : Int32)), .val (.int (143 : Int32)), .val (.int (2 : Int32)), .val (.int ((B (i0 + (2 : Int32))) &&& (255 : Int32)))]) rfl k) ?_
                                show own_Go p e below G (s₁.setTop (mkF m 291 #[.val (.ref ba), .val (.int (1 : Int32)), .val (.int en), .val (.int i0), .val (.int (1 : Int32)), .val (.int ((B i0) &&& (255 : Int32))), .val (.int (4 : Int32)), .val (.int (128 : Int32)), .val (.int (143 : Int32)), .val (.int (2 : Int32)), .val (.int ((B (i0 + (2 : Int32))) &&& (255 : Int32)))] []))
                                refine own_st (fun t k => XS.iinc X0.here hx rfl (hb hby d1_291) rfl (l' := #[.val (.ref ba), .val (.int (1 : Int32)), .val (.int en), .val (.int i0), .val (.int (1 : Int32)), .val (.int ((B i0) &&& (255 : Int32))), .val (.int (4 : Int32)), .val (.int (128 : Int32)), .val (.int (143 : Int32)), .val (.int (3 : Int32)), .val (.int ((B (i0 + (2 : Int32))) &&& (255 : Int32)))]) rfl k) ?_
                                show own_Go p e below G (s₁.setTop (mkF m 294 #[.val (.ref ba), .val (.int (1 : Int32)), .val (.int en), .val (.int i0), .val (.int (1 : Int32)), .val (.int ((B i0) &&& (255 : Int32))), .val (.int (4 : Int32)), .val (.int (128 : Int32)), .val (.int (143 : Int32)), .val (.int (3 : Int32)), .val (.int ((B (i0 + (2 : Int32))) &&& (255 : Int32)))] []))
                                refine own_st (fun t k => XS.goto X0.here hx rfl (pc0 := 294) (pc' := 216) rfl (hb hby d1_294) (by decide) (by decide) k) ?_
                                show own_Go p e below G (s₁.setTop (mkF m 216 #[.val (.ref ba), .val (.int (1 : Int32)), .val (.int en), .val (.int i0), .val (.int (1 : Int32)), .val (.int ((B i0) &&& (255 : Int32))), .val (.int (4 : Int32)), .val (.int (128 : Int32)), .val (.int (143 : Int32)), .val (.int (3 : Int32)), .val (.int ((B (i0 + (2 : Int32))) &&& (255 : Int32)))] []))
                                refine own_st (fun t k => XS.iload X0.here hx rfl (hb hby d1_216) rfl  k) ?_
                                show own_Go p e below G (s₁.setTop (mkF m 218 #[.val (.ref ba), .val (.int (1 : Int32)), .val (.int en), .val (.int i0), .val (.int (1 : Int32)), .val (.int ((B i0) &&& (255 : Int32))), .val (.int (4 : Int32)), .val (.int (128 : Int32)), .val (.int (143 : Int32)), .val (.int (3 : Int32)), .val (.int ((B (i0 + (2 : Int32))) &&& (255 : Int32)))] [(.int (1 : Int32))]))
                                refine own_st (fun t k => XS.ifNo X0.here hx rfl (hb hby d1_218) rfl ((if0 _ _).trans (feq (by decide)).1) k) ?_
                                show own_Go p e below G (s₁.setTop (mkF m 221 #[.val (.ref ba), .val (.int (1 : Int32)), .val (.int en), .val (.int i0), .val (.int (1 : Int32)), .val (.int ((B i0) &&& (255 : Int32))), .val (.int (4 : Int32)), .val (.int (128 : Int32)), .val (.int (143 : Int32)), .val (.int (3 : Int32)), .val (.int ((B (i0 + (2 : Int32))) &&& (255 : Int32)))] []))
                                refine own_st (fun t k => XS.iload X0.here hx rfl (hb hby d1_221) rfl  k) ?_
                                show own_Go p e below G (s₁.setTop (mkF m 223 #[.val (.ref ba), .val (.int (1 : Int32)), .val (.int en), .val (.int i0), .val (.int (1 : Int32)), .val (.int ((B i0) &&& (255 : Int32))), .val (.int (4 : Int32)), .val (.int (128 : Int32)), .val (.int (143 : Int32)), .val (.int (3 : Int32)), .val (.int ((B (i0 + (2 : Int32))) &&& (255 : Int32)))] [(.int (3 : Int32))]))
                                refine own_st (fun t k => XS.iload X0.here hx rfl (hb hby d1_223) rfl  k) ?_
                                show own_Go p e below G (s₁.setTop (mkF m 225 #[.val (.ref ba), .val (.int (1 : Int32)), .val (.int en), .val (.int i0), .val (.int (1 : Int32)), .val (.int ((B i0) &&& (255 : Int32))), .val (.int (4 : Int32)), .val (.int (128 : Int32)), .val (.int (143 : Int32)), .val (.int (3 : Int32)), .val (.int ((B (i0 + (2 : Int32))) &&& (255 : Int32)))] [(.int (4 : Int32)), (.int (3 : Int32))]))
                                refine own_st (fun t k => XS.icmpNo X0.here hx rfl (hb hby d1_225) rfl (tlt (by decide)).2.1 k) ?_
                                show own_Go p e below G (s₁.setTop (mkF m 228 #[.val (.ref ba), .val (.int (1 : Int32)), .val (.int en), .val (.int i0), .val (.int (1 : Int32)), .val (.int ((B i0) &&& (255 : Int32))), .val (.int (4 : Int32)), .val (.int (128 : Int32)), .val (.int (143 : Int32)), .val (.int (3 : Int32)), .val (.int ((B (i0 + (2 : Int32))) &&& (255 : Int32)))] []))
                                refine own_st (fun t k => XS.aloadN X0.here hx rfl (hb hby d1_228) rfl rfl  k) ?_
                                show own_Go p e below G (s₁.setTop (mkF m 229 #[.val (.ref ba), .val (.int (1 : Int32)), .val (.int en), .val (.int i0), .val (.int (1 : Int32)), .val (.int ((B i0) &&& (255 : Int32))), .val (.int (4 : Int32)), .val (.int (128 : Int32)), .val (.int (143 : Int32)), .val (.int (3 : Int32)), .val (.int ((B (i0 + (2 : Int32))) &&& (255 : Int32)))] [(.ref ba)]))
                                refine own_st (fun t k => XS.iloadN X0.here hx rfl (hb hby d1_229) rfl  k) ?_
                                show own_Go p e below G (s₁.setTop (mkF m 230 #[.val (.ref ba), .val (.int (1 : Int32)), .val (.int en), .val (.int i0), .val (.int (1 : Int32)), .val (.int ((B i0) &&& (255 : Int32))), .val (.int (4 : Int32)), .val (.int (128 : Int32)), .val (.int (143 : Int32)), .val (.int (3 : Int32)), .val (.int ((B (i0 + (2 : Int32))) &&& (255 : Int32)))] [(.int i0), (.ref ba)]))
                                refine own_st (fun t k => XS.iload X0.here hx rfl (hb hby d1_230) rfl  k) ?_
                                show own_Go p e below G (s₁.setTop (mkF m 232 #[.val (.ref ba), .val (.int (1 : Int32)), .val (.int en), .val (.int i0), .val (.int (1 : Int32)), .val (.int ((B i0) &&& (255 : Int32))), .val (.int (4 : Int32)), .val (.int (128 : Int32)), .val (.int (143 : Int32)), .val (.int (3 : Int32)), .val (.int ((B (i0 + (2 : Int32))) &&& (255 : Int32)))] [(.int (3 : Int32)), (.int i0), (.ref ba)]))
                                refine own_st (fun t k => XS.iadd X0.here hx rfl (hb hby d1_232) rfl k) ?_
                                show own_Go p e below G (s₁.setTop (mkF m 233 #[.val (.ref ba), .val (.int (1 : Int32)), .val (.int en), .val (.int i0), .val (.int (1 : Int32)), .val (.int ((B i0) &&& (255 : Int32))), .val (.int (4 : Int32)), .val (.int (128 : Int32)), .val (.int (143 : Int32)), .val (.int (3 : Int32)), .val (.int ((B (i0 + (2 : Int32))) &&& (255 : Int32)))] [(.int (i0 + (3 : Int32))), (.ref ba)]))
                                have hb27 := own_bd (n := 6) (own_in hi0 c12_1 he.2 c203_20 (j := (3 : Int32)) (by decide) (by decide) (by decide)) (Int.le_trans he.2 (by decide))
                                have hin27 := inb_of S0 hb27
                                refine own_st (fun t k => X0.baloadBytes hx (j := (i0 + (3 : Int32))) (v := (.int (B (i0 + (3 : Int32))))) (by rw [e0]; exact Ar0.1) (State.isArrayOf_alike hZ.alike Ar0.2.1) Ar0.2.2 hin27 (hB _ hb27.1 hb27.2) (g := (mkF m 233 #[.val (.ref ba), .val (.int (1 : Int32)), .val (.int en), .val (.int i0), .val (.int (1 : Int32)), .val (.int ((B i0) &&& (255 : Int32))), .val (.int (4 : Int32)), .val (.int (128 : Int32)), .val (.int (143 : Int32)), .val (.int (3 : Int32)), .val (.int ((B (i0 + (2 : Int32))) &&& (255 : Int32)))] [(.int (i0 + (3 : Int32))), (.ref ba)])) rfl rfl (hb hby d1_233) t k) ?_
                                show own_Go p e below G (s₁.setTop (mkF m 234 #[.val (.ref ba), .val (.int (1 : Int32)), .val (.int en), .val (.int i0), .val (.int (1 : Int32)), .val (.int ((B i0) &&& (255 : Int32))), .val (.int (4 : Int32)), .val (.int (128 : Int32)), .val (.int (143 : Int32)), .val (.int (3 : Int32)), .val (.int ((B (i0 + (2 : Int32))) &&& (255 : Int32)))] [(.int (B (i0 + (3 : Int32))))]))
                                refine own_st (fun t k => XS.sipush X0.here hx rfl (hb hby d1_234) k) ?_
                                show own_Go p e below G (s₁.setTop (mkF m 237 #[.val (.ref ba), .val (.int (1 : Int32)), .val (.int en), .val (.int i0), .val (.int (1 : Int32)), .val (.int ((B i0) &&& (255 : Int32))), .val (.int (4 : Int32)), .val (.int (128 : Int32)), .val (.int (143 : Int32)), .val (.int (3 : Int32)), .val (.int ((B (i0 + (2 : Int32))) &&& (255 : Int32)))] [(.int (255 : Int32)), (.int (B (i0 + (3 : Int32))))]))
                                refine own_st (fun t k => XS.iand X0.here hx rfl (hb hby d1_237) rfl k) ?_
                                show own_Go p e below G (s₁.setTop (mkF m 238 #[.val (.ref ba), .val (.int (1 : Int32)), .val (.int en), .val (.int i0), .val (.int (1 : Int32)), .val (.int ((B i0) &&& (255 : Int32))), .val (.int (4 : Int32)), .val (.int (128 : Int32)), .val (.int (143 : Int32)), .val (.int (3 : Int32)), .val (.int ((B (i0 + (2 : Int32))) &&& (255 : Int32)))] [(.int ((B (i0 + (3 : Int32))) &&& (255 : Int32)))]))
                                refine own_st (fun t k => XS.istore X0.here hx rfl (hb hby d1_238) rfl (l' := #[.val (.ref ba), .val (.int (1 : Int32)), .val (.int en), .val (.int i0), .val (.int (1 : Int32)), .val (.int ((B i0) &&& (255 : Int32))), .val (.int (4 : Int32)), .val (.int (128 : Int32)), .val (.int (143 : Int32)), .val (.int (3 : Int32)), .val (.int ((B (i0 + (3 : Int32))) &&& (255 : Int32)))]) rfl k) ?_
                                show own_Go p e below G (s₁.setTop (mkF m 240 #[.val (.ref ba), .val (.int (1 : Int32)), .val (.int en), .val (.int i0), .val (.int (1 : Int32)), .val (.int ((B i0) &&& (255 : Int32))), .val (.int (4 : Int32)), .val (.int (128 : Int32)), .val (.int (143 : Int32)), .val (.int (3 : Int32)), .val (.int ((B (i0 + (3 : Int32))) &&& (255 : Int32)))] []))
                                refine own_st (fun t k => XS.iload X0.here hx rfl (hb hby d1_240) rfl  k) ?_
                                show own_Go p e below G (s₁.setTop (mkF m 242 #[.val (.ref ba), .val (.int (1 : Int32)), .val (.int en), .val (.int i0), .val (.int (1 : Int32)), .val (.int ((B i0) &&& (255 : Int32))), .val (.int (4 : Int32)), .val (.int (128 : Int32)), .val (.int (143 : Int32)), .val (.int (3 : Int32)), .val (.int ((B (i0 + (3 : Int32))) &&& (255 : Int32)))] [(.int (3 : Int32))]))
                                refine own_st (fun t k => XS.iconst X0.here hx rfl (hb hby d1_242) k) ?_
                                show own_Go p e below G (s₁.setTop (mkF m 243 #[.val (.ref ba), .val (.int (1 : Int32)), .val (.int en), .val (.int i0), .val (.int (1 : Int32)), .val (.int ((B i0) &&& (255 : Int32))), .val (.int (4 : Int32)), .val (.int (128 : Int32)), .val (.int (143 : Int32)), .val (.int (3 : Int32)), .val (.int ((B (i0 + (3 : Int32))) &&& (255 : Int32)))] [(.int (1 : Int32)), (.int (3 : Int32))]))
                                refine own_st (fun t k => XS.icmpYes X0.here hx rfl (pc0 := 243) (pc' := 268) rfl (hb hby d1_243) rfl (feq (by decide)).2 (by decide) (by decide) k) ?_
                                show own_Go p e below G (s₁.setTop (mkF m 268 #[.val (.ref ba), .val (.int (1 : Int32)), .val (.int en), .val (.int i0), .val (.int (1 : Int32)), .val (.int ((B i0) &&& (255 : Int32))), .val (.int (4 : Int32)), .val (.int (128 : Int32)), .val (.int (143 : Int32)), .val (.int (3 : Int32)), .val (.int ((B (i0 + (3 : Int32))) &&& (255 : Int32)))] []))
                                refine own_st (fun t k => XS.iload X0.here hx rfl (hb hby d1_268) rfl  k) ?_
                                show own_Go p e below G (s₁.setTop (mkF m 270 #[.val (.ref ba), .val (.int (1 : Int32)), .val (.int en), .val (.int i0), .val (.int (1 : Int32)), .val (.int ((B i0) &&& (255 : Int32))), .val (.int (4 : Int32)), .val (.int (128 : Int32)), .val (.int (143 : Int32)), .val (.int (3 : Int32)), .val (.int ((B (i0 + (3 : Int32))) &&& (255 : Int32)))] [(.int ((B (i0 + (3 : Int32))) &&& (255 : Int32)))]))
                                refine own_st (fun t k => XS.sipush X0.here hx rfl (hb hby d1_270) k) ?_
                                show own_Go p e below G (s₁.setTop (mkF m 273 #[.val (.ref ba), .val (.int (1 : Int32)), .val (.int en), .val (.int i0), .val (.int (1 : Int32)), .val (.int ((B i0) &&& (255 : Int32))), .val (.int (4 : Int32)), .val (.int (128 : Int32)), .val (.int (143 : Int32)), .val (.int (3 : Int32)), .val (.int ((B (i0 + (3 : Int32))) &&& (255 : Int32)))] [(.int (128 : Int32)), (.int ((B (i0 + (3 : Int32))) &&& (255 : Int32)))]))
                                by_cases c273_28 : ((B (i0 + (3 : Int32))) &&& (255 : Int32)) < (128 : Int32)
                                · skip
                                  refine own_st (fun t k => XS.icmpYes X0.here hx rfl (pc0 := 273) (pc' := 288) rfl (hb hby d1_273) rfl (tlt c273_28).1 (by decide) (by decide) k) ?_
                                  show own_Go p e below G (s₁.setTop (mkF m 288 #[.val (.ref ba), .val (.int (1 : Int32)), .val (.int en), .val (.int i0), .val (.int (1 : Int32)), .val (.int ((B i0) &&& (255 : Int32))), .val (.int (4 : Int32)), .val (.int (128 : Int32)), .val (.int (143 : Int32)), .val (.int (3 : Int32)), .val (.int ((B (i0 + (3 : Int32))) &&& (255 : Int32)))] []))
                                  refine own_st (fun t k => XS.iconst X0.here hx rfl (hb hby d1_288) k) ?_
                                  show own_Go p e below G (s₁.setTop (mkF m 289 #[.val (.ref ba), .val (.int (1 : Int32)), .val (.int en), .val (.int i0), .val (.int (1 : Int32)), .val (.int ((B i0) &&& (255 : Int32))), .val (.int (4 : Int32)), .val (.int (128 : Int32)), .val (.int (143 : Int32)), .val (.int (3 : Int32)), .val (.int ((B (i0 + (3 : Int32))) &&& (255 : Int32)))] [(.int (0 : Int32))]))
                                  exact bad289 _ _ _ _ _ _ (show own_vl (B i0 &&& 255) (B (i0 + 1) &&& 255) (B (i0 + 2) &&& 255) (B (i0 + 3) &&& 255) (en - i0) = 0 by unfold own_vl; rw [if_neg c39_3, if_neg c53_4, if_pos c61_5, if_pos c83_6, if_neg c143_7, if_neg c154_8, if_pos c173_19, if_neg c203_20, if_neg c250_22, if_neg c257_23, if_neg c273_25, if_neg c281_26, if_pos c273_28])
                                · skip
                                  refine own_st (fun t k => XS.icmpNo X0.here hx rfl (hb hby d1_273) rfl (flt c273_28).1 k) ?_
                                  show own_Go p e below G (s₁.setTop (mkF m 276 #[.val (.ref ba), .val (.int (1 : Int32)), .val (.int en), .val (.int i0), .val (.int (1 : Int32)), .val (.int ((B i0) &&& (255 : Int32))), .val (.int (4 : Int32)), .val (.int (128 : Int32)), .val (.int (143 : Int32)), .val (.int (3 : Int32)), .val (.int ((B (i0 + (3 : Int32))) &&& (255 : Int32)))] []))
                                  refine own_st (fun t k => XS.iload X0.here hx rfl (hb hby d1_276) rfl  k) ?_
                                  show own_Go p e below G (s₁.setTop (mkF m 278 #[.val (.ref ba), .val (.int (1 : Int32)), .val (.int en), .val (.int i0), .val (.int (1 : Int32)), .val (.int ((B i0) &&& (255 : Int32))), .val (.int (4 : Int32)), .val (.int (128 : Int32)), .val (.int (143 : Int32)), .val (.int (3 : Int32)), .val (.int ((B (i0 + (3 : Int32))) &&& (255 : Int32)))] [(.int ((B (i0 + (3 : Int32))) &&& (255 : Int32)))]))
                                  refine own_st (fun t k => XS.sipush X0.here hx rfl (hb hby d1_278) k) ?_
                                  show own_Go p e below G (s₁.setTop (mkF m 281 #[.val (.ref ba), .val (.int (1 : Int32)), .val (.int en), .val (.int i0), .val (.int (1 : Int32)), .val (.int ((B i0) &&& (255 : Int32))), .val (.int (4 : Int32)), .val (.int (128 : Int32)), .val (.int (143 : Int32)), .val (.int (3 : Int32)), .val (.int ((B (i0 + (3 : Int32))) &&& (255 : Int32)))] [(.int (191 : Int32)), (.int ((B (i0 + (3 : Int32))) &&& (255 : Int32)))]))
                                  by_cases c281_29 : (191 : Int32) < ((B (i0 + (3 : Int32))) &&& (255 : Int32))
                                  · skip
                                    refine own_st (fun t k => XS.icmpYes X0.here hx rfl (pc0 := 281) (pc' := 288) rfl (hb hby d1_281) rfl (tlt c281_29).2.2.1 (by decide) (by decide) k) ?_
                                    show own_Go p e below G (s₁.setTop (mkF m 288 #[.val (.ref ba), .val (.int (1 : Int32)), .val (.int en), .val (.int i0), .val (.int (1 : Int32)), .val (.int ((B i0) &&& (255 : Int32))), .val (.int (4 : Int32)), .val (.int (128 : Int32)), .val (.int (143 : Int32)), .val (.int (3 : Int32)), .val (.int ((B (i0 + (3 : Int32))) &&& (255 : Int32)))] []))
                                    refine own_st (fun t k => XS.iconst X0.here hx rfl (hb hby d1_288) k) ?_
                                    show own_Go p e below G (s₁.setTop (mkF m 289 #[.val (.ref ba), .val (.int (1 : Int32)), .val (.int en), .val (.int i0), .val (.int (1 : Int32)), .val (.int ((B i0) &&& (255 : Int32))), .val (.int (4 : Int32)), .val (.int (128 : Int32)), .val (.int (143 : Int32)), .val (.int (3 : Int32)), .val (.int ((B (i0 + (3 : Int32))) &&& (255 : Int32)))] [(.int (0 : Int32))]))
                                    exact bad289 _ _ _ _ _ _ (show own_vl (B i0 &&& 255) (B (i0 + 1) &&& 255) (B (i0 + 2) &&& 255) (B (i0 + 3) &&& 255) (en - i0) = 0 by unfold own_vl; rw [if_neg c39_3, if_neg c53_4, if_pos c61_5, if_pos c83_6, if_neg c143_7, if_neg c154_8, if_pos c173_19, if_neg c203_20, if_neg c250_22, if_neg c257_23, if_neg c273_25, if_neg c281_26, if_neg c273_28, if_pos c281_29])
                                  · skip
                                    refine own_st (fun t k => XS.icmpNo X0.here hx rfl (hb hby d1_281) rfl (flt c281_29).2.2.1 k) ?_
                                    show own_Go p e below G (s₁.setTop (mkF m 284 #[.val (.ref ba), .val (.int (1 : Int32)), .val (.int en), .val (.int i0), .val (.int (1 : Int32)), .val (.int ((B i0) &&& (255 : Int32))), .val (.int (4 : Int32)), .val (.int (128 : Int32)), .val (.int (143 : Int32)), .val (.int (3 : Int32)), .val (.int ((B (i0 + (3 : Int32))) &&& (255 : Int32)))] []))
                                    refine own_st (fun t k => XS.iconst X0.here hx rfl (hb hby d1_284) k) ?_
                                    show own_Go p e below G (s₁.setTop (mkF m 285 #[.val (.ref ba), .val (.int (1 : Int32)), .val (.int en), .val (.int i0), .val (.int (1 : Int32)), .val (.int ((B i0) &&& (255 : Int32))), .val (.int (4 : Int32)), .val (.int (128 : Int32)), .val (.int (143 : Int32)), .val (.int (3 : Int32)), .val (.int ((B (i0 + (3 : Int32))) &&& (255 : Int32)))] [(.int (1 : Int32))]))
                                    refine own_st (fun t k => XS.goto X0.here hx rfl (pc0 := 285) (pc' := 289) rfl (hb hby d1_285) (by decide) (by decide) k) ?_
                                    show own_Go p e below G (s₁.setTop (mkF m 289 #[.val (.ref ba), .val (.int (1 : Int32)), .val (.int en), .val (.int i0), .val (.int (1 : Int32)), .val (.int ((B i0) &&& (255 : Int32))), .val (.int (4 : Int32)), .val (.int (128 : Int32)), .val (.int (143 : Int32)), .val (.int (3 : Int32)), .val (.int ((B (i0 + (3 : Int32))) &&& (255 : Int32)))] [(.int (1 : Int32))]))
                                    refine own_st (fun t k => XS.istore X0.here hx rfl (hb hby d1_289) rfl (l' := #[.val (.ref ba), .val (.int (1 : Int32)), .val (.int en), .val (.int i0), .val (.int (1 : Int32)), .val (.int ((B i0) &&& (255 : Int32))), .val (.int (4 : Int32)), .val (.int (128 : Int32)), .val (.int (143 : Int32)), .val (.int (3 : Int32)), .val (.int ((B (i0 + (3 : Int32))) &&& (255 : Int32)))]) rfl k) ?_
                                    show own_Go p e below G (s₁.setTop (mkF m 291 #[.val (.ref ba), .val (.int (1 : Int32)), .val (.int en), .val (.int i0), .val (.int (1 : Int32)), .val (.int ((B i0) &&& (255 : Int32))), .val (.int (4 : Int32)), .val (.int (128 : Int32)), .val (.int (143 : Int32)), .val (.int (3 : Int32)), .val (.int ((B (i0 + (3 : Int32))) &&& (255 : Int32)))] []))
                                    refine own_st (fun t k => XS.iinc X0.here hx rfl (hb hby d1_291) rfl (l' := #[.val (.ref ba), .val (.int (1 : Int32)), .val (.int en), .val (.int i0), .val (.int (1 : Int32)), .val (.int ((B i0) &&& (255 : Int32))), .val (.int (4 : Int32)), .val (.int (128 : Int32)), .val (.int (143 : Int32)), .val (.int (4 : Int32)), .val (.int ((B (i0 + (3 : Int32))) &&& (255 : Int32)))]) rfl k) ?_
                                    show own_Go p e below G (s₁.setTop (mkF m 294 #[.val (.ref ba), .val (.int (1 : Int32)), .val (.int en), .val (.int i0), .val (.int (1 : Int32)), .val (.int ((B i0) &&& (255 : Int32))), .val (.int (4 : Int32)), .val (.int (128 : Int32)), .val (.int (143 : Int32)), .val (.int (4 : Int32)), .val (.int ((B (i0 + (3 : Int32))) &&& (255 : Int32)))] []))
                                    refine own_st (fun t k => XS.goto X0.here hx rfl (pc0 := 294) (pc' := 216) rfl (hb hby d1_294) (by decide) (by decide) k) ?_
                                    show own_Go p e below G (s₁.setTop (mkF m 216 #[.val (.ref ba), .val (.int (1 : Int32)), .val (.int en), .val (.int i0), .val (.int (1 : Int32)), .val (.int ((B i0) &&& (255 : Int32))), .val (.int (4 : Int32)), .val (.int (128 : Int32)), .val (.int (143 : Int32)), .val (.int (4 : Int32)), .val (.int ((B (i0 + (3 : Int32))) &&& (255 : Int32)))] []))
                                    refine own_st (fun t k => XS.iload X0.here hx rfl (hb hby d1_216) rfl  k) ?_
                                    show own_Go p e below G (s₁.setTop (mkF m 218 #[.val (.ref ba), .val (.int (1 : Int32)), .val (.int en), .val (.int i0), .val (.int (1 : Int32)), .val (.int ((B i0) &&& (255 : Int32))), .val (.int (4 : Int32)), .val (.int (128 : Int32)), .val (.int (143 : Int32)), .val (.int (4 : Int32)), .val (.int ((B (i0 + (3 : Int32))) &&& (255 : Int32)))] [(.int (1 : Int32))]))
                                    refine own_st (fun t k => XS.ifNo X0.here hx rfl (hb hby d1_218) rfl ((if0 _ _).trans (feq (by decide)).1) k) ?_
                                    show own_Go p e below G (s₁.setTop (mkF m 221 #[.val (.ref ba), .val (.int (1 : Int32)), .val (.int en), .val (.int i0), .val (.int (1 : Int32)), .val (.int ((B i0) &&& (255 : Int32))), .val (.int (4 : Int32)), .val (.int (128 : Int32)), .val (.int (143 : Int32)), .val (.int (4 : Int32)), .val (.int ((B (i0 + (3 : Int32))) &&& (255 : Int32)))] []))
                                    refine own_st (fun t k => XS.iload X0.here hx rfl (hb hby d1_221) rfl  k) ?_
                                    show own_Go p e below G (s₁.setTop (mkF m 223 #[.val (.ref ba), .val (.int (1 : Int32)), .val (.int en), .val (.int i0), .val (.int (1 : Int32)), .val (.int ((B i0) &&& (255 : Int32))), .val (.int (4 : Int32)), .val (.int (128 : Int32)), .val (.int (143 : Int32)), .val (.int (4 : Int32)), .val (.int ((B (i0 + (3 : Int32))) &&& (255 : Int32)))] [(.int (4 : Int32))]))
                                    refine own_st (fun t k => XS.iload X0.here hx rfl (hb hby d1_223) rfl  k) ?_
                                    show own_Go p e below G (s₁.setTop (mkF m 225 #[.val (.ref ba), .val (.int (1 : Int32)), .val (.int en), .val (.int i0), .val (.int (1 : Int32)), .val (.int ((B i0) &&& (255 : Int32))), .val (.int (4 : Int32)), .val (.int (128 : Int32)), .val (.int (143 : Int32)), .val (.int (4 : Int32)), .val (.int ((B (i0 + (3 : Int32))) &&& (255 : Int32)))] [(.int (4 : Int32)), (.int (4 : Int32))]))
                                    refine own_st (fun t k => XS.icmpYes X0.here hx rfl (pc0 := 225) (pc' := 297) rfl (hb hby d1_225) rfl (flt (by decide)).2.1 (by decide) (by decide) k) ?_
                                    show own_Go p e below G (s₁.setTop (mkF m 297 #[.val (.ref ba), .val (.int (1 : Int32)), .val (.int en), .val (.int i0), .val (.int (1 : Int32)), .val (.int ((B i0) &&& (255 : Int32))), .val (.int (4 : Int32)), .val (.int (128 : Int32)), .val (.int (143 : Int32)), .val (.int (4 : Int32)), .val (.int ((B (i0 + (3 : Int32))) &&& (255 : Int32)))] []))
                                    refine own_st (fun t k => XS.iloadN X0.here hx rfl (hb hby d1_297) rfl  k) ?_
                                    show own_Go p e below G (s₁.setTop (mkF m 298 #[.val (.ref ba), .val (.int (1 : Int32)), .val (.int en), .val (.int i0), .val (.int (1 : Int32)), .val (.int ((B i0) &&& (255 : Int32))), .val (.int (4 : Int32)), .val (.int (128 : Int32)), .val (.int (143 : Int32)), .val (.int (4 : Int32)), .val (.int ((B (i0 + (3 : Int32))) &&& (255 : Int32)))] [(.int i0)]))
                                    refine own_st (fun t k => XS.iload X0.here hx rfl (hb hby d1_298) rfl  k) ?_
                                    show own_Go p e below G (s₁.setTop (mkF m 300 #[.val (.ref ba), .val (.int (1 : Int32)), .val (.int en), .val (.int i0), .val (.int (1 : Int32)), .val (.int ((B i0) &&& (255 : Int32))), .val (.int (4 : Int32)), .val (.int (128 : Int32)), .val (.int (143 : Int32)), .val (.int (4 : Int32)), .val (.int ((B (i0 + (3 : Int32))) &&& (255 : Int32)))] [(.int (4 : Int32)), (.int i0)]))
                                    refine own_st (fun t k => XS.iadd X0.here hx rfl (hb hby d1_300) rfl k) ?_
                                    show own_Go p e below G (s₁.setTop (mkF m 301 #[.val (.ref ba), .val (.int (1 : Int32)), .val (.int en), .val (.int i0), .val (.int (1 : Int32)), .val (.int ((B i0) &&& (255 : Int32))), .val (.int (4 : Int32)), .val (.int (128 : Int32)), .val (.int (143 : Int32)), .val (.int (4 : Int32)), .val (.int ((B (i0 + (3 : Int32))) &&& (255 : Int32)))] [(.int (i0 + (4 : Int32)))]))
                                    refine own_st (fun t k => XS.istoreN X0.here hx rfl (hb hby d1_301) rfl (l' := #[.val (.ref ba), .val (.int (1 : Int32)), .val (.int en), .val (.int (i0 + (4 : Int32))), .val (.int (1 : Int32)), .val (.int ((B i0) &&& (255 : Int32))), .val (.int (4 : Int32)), .val (.int (128 : Int32)), .val (.int (143 : Int32)), .val (.int (4 : Int32)), .val (.int ((B (i0 + (3 : Int32))) &&& (255 : Int32)))]) rfl k) ?_
                                    show own_Go p e below G (s₁.setTop (mkF m 302 #[.val (.ref ba), .val (.int (1 : Int32)), .val (.int en), .val (.int (i0 + (4 : Int32))), .val (.int (1 : Int32)), .val (.int ((B i0) &&& (255 : Int32))), .val (.int (4 : Int32)), .val (.int (128 : Int32)), .val (.int (143 : Int32)), .val (.int (4 : Int32)), .val (.int ((B (i0 + (3 : Int32))) &&& (255 : Int32)))] []))
                                    refine own_st (fun t k => XS.goto X0.here hx rfl (pc0 := 302) (pc' := 5) rfl (hb hby d1_302) (by decide) (by decide) k) ?_
                                    show own_Go p e below G (s₁.setTop (mkF m 5 #[.val (.ref ba), .val (.int (1 : Int32)), .val (.int en), .val (.int (i0 + (4 : Int32))), .val (.int (1 : Int32)), .val (.int ((B i0) &&& (255 : Int32))), .val (.int (4 : Int32)), .val (.int (128 : Int32)), .val (.int (143 : Int32)), .val (.int (4 : Int32)), .val (.int ((B (i0 + (3 : Int32))) &&& (255 : Int32)))] []))
                                    have hn := own_in (len := (4 : Int32)) (j := ((4 : Int32) - 1)) hi0 c12_1 he.2 c203_20 (by decide) (by decide) (by decide)
                                    have ha := own_add (i := i0) (j := (4 : Int32)) hi0 (Int.le_of_lt (Int.lt_of_lt_of_le (Int32.lt_iff_toInt_lt.mp c12_1) he.2)) (by decide) (by decide)
                                    have hc := own_add (i := i0) (j := ((4 : Int32) - 1)) hi0 (Int.le_of_lt (Int.lt_of_lt_of_le (Int32.lt_iff_toInt_lt.mp c12_1) he.2)) (by decide) (by decide)
                                    rw [hc] at hn
                                    have z1 : (((4 : Int32) - 1) : Int32).toInt = 3 := by decide
                                    have z2 : ((4 : Int32)).toInt = 4 := by decide
                                    exact ih (i0 + (4 : Int32)) _ _ _ _ _ _ (One.val rfl) (One.val rfl) (One.val rfl) (One.val rfl) (One.val rfl) (One.val rfl) (by omega) (by omega) (by omega) (heq.trans (own_vrN c12_1 (show own_vl (B i0 &&& 255) (B (i0 + 1) &&& 255) (B (i0 + 2) &&& 255) (B (i0 + 3) &&& 255) (en - i0) = (4 : Int32) by unfold own_vl; rw [if_neg c39_3, if_neg c53_4, if_pos c61_5, if_pos c83_6, if_neg c143_7, if_neg c154_8, if_pos c173_19, if_neg c203_20, if_neg c250_22, if_neg c257_23, if_neg c273_25, if_neg c281_26, if_neg c273_28, if_neg c281_29]) (by decide)))
                    · skip
                      refine own_st (fun t k => XS.icmpYes X0.here hx rfl (pc0 := 173) (pc' := 182) rfl (hb hby d1_173) rfl (feq c173_19).2 (by decide) (by decide) k) ?_
                      show own_Go p e below G (s₁.setTop (mkF m 182 #[.val (.ref ba), .val (.int (1 : Int32)), .val (.int en), .val (.int i0), .val (.int (1 : Int32)), .val (.int ((B i0) &&& (255 : Int32))), .val (.int (4 : Int32)), .val (.int (128 : Int32)), .val (.int (191 : Int32)), s9, s10] []))
                      refine own_st (fun t k => XS.sipush X0.here hx rfl (hb hby d1_182) k) ?_
                      show own_Go p e below G (s₁.setTop (mkF m 185 #[.val (.ref ba), .val (.int (1 : Int32)), .val (.int en), .val (.int i0), .val (.int (1 : Int32)), .val (.int ((B i0) &&& (255 : Int32))), .val (.int (4 : Int32)), .val (.int (128 : Int32)), .val (.int (191 : Int32)), s9, s10] [(.int (191 : Int32))]))
                      refine own_st (fun t k => XS.istore X0.here hx rfl (hb hby d1_185) rfl (l' := #[.val (.ref ba), .val (.int (1 : Int32)), .val (.int en), .val (.int i0), .val (.int (1 : Int32)), .val (.int ((B i0) &&& (255 : Int32))), .val (.int (4 : Int32)), .val (.int (128 : Int32)), .val (.int (191 : Int32)), s9, s10]) rfl k) ?_
                      show own_Go p e below G (s₁.setTop (mkF m 187 #[.val (.ref ba), .val (.int (1 : Int32)), .val (.int en), .val (.int i0), .val (.int (1 : Int32)), .val (.int ((B i0) &&& (255 : Int32))), .val (.int (4 : Int32)), .val (.int (128 : Int32)), .val (.int (191 : Int32)), s9, s10] []))
                      refine own_st (fun t k => XS.goto X0.here hx rfl (pc0 := 187) (pc' := 193) rfl (hb hby d1_187) (by decide) (by decide) k) ?_
                      show own_Go p e below G (s₁.setTop (mkF m 193 #[.val (.ref ba), .val (.int (1 : Int32)), .val (.int en), .val (.int i0), .val (.int (1 : Int32)), .val (.int ((B i0) &&& (255 : Int32))), .val (.int (4 : Int32)), .val (.int (128 : Int32)), .val (.int (191 : Int32)), s9, s10] []))
                      refine own_st (fun t k => XS.iload X0.here hx rfl (hb hby d1_193) rfl  k) ?_
                      show own_Go p e below G (s₁.setTop (mkF m 195 #[.val (.ref ba), .val (.int (1 : Int32)), .val (.int en), .val (.int i0), .val (.int (1 : Int32)), .val (.int ((B i0) &&& (255 : Int32))), .val (.int (4 : Int32)), .val (.int (128 : Int32)), .val (.int (191 : Int32)), s9, s10] [(.int (4 : Int32))]))
                      refine own_st (fun t k => XS.ifNo X0.here hx rfl (hb hby d1_195) rfl ((if0 _ _).trans (tlt (by decide)).2.2.2) k) ?_
                      show own_Go p e below G (s₁.setTop (mkF m 198 #[.val (.ref ba), .val (.int (1 : Int32)), .val (.int en), .val (.int i0), .val (.int (1 : Int32)), .val (.int ((B i0) &&& (255 : Int32))), .val (.int (4 : Int32)), .val (.int (128 : Int32)), .val (.int (191 : Int32)), s9, s10] []))
                      refine own_st (fun t k => XS.iloadN X0.here hx rfl (hb hby d1_198) rfl  k) ?_
                      show own_Go p e below G (s₁.setTop (mkF m 199 #[.val (.ref ba), .val (.int (1 : Int32)), .val (.int en), .val (.int i0), .val (.int (1 : Int32)), .val (.int ((B i0) &&& (255 : Int32))), .val (.int (4 : Int32)), .val (.int (128 : Int32)), .val (.int (191 : Int32)), s9, s10] [(.int en)]))
                      refine own_st (fun t k => XS.iloadN X0.here hx rfl (hb hby d1_199) rfl  k) ?_
                      show own_Go p e below G (s₁.setTop (mkF m 200 #[.val (.ref ba), .val (.int (1 : Int32)), .val (.int en), .val (.int i0), .val (.int (1 : Int32)), .val (.int ((B i0) &&& (255 : Int32))), .val (.int (4 : Int32)), .val (.int (128 : Int32)), .val (.int (191 : Int32)), s9, s10] [(.int i0), (.int en)]))
                      refine own_st (fun t k => XS.isub X0.here hx rfl (hb hby d1_200) rfl k) ?_
                      show own_Go p e below G (s₁.setTop (mkF m 201 #[.val (.ref ba), .val (.int (1 : Int32)), .val (.int en), .val (.int i0), .val (.int (1 : Int32)), .val (.int ((B i0) &&& (255 : Int32))), .val (.int (4 : Int32)), .val (.int (128 : Int32)), .val (.int (191 : Int32)), s9, s10] [(.int (en - i0))]))
                      refine own_st (fun t k => XS.iload X0.here hx rfl (hb hby d1_201) rfl  k) ?_
                      show own_Go p e below G (s₁.setTop (mkF m 203 #[.val (.ref ba), .val (.int (1 : Int32)), .val (.int en), .val (.int i0), .val (.int (1 : Int32)), .val (.int ((B i0) &&& (255 : Int32))), .val (.int (4 : Int32)), .val (.int (128 : Int32)), .val (.int (191 : Int32)), s9, s10] [(.int (4 : Int32)), (.int (en - i0))]))
                      by_cases c203_30 : (en - i0) < (4 : Int32)
                      · skip
                        refine own_st (fun t k => XS.icmpYes X0.here hx rfl (pc0 := 203) (pc' := 210) rfl (hb hby d1_203) rfl (tlt c203_30).1 (by decide) (by decide) k) ?_
                        show own_Go p e below G (s₁.setTop (mkF m 210 #[.val (.ref ba), .val (.int (1 : Int32)), .val (.int en), .val (.int i0), .val (.int (1 : Int32)), .val (.int ((B i0) &&& (255 : Int32))), .val (.int (4 : Int32)), .val (.int (128 : Int32)), .val (.int (191 : Int32)), s9, s10] []))
                        refine own_st (fun t k => XS.iconst X0.here hx rfl (hb hby d1_210) k) ?_
                        show own_Go p e below G (s₁.setTop (mkF m 211 #[.val (.ref ba), .val (.int (1 : Int32)), .val (.int en), .val (.int i0), .val (.int (1 : Int32)), .val (.int ((B i0) &&& (255 : Int32))), .val (.int (4 : Int32)), .val (.int (128 : Int32)), .val (.int (191 : Int32)), s9, s10] [(.int (0 : Int32))]))
                        exact bad211 _ _ _ _ _ _ hs9 (show own_vl (B i0 &&& 255) (B (i0 + 1) &&& 255) (B (i0 + 2) &&& 255) (B (i0 + 3) &&& 255) (en - i0) = 0 by unfold own_vl; rw [if_neg c39_3, if_neg c53_4, if_pos c61_5, if_pos c83_6, if_neg c143_7, if_neg c154_8, if_neg c173_19, if_pos c203_30])
                      · skip
                        refine own_st (fun t k => XS.icmpNo X0.here hx rfl (hb hby d1_203) rfl (flt c203_30).1 k) ?_
                        show own_Go p e below G (s₁.setTop (mkF m 206 #[.val (.ref ba), .val (.int (1 : Int32)), .val (.int en), .val (.int i0), .val (.int (1 : Int32)), .val (.int ((B i0) &&& (255 : Int32))), .val (.int (4 : Int32)), .val (.int (128 : Int32)), .val (.int (191 : Int32)), s9, s10] []))
                        refine own_st (fun t k => XS.iconst X0.here hx rfl (hb hby d1_206) k) ?_
                        show own_Go p e below G (s₁.setTop (mkF m 207 #[.val (.ref ba), .val (.int (1 : Int32)), .val (.int en), .val (.int i0), .val (.int (1 : Int32)), .val (.int ((B i0) &&& (255 : Int32))), .val (.int (4 : Int32)), .val (.int (128 : Int32)), .val (.int (191 : Int32)), s9, s10] [(.int (1 : Int32))]))
                        refine own_st (fun t k => XS.goto X0.here hx rfl (pc0 := 207) (pc' := 211) rfl (hb hby d1_207) (by decide) (by decide) k) ?_
                        show own_Go p e below G (s₁.setTop (mkF m 211 #[.val (.ref ba), .val (.int (1 : Int32)), .val (.int en), .val (.int i0), .val (.int (1 : Int32)), .val (.int ((B i0) &&& (255 : Int32))), .val (.int (4 : Int32)), .val (.int (128 : Int32)), .val (.int (191 : Int32)), s9, s10] [(.int (1 : Int32))]))
                        refine own_st (fun t k => XS.istore X0.here hx rfl (hb hby d1_211) rfl (l' := #[.val (.ref ba), .val (.int (1 : Int32)), .val (.int en), .val (.int i0), .val (.int (1 : Int32)), .val (.int ((B i0) &&& (255 : Int32))), .val (.int (4 : Int32)), .val (.int (128 : Int32)), .val (.int (191 : Int32)), s9, s10]) rfl k) ?_
                        show own_Go p e below G (s₁.setTop (mkF m 213 #[.val (.ref ba), .val (.int (1 : Int32)), .val (.int en), .val (.int i0), .val (.int (1 : Int32)), .val (.int ((B i0) &&& (255 : Int32))), .val (.int (4 : Int32)), .val (.int (128 : Int32)), .val (.int (191 : Int32)), s9, s10] []))
                        refine own_st (fun t k => XS.iconst X0.here hx rfl (hb hby d1_213) k) ?_
                        show own_Go p e below G (s₁.setTop (mkF m 214 #[.val (.ref ba), .val (.int (1 : Int32)), .val (.int en), .val (.int i0), .val (.int (1 : Int32)), .val (.int ((B i0) &&& (255 : Int32))), .val (.int (4 : Int32)), .val (.int (128 : Int32)), .val (.int (191 : Int32)), s9, s10] [(.int (1 : Int32))]))
                        refine own_st (fun t k => XS.istore X0.here hx rfl (hb hby d1_214) rfl (l' := #[.val (.ref ba), .val (.int (1 : Int32)), .val (.int en), .val (.int i0), .val (.int (1 : Int32)), .val (.int ((B i0) &&& (255 : Int32))), .val (.int (4 : Int32)), .val (.int (128 : Int32)), .val (.int (191 : Int32)), .val (.int (1 : Int32)), s10]) (XS.store1 rfl hs9 rfl) k) ?_
                        show own_Go p e below G (s₁.setTop (mkF m 216 #[.val (.ref ba), .val (.int (1 : Int32)), .val (.int en), .val (.int i0), .val (.int (1 : Int32)), .val (.int ((B i0) &&& (255 : Int32))), .val (.int (4 : Int32)), .val (.int (128 : Int32)), .val (.int (191 : Int32)), .val (.int (1 : Int32)), s10] []))
                        refine own_st (fun t k => XS.iload X0.here hx rfl (hb hby d1_216) rfl  k) ?_
                        show own_Go p e below G (s₁.setTop (mkF m 218 #[.val (.ref ba), .val (.int (1 : Int32)), .val (.int en), .val (.int i0), .val (.int (1 : Int32)), .val (.int ((B i0) &&& (255 : Int32))), .val (.int (4 : Int32)), .val (.int (128 : Int32)), .val (.int (191 : Int32)), .val (.int (1 : Int32)), s10] [(.int (1 : Int32))]))
                        refine own_st (fun t k => XS.ifNo X0.here hx rfl (hb hby d1_218) rfl ((if0 _ _).trans (feq (by decide)).1) k) ?_
                        show own_Go p e below G (s₁.setTop (mkF m 221 #[.val (.ref ba), .val (.int (1 : Int32)), .val (.int en), .val (.int i0), .val (.int (1 : Int32)), .val (.int ((B i0) &&& (255 : Int32))), .val (.int (4 : Int32)), .val (.int (128 : Int32)), .val (.int (191 : Int32)), .val (.int (1 : Int32)), s10] []))
                        refine own_st (fun t k => XS.iload X0.here hx rfl (hb hby d1_221) rfl  k) ?_
                        show own_Go p e below G (s₁.setTop (mkF m 223 #[.val (.ref ba), .val (.int (1 : Int32)), .val (.int en), .val (.int i0), .val (.int (1 : Int32)), .val (.int ((B i0) &&& (255 : Int32))), .val (.int (4 : Int32)), .val (.int (128 : Int32)), .val (.int (191 : Int32)), .val (.int (1 : Int32)), s10] [(.int (1 : Int32))]))
                        refine own_st (fun t k => XS.iload X0.here hx rfl (hb hby d1_223) rfl  k) ?_
                        show own_Go p e below G (s₁.setTop (mkF m 225 #[.val (.ref ba), .val (.int (1 : Int32)), .val (.int en), .val (.int i0), .val (.int (1 : Int32)), .val (.int ((B i0) &&& (255 : Int32))), .val (.int (4 : Int32)), .val (.int (128 : Int32)), .val (.int (191 : Int32)), .val (.int (1 : Int32)), s10] [(.int (4 : Int32)), (.int (1 : Int32))]))
                        refine own_st (fun t k => XS.icmpNo X0.here hx rfl (hb hby d1_225) rfl (tlt (by decide)).2.1 k) ?_
                        show own_Go p e below G (s₁.setTop (mkF m 228 #[.val (.ref ba), .val (.int (1 : Int32)), .val (.int en), .val (.int i0), .val (.int (1 : Int32)), .val (.int ((B i0) &&& (255 : Int32))), .val (.int (4 : Int32)), .val (.int (128 : Int32)), .val (.int (191 : Int32)), .val (.int (1 : Int32)), s10] []))
                        refine own_st (fun t k => XS.aloadN X0.here hx rfl (hb hby d1_228) rfl rfl  k) ?_
                        show own_Go p e below G (s₁.setTop (mkF m 229 #[.val (.ref ba), .val (.int (1 : Int32)), .val (.int en), .val (.int i0), .val (.int (1 : Int32)), .val (.int ((B i0) &&& (255 : Int32))), .val (.int (4 : Int32)), .val (.int (128 : Int32)), .val (.int (191 : Int32)), .val (.int (1 : Int32)), s10] [(.ref ba)]))
                        refine own_st (fun t k => XS.iloadN X0.here hx rfl (hb hby d1_229) rfl  k) ?_
                        show own_Go p e below G (s₁.setTop (mkF m 230 #[.val (.ref ba), .val (.int (1 : Int32)), .val (.int en), .val (.int i0), .val (.int (1 : Int32)), .val (.int ((B i0) &&& (255 : Int32))), .val (.int (4 : Int32)), .val (.int (128 : Int32)), .val (.int (191 : Int32)), .val (.int (1 : Int32)), s10] [(.int i0), (.ref ba)]))
                        refine own_st (fun t k => XS.iload X0.here hx rfl (hb hby d1_230) rfl  k) ?_
                        show own_Go p e below G (s₁.setTop (mkF m 232 #[.val (.ref ba), .val (.int (1 : Int32)), .val (.int en), .val (.int i0), .val (.int (1 : Int32)), .val (.int ((B i0) &&& (255 : Int32))), .val (.int (4 : Int32)), .val (.int (128 : Int32)), .val (.int (191 : Int32)), .val (.int (1 : Int32)), s10] [(.int (1 : Int32)), (.int i0), (.ref ba)]))
                        refine own_st (fun t k => XS.iadd X0.here hx rfl (hb hby d1_232) rfl k) ?_
                        show own_Go p e below G (s₁.setTop (mkF m 233 #[.val (.ref ba), .val (.int (1 : Int32)), .val (.int en), .val (.int i0), .val (.int (1 : Int32)), .val (.int ((B i0) &&& (255 : Int32))), .val (.int (4 : Int32)), .val (.int (128 : Int32)), .val (.int (191 : Int32)), .val (.int (1 : Int32)), s10] [(.int (i0 + (1 : Int32))), (.ref ba)]))
                        have hb31 := own_bd (n := 6) (own_in hi0 c12_1 he.2 c203_30 (j := (1 : Int32)) (by decide) (by decide) (by decide)) (Int.le_trans he.2 (by decide))
                        have hin31 := inb_of S0 hb31
                        refine own_st (fun t k => X0.baloadBytes hx (j := (i0 + (1 : Int32))) (v := (.int (B (i0 + (1 : Int32))))) (by rw [e0]; exact Ar0.1) (State.isArrayOf_alike hZ.alike Ar0.2.1) Ar0.2.2 hin31 (hB _ hb31.1 hb31.2) (g := (mkF m 233 #[.val (.ref ba), .val (.int (1 : Int32)), .val (.int en), .val (.int i0), .val (.int (1 : Int32)), .val (.int ((B i0) &&& (255 : Int32))), .val (.int (4 : Int32)), .val (.int (128 : Int32)), .val (.int (191 : Int32)), .val (.int (1 : Int32)), s10] [(.int (i0 + (1 : Int32))), (.ref ba)])) rfl rfl (hb hby d1_233) t k) ?_
                        show own_Go p e below G (s₁.setTop (mkF m 234 #[.val (.ref ba), .val (.int (1 : Int32)), .val (.int en), .val (.int i0), .val (.int (1 : Int32)), .val (.int ((B i0) &&& (255 : Int32))), .val (.int (4 : Int32)), .val (.int (128 : Int32)), .val (.int (191 : Int32)), .val (.int (1 : Int32)), s10] [(.int (B (i0 + (1 : Int32))))]))
                        refine own_st (fun t k => XS.sipush X0.here hx rfl (hb hby d1_234) k) ?_
                        show own_Go p e below G (s₁.setTop (mkF m 237 #[.val (.ref ba), .val (.int (1 : Int32)), .val (.int en), .val (.int i0), .val (.int (1 : Int32)), .val (.int ((B i0) &&& (255 : Int32))), .val (.int (4 : Int32)), .val (.int (128 : Int32)), .val (.int (191 : Int32)), .val (.int (1 : Int32)), s10] [(.int (255 : Int32)), (.int (B (i0 + (1 : Int32))))]))
                        refine own_st (fun t k => XS.iand X0.here hx rfl (hb hby d1_237) rfl k) ?_
                        show own_Go p e below G (s₁.setTop (mkF m 238 #[.val (.ref ba), .val (.int (1 : Int32)), .val (.int en), .val (.int i0), .val (.int (1 : Int32)), .val (.int ((B i0) &&& (255 : Int32))), .val (.int (4 : Int32)), .val (.int (128 : Int32)), .val (.int (191 : Int32)), .val (.int (1 : Int32)), s10] [(.int ((B (i0 + (1 : Int32))) &&& (255 : Int32)))]))
                        refine own_st (fun t k => XS.istore X0.here hx rfl (hb hby d1_238) rfl (l' := #[.val (.ref ba), .val (.int (1 : Int32)), .val (.int en), .val (.int i0), .val (.int (1 : Int32)), .val (.int ((B i0) &&& (255 : Int32))), .val (.int (4 : Int32)), .val (.int (128 : Int32)), .val (.int (191 : Int32)), .val (.int (1 : Int32)), .val (.int ((B (i0 + (1 : Int32))) &&& (255 : Int32)))]) (XS.store1 rfl hs10 rfl) k) ?_
                        show own_Go p e below G (s₁.setTop (mkF m 240 #[.val (.ref ba), .val (.int (1 : Int32)), .val (.int en), .val (.int i0), .val (.int (1 : Int32)), .val (.int ((B i0) &&& (255 : Int32))), .val (.int (4 : Int32)), .val (.int (128 : Int32)), .val (.int (191 : Int32)), .val (.int (1 : Int32)), .val (.int ((B (i0 + (1 : Int32))) &&& (255 : Int32)))] []))
                        refine own_st (fun t k => XS.iload X0.here hx rfl (hb hby d1_240) rfl  k) ?_
                        show own_Go p e below G (s₁.setTop (mkF m 242 #[.val (.ref ba), .val (.int (1 : Int32)), .val (.int en), .val (.int i0), .val (.int (1 : Int32)), .val (.int ((B i0) &&& (255 : Int32))), .val (.int (4 : Int32)), .val (.int (128 : Int32)), .val (.int (191 : Int32)), .val (.int (1 : Int32)), .val (.int ((B (i0 + (1 : Int32))) &&& (255 : Int32)))] [(.int (1 : Int32))]))
                        refine own_st (fun t k => XS.iconst X0.here hx rfl (hb hby d1_242) k) ?_
                        show own_Go p e below G (s₁.setTop (mkF m 243 #[.val (.ref ba), .val (.int (1 : Int32)), .val (.int en), .val (.int i0), .val (.int (1 : Int32)), .val (.int ((B i0) &&& (255 : Int32))), .val (.int (4 : Int32)), .val (.int (128 : Int32)), .val (.int (191 : Int32)), .val (.int (1 : Int32)), .val (.int ((B (i0 + (1 : Int32))) &&& (255 : Int32)))] [(.int (1 : Int32)), (.int (1 : Int32))]))
                        refine own_st (fun t k => XS.icmpNo X0.here hx rfl (hb hby d1_243) rfl (teq (by decide)).2 k) ?_
                        show own_Go p e below G (s₁.setTop (mkF m 246 #[.val (.ref ba), .val (.int (1 : Int32)), .val (.int en), .val (.int i0), .val (.int (1 : Int32)), .val (.int ((B i0) &&& (255 : Int32))), .val (.int (4 : Int32)), .val (.int (128 : Int32)), .val (.int (191 : Int32)), .val (.int (1 : Int32)), .val (.int ((B (i0 + (1 : Int32))) &&& (255 : Int32)))] []))
                        refine own_st (fun t k => XS.iload X0.here hx rfl (hb hby d1_246) rfl  k) ?_
                        show own_Go p e below G (s₁.setTop (mkF m 248 #[.val (.ref ba), .val (.int (1 : Int32)), .val (.int en), .val (.int i0), .val (.int (1 : Int32)), .val (.int ((B i0) &&& (255 : Int32))), .val (.int (4 : Int32)), .val (.int (128 : Int32)), .val (.int (191 : Int32)), .val (.int (1 : Int32)), .val (.int ((B (i0 + (1 : Int32))) &&& (255 : Int32)))] [(.int ((B (i0 + (1 : Int32))) &&& (255 : Int32)))]))
                        refine own_st (fun t k => XS.iload X0.here hx rfl (hb hby d1_248) rfl  k) ?_
                        show own_Go p e below G (s₁.setTop (mkF m 250 #[.val (.ref ba), .val (.int (1 : Int32)), .val (.int en), .val (.int i0), .val (.int (1 : Int32)), .val (.int ((B i0) &&& (255 : Int32))), .val (.int (4 : Int32)), .val (.int (128 : Int32)), .val (.int (191 : Int32)), .val (.int (1 : Int32)), .val (.int ((B (i0 + (1 : Int32))) &&& (255 : Int32)))] [(.int (128 : Int32)), (.int ((B (i0 + (1 : Int32))) &&& (255 : Int32)))]))
                        by_cases c250_32 : ((B (i0 + (1 : Int32))) &&& (255 : Int32)) < (128 : Int32)
                        · skip
                          refine own_st (fun t k => XS.icmpYes X0.here hx rfl (pc0 := 250) (pc' := 264) rfl (hb hby d1_250) rfl (tlt c250_32).1 (by decide) (by decide) k) ?_
                          show own_Go p e below G (s₁.setTop (mkF m 264 #[.val (.ref ba), .val (.int (1 : Int32)), .val (.int en), .val (.int i0), .val (.int (1 : Int32)), .val (.int ((B i0) &&& (255 : Int32))), .val (.int (4 : Int32)), .val (.int (128 : Int32)), .val (.int (191 : Int32)), .val (.int (1 : Int32)), .val (.int ((B (i0 + (1 : Int32))) &&& (255 : Int32)))] []))
                          refine own_st (fun t k => XS.iconst X0.here hx rfl (hb hby d1_264) k) ?_
                          show own_Go p e below G (s₁.setTop (mkF m 265 #[.val (.ref ba), .val (.int (1 : Int32)), .val (.int en), .val (.int i0), .val (.int (1 : Int32)), .val (.int ((B i0) &&& (255 : Int32))), .val (.int (4 : Int32)), .val (.int (128 : Int32)), .val (.int (191 : Int32)), .val (.int (1 : Int32)), .val (.int ((B (i0 + (1 : Int32))) &&& (255 : Int32)))] [(.int (0 : Int32))]))
                          refine own_st (fun t k => XS.goto X0.here hx rfl (pc0 := 265) (pc' := 289) rfl (hb hby d1_265) (by decide) (by decide) k) ?_
                          show own_Go p e below G (s₁.setTop (mkF m 289 #[.val (.ref ba), .val (.int (1 : Int32)), .val (.int en), .val (.int i0), .val (.int (1 : Int32)), .val (.int ((B i0) &&& (255 : Int32))), .val (.int (4 : Int32)), .val (.int (128 : Int32)), .val (.int (191 : Int32)), .val (.int (1 : Int32)), .val (.int ((B (i0 + (1 : Int32))) &&& (255 : Int32)))] [(.int (0 : Int32))]))
                          exact bad289 _ _ _ _ _ _ (show own_vl (B i0 &&& 255) (B (i0 + 1) &&& 255) (B (i0 + 2) &&& 255) (B (i0 + 3) &&& 255) (en - i0) = 0 by unfold own_vl; rw [if_neg c39_3, if_neg c53_4, if_pos c61_5, if_pos c83_6, if_neg c143_7, if_neg c154_8, if_neg c173_19, if_neg c203_30, if_pos c250_32])
                        · skip
                          refine own_st (fun t k => XS.icmpNo X0.here hx rfl (hb hby d1_250) rfl (flt c250_32).1 k) ?_
                          show own_Go p e below G (s₁.setTop (mkF m 253 #[.val (.ref ba), .val (.int (1 : Int32)), .val (.int en), .val (.int i0), .val (.int (1 : Int32)), .val (.int ((B i0) &&& (255 : Int32))), .val (.int (4 : Int32)), .val (.int (128 : Int32)), .val (.int (191 : Int32)), .val (.int (1 : Int32)), .val (.int ((B (i0 + (1 : Int32))) &&& (255 : Int32)))] []))
                          refine own_st (fun t k => XS.iload X0.here hx rfl (hb hby d1_253) rfl  k) ?_
                          show own_Go p e below G (s₁.setTop (mkF m 255 #[.val (.ref ba), .val (.int (1 : Int32)), .val (.int en), .val (.int i0), .val (.int (1 : Int32)), .val (.int ((B i0) &&& (255 : Int32))), .val (.int (4 : Int32)), .val (.int (128 : Int32)), .val (.int (191 : Int32)), .val (.int (1 : Int32)), .val (.int ((B (i0 + (1 : Int32))) &&& (255 : Int32)))] [(.int ((B (i0 + (1 : Int32))) &&& (255 : Int32)))]))
                          refine own_st (fun t k => XS.iload X0.here hx rfl (hb hby d1_255) rfl  k) ?_
                          show own_Go p e below G (s₁.setTop (mkF m 257 #[.val (.ref ba), .val (.int (1 : Int32)), .val (.int en), .val (.int i0), .val (.int (1 : Int32)), .val (.int ((B i0) &&& (255 : Int32))), .val (.int (4 : Int32)), .val (.int (128 : Int32)), .val (.int (191 : Int32)), .val (.int (1 : Int32)), .val (.int ((B (i0 + (1 : Int32))) &&& (255 : Int32)))] [(.int (191 : Int32)), (.int ((B (i0 + (1 : Int32))) &&& (255 : Int32)))]))
                          by_cases c257_33 : (191 : Int32) < ((B (i0 + (1 : Int32))) &&& (255 : Int32))
                          · skip
                            refine own_st (fun t k => XS.icmpYes X0.here hx rfl (pc0 := 257) (pc' := 264) rfl (hb hby d1_257) rfl (tlt c257_33).2.2.1 (by decide) (by decide) k) ?_
                            show own_Go p e below G (s₁.setTop (mkF m 264 #[.val (.ref ba), .val (.int (1 : Int32)), .val (.int en), .val (.int i0), .val (.int (1 : Int32)), .val (.int ((B i0) &&& (255 : Int32))), .val (.int (4 : Int32)), .val (.int (128 : Int32)), .val (.int (191 : Int32)), .val (.int (1 : Int32)), .val (.int ((B (i0 + (1 : Int32))) &&& (255 : Int32)))] []))
                            refine own_st (fun t k => XS.iconst X0.here hx rfl (hb hby d1_264) k) ?_
                            show own_Go p e below G (s₁.setTop (mkF m 265 #[.val (.ref ba), .val (.int (1 : Int32)), .val (.int en), .val (.int i0), .val (.int (1 : Int32)), .val (.int ((B i0) &&& (255 : Int32))), .val (.int (4 : Int32)), .val (.int (128 : Int32)), .val (.int (191 : Int32)), .val (.int (1 : Int32)), .val (.int ((B (i0 + (1 : Int32))) &&& (255 : Int32)))] [(.int (0 : Int32))]))
                            refine own_st (fun t k => XS.goto X0.here hx rfl (pc0 := 265) (pc' := 289) rfl (hb hby d1_265) (by decide) (by decide) k) ?_
                            show own_Go p e below G (s₁.setTop (mkF m 289 #[.val (.ref ba), .val (.int (1 : Int32)), .val (.int en), .val (.int i0), .val (.int (1 : Int32)), .val (.int ((B i0) &&& (255 : Int32))), .val (.int (4 : Int32)), .val (.int (128 : Int32)), .val (.int (191 : Int32)), .val (.int (1 : Int32)), .val (.int ((B (i0 + (1 : Int32))) &&& (255 : Int32)))] [(.int (0 : Int32))]))
                            exact bad289 _ _ _ _ _ _ (show own_vl (B i0 &&& 255) (B (i0 + 1) &&& 255) (B (i0 + 2) &&& 255) (B (i0 + 3) &&& 255) (en - i0) = 0 by unfold own_vl; rw [if_neg c39_3, if_neg c53_4, if_pos c61_5, if_pos c83_6, if_neg c143_7, if_neg c154_8, if_neg c173_19, if_neg c203_30, if_neg c250_32, if_pos c257_33])
                          · skip
                            refine own_st (fun t k => XS.icmpNo X0.here hx rfl (hb hby d1_257) rfl (flt c257_33).2.2.1 k) ?_
                            show own_Go p e below G (s₁.setTop (mkF m 260 #[.val (.ref ba), .val (.int (1 : Int32)), .val (.int en), .val (.int i0), .val (.int (1 : Int32)), .val (.int ((B i0) &&& (255 : Int32))), .val (.int (4 : Int32)), .val (.int (128 : Int32)), .val (.int (191 : Int32)), .val (.int (1 : Int32)), .val (.int ((B (i0 + (1 : Int32))) &&& (255 : Int32)))] []))
                            refine own_st (fun t k => XS.iconst X0.here hx rfl (hb hby d1_260) k) ?_
                            show own_Go p e below G (s₁.setTop (mkF m 261 #[.val (.ref ba), .val (.int (1 : Int32)), .val (.int en), .val (.int i0), .val (.int (1 : Int32)), .val (.int ((B i0) &&& (255 : Int32))), .val (.int (4 : Int32)), .val (.int (128 : Int32)), .val (.int (191 : Int32)), .val (.int (1 : Int32)), .val (.int ((B (i0 + (1 : Int32))) &&& (255 : Int32)))] [(.int (1 : Int32))]))
                            refine own_st (fun t k => XS.goto X0.here hx rfl (pc0 := 261) (pc' := 289) rfl (hb hby d1_261) (by decide) (by decide) k) ?_
                            show own_Go p e below G (s₁.setTop (mkF m 289 #[.val (.ref ba), .val (.int (1 : Int32)), .val (.int en), .val (.int i0), .val (.int (1 : Int32)), .val (.int ((B i0) &&& (255 : Int32))), .val (.int (4 : Int32)), .val (.int (128 : Int32)), .val (.int (191 : Int32)), .val (.int (1 : Int32)), .val (.int ((B (i0 + (1 : Int32))) &&& (255 : Int32)))] [(.int (1 : Int32))]))
                            refine own_st (fun t k => XS.istore X0.here hx rfl (hb hby d1_289) rfl (l' := #[.val (.ref ba), .val (.int (1 : Int32)), .val (.int en), .val (.int i0), .val (.int (1 : Int32)), .val (.int ((B i0) &&& (255 : Int32))), .val (.int (4 : Int32)), .val (.int (128 : Int32)), .val (.int (191 : Int32)), .val (.int (1 : Int32)), .val (.int ((B (i0 + (1 : Int32))) &&& (255 : Int32)))]) rfl k) ?_
                            show own_Go p e below G (s₁.setTop (mkF m 291 #[.val (.ref ba), .val (.int (1 : Int32)), .val (.int en), .val (.int i0), .val (.int (1 : Int32)), .val (.int ((B i0) &&& (255 : Int32))), .val (.int (4 : Int32)), .val (.int (128 : Int32)), .val (.int (191 : Int32)), .val (.int (1 : Int32)), .val (.int ((B (i0 + (1 : Int32))) &&& (255 : Int32)))] []))
                            refine own_st (fun t k => XS.iinc X0.here hx rfl (hb hby d1_291) rfl (l' := #[.val (.ref ba), .val (.int (1 : Int32)), .val (.int en), .val (.int i0), .val (.int (1 : Int32)), .val (.int ((B i0) &&& (255 : Int32))), .val (.int (4 : Int32)), .val (.int (128 : Int32)), .val (.int (191 : Int32)), .val (.int (2 : Int32)), .val (.int ((B (i0 + (1 : Int32))) &&& (255 : Int32)))]) rfl k) ?_
                            show own_Go p e below G (s₁.setTop (mkF m 294 #[.val (.ref ba), .val (.int (1 : Int32)), .val (.int en), .val (.int i0), .val (.int (1 : Int32)), .val (.int ((B i0) &&& (255 : Int32))), .val (.int (4 : Int32)), .val (.int (128 : Int32)), .val (.int (191 : Int32)), .val (.int (2 : Int32)), .val (.int ((B (i0 + (1 : Int32))) &&& (255 : Int32)))] []))
                            refine own_st (fun t k => XS.goto X0.here hx rfl (pc0 := 294) (pc' := 216) rfl (hb hby d1_294) (by decide) (by decide) k) ?_
                            show own_Go p e below G (s₁.setTop (mkF m 216 #[.val (.ref ba), .val (.int (1 : Int32)), .val (.int en), .val (.int i0), .val (.int (1 : Int32)), .val (.int ((B i0) &&& (255 : Int32))), .val (.int (4 : Int32)), .val (.int (128 : Int32)), .val (.int (191 : Int32)), .val (.int (2 : Int32)), .val (.int ((B (i0 + (1 : Int32))) &&& (255 : Int32)))] []))
                            refine own_st (fun t k => XS.iload X0.here hx rfl (hb hby d1_216) rfl  k) ?_
                            show own_Go p e below G (s₁.setTop (mkF m 218 #[.val (.ref ba), .val (.int (1 : Int32)), .val (.int en), .val (.int i0), .val (.int (1 : Int32)), .val (.int ((B i0) &&& (255 : Int32))), .val (.int (4 : Int32)), .val (.int (128 : Int32)), .val (.int (191 : Int32)), .val (.int (2 : Int32)), .val (.int ((B (i0 + (1 : Int32))) &&& (255 : Int32)))] [(.int (1 : Int32))]))
                            refine own_st (fun t k => XS.ifNo X0.here hx rfl (hb hby d1_218) rfl ((if0 _ _).trans (feq (by decide)).1) k) ?_
                            show own_Go p e below G (s₁.setTop (mkF m 221 #[.val (.ref ba), .val (.int (1 : Int32)), .val (.int en), .val (.int i0), .val (.int (1 : Int32)), .val (.int ((B i0) &&& (255 : Int32))), .val (.int (4 : Int32)), .val (.int (128 : Int32)), .val (.int (191 : Int32)), .val (.int (2 : Int32)), .val (.int ((B (i0 + (1 : Int32))) &&& (255 : Int32)))] []))
                            refine own_st (fun t k => XS.iload X0.here hx rfl (hb hby d1_221) rfl  k) ?_
                            show own_Go p e below G (s₁.setTop (mkF m 223 #[.val (.ref ba), .val (.int (1 : Int32)), .val (.int en), .val (.int i0), .val (.int (1 : Int32)), .val (.int ((B i0) &&& (255 : Int32))), .val (.int (4 : Int32)), .val (.int (128 : Int32)), .val (.int (191 : Int32)), .val (.int (2 : Int32)), .val (.int ((B (i0 + (1 : Int32))) &&& (255 : Int32)))] [(.int (2 : Int32))]))
                            refine own_st (fun t k => XS.iload X0.here hx rfl (hb hby d1_223) rfl  k) ?_
                            show own_Go p e below G (s₁.setTop (mkF m 225 #[.val (.ref ba), .val (.int (1 : Int32)), .val (.int en), .val (.int i0), .val (.int (1 : Int32)), .val (.int ((B i0) &&& (255 : Int32))), .val (.int (4 : Int32)), .val (.int (128 : Int32)), .val (.int (191 : Int32)), .val (.int (2 : Int32)), .val (.int ((B (i0 + (1 : Int32))) &&& (255 : Int32)))] [(.int (4 : Int32)), (.int (2 : Int32))]))
                            refine own_st (fun t k => XS.icmpNo X0.here hx rfl (hb hby d1_225) rfl (tlt (by decide)).2.1 k) ?_
                            show own_Go p e below G (s₁.setTop (mkF m 228 #[.val (.ref ba), .val (.int (1 : Int32)), .val (.int en), .val (.int i0), .val (.int (1 : Int32)), .val (.int ((B i0) &&& (255 : Int32))), .val (.int (4 : Int32)), .val (.int (128 : Int32)), .val (.int (191 : Int32)), .val (.int (2 : Int32)), .val (.int ((B (i0 + (1 : Int32))) &&& (255 : Int32)))] []))
                            refine own_st (fun t k => XS.aloadN X0.here hx rfl (hb hby d1_228) rfl rfl  k) ?_
                            show own_Go p e below G (s₁.setTop (mkF m 229 #[.val (.ref ba), .val (.int (1 : Int32)), .val (.int en), .val (.int i0), .val (.int (1 : Int32)), .val (.int ((B i0) &&& (255 : Int32))), .val (.int (4 : Int32)), .val (.int (128 : Int32)), .val (.int (191 : Int32)), .val (.int (2 : Int32)), .val (.int ((B (i0 + (1 : Int32))) &&& (255 : Int32)))] [(.ref ba)]))
                            refine own_st (fun t k => XS.iloadN X0.here hx rfl (hb hby d1_229) rfl  k) ?_
                            show own_Go p e below G (s₁.setTop (mkF m 230 #[.val (.ref ba), .val (.int (1 : Int32)), .val (.int en), .val (.int i0), .val (.int (1 : Int32)), .val (.int ((B i0) &&& (255 : Int32))), .val (.int (4 : Int32)), .val (.int (128 : Int32)), .val (.int (191 : Int32)), .val (.int (2 : Int32)), .val (.int ((B (i0 + (1 : Int32))) &&& (255 : Int32)))] [(.int i0), (.ref ba)]))
                            refine own_st (fun t k => XS.iload X0.here hx rfl (hb hby d1_230) rfl  k) ?_
                            show own_Go p e below G (s₁.setTop (mkF m 232 #[.val (.ref ba), .val (.int (1 : Int32)), .val (.int en), .val (.int i0), .val (.int (1 : Int32)), .val (.int ((B i0) &&& (255 : Int32))), .val (.int (4 : Int32)), .val (.int (128 : Int32)), .val (.int (191 : Int32)), .val (.int (2 : Int32)), .val (.int ((B (i0 + (1 : Int32))) &&& (255 : Int32)))] [(.int (2 : Int32)), (.int i0), (.ref ba)]))
                            refine own_st (fun t k => XS.iadd X0.here hx rfl (hb hby d1_232) rfl k) ?_
                            show own_Go p e below G (s₁.setTop (mkF m 233 #[.val (.ref ba), .val (.int (1 : Int32)), .val (.int en), .val (.int i0), .val (.int (1 : Int32)), .val (.int ((B i0) &&& (255 : Int32))), .val (.int (4 : Int32)), .val (.int (128 : Int32)), .val (.int (191 : Int32)), .val (.int (2 : Int32)), .val (.int ((B (i0 + (1 : Int32))) &&& (255 : Int32)))] [(.int (i0 + (2 : Int32))), (.ref ba)]))
                            have hb34 := own_bd (n := 6) (own_in hi0 c12_1 he.2 c203_30 (j := (2 : Int32)) (by decide) (by decide) (by decide)) (Int.le_trans he.2 (by decide))
                            have hin34 := inb_of S0 hb34
                            refine own_st (fun t k => X0.baloadBytes hx (j := (i0 + (2 : Int32))) (v := (.int (B (i0 + (2 : Int32))))) (by rw [e0]; exact Ar0.1) (State.isArrayOf_alike hZ.alike Ar0.2.1) Ar0.2.2 hin34 (hB _ hb34.1 hb34.2) (g := (mkF m 233 #[.val (.ref ba), .val (.int (1 : Int32)), .val (.int en), .val (.int i0), .val (.int (1 : Int32)), .val (.int ((B i0) &&& (255 : Int32))), .val (.int (4 : Int32)), .val (.int (128 : Int32)), .val (.int (191 : Int32)), .val (.int (2 : Int32)), .val (.int ((B (i0 + (1 : Int32))) &&& (255 : Int32)))] [(.int (i0 + (2 : Int32))), (.ref ba)])) rfl rfl (hb hby d1_233) t k) ?_
                            show own_Go p e below G (s₁.setTop (mkF m 234 #[.val (.ref ba), .val (.int (1 : Int32)), .val (.int en), .val (.int i0), .val (.int (1 : Int32)), .val (.int ((B i0) &&& (255 : Int32))), .val (.int (4 : Int32)), .val (.int (128 : Int32)), .val (.int (191 : Int32)), .val (.int (2 : Int32)), .val (.int ((B (i0 + (1 : Int32))) &&& (255 : Int32)))] [(.int (B (i0 + (2 : Int32))))]))
                            refine own_st (fun t k => XS.sipush X0.here hx rfl (hb hby d1_234) k) ?_
                            show own_Go p e below G (s₁.setTop (mkF m 237 #[.val (.ref ba), .val (.int (1 : Int32)), .val (.int en), .val (.int i0), .val (.int (1 : Int32)), .val (.int ((B i0) &&& (255 : Int32))), .val (.int (4 : Int32)), .val (.int (128 : Int32)), .val (.int (191 : Int32)), .val (.int (2 : Int32)), .val (.int ((B (i0 + (1 : Int32))) &&& (255 : Int32)))] [(.int (255 : Int32)), (.int (B (i0 + (2 : Int32))))]))
                            refine own_st (fun t k => XS.iand X0.here hx rfl (hb hby d1_237) rfl k) ?_
                            show own_Go p e below G (s₁.setTop (mkF m 238 #[.val (.ref ba), .val (.int (1 : Int32)), .val (.int en), .val (.int i0), .val (.int (1 : Int32)), .val (.int ((B i0) &&& (255 : Int32))), .val (.int (4 : Int32)), .val (.int (128 : Int32)), .val (.int (191 : Int32)), .val (.int (2 : Int32)), .val (.int ((B (i0 + (1 : Int32))) &&& (255 : Int32)))] [(.int ((B (i0 + (2 : Int32))) &&& (255 : Int32)))]))
                            refine own_st (fun t k => XS.istore X0.here hx rfl (hb hby d1_238) rfl (l' := #[.val (.ref ba), .val (.int (1 : Int32)), .val (.int en), .val (.int i0), .val (.int (1 : Int32)), .val (.int ((B i0) &&& (255 : Int32))), .val (.int (4 : Int32)), .val (.int (128 : Int32)), .val (.int (191 : Int32)), .val (.int (2 : Int32)), .val (.int ((B (i0 + (2 : Int32))) &&& (255 : Int32)))]) rfl k) ?_
                            show own_Go p e below G (s₁.setTop (mkF m 240 #[.val (.ref ba), .val (.int (1 : Int32)), .val (.int en), .val (.int i0), .val (.int (1 : Int32)), .val (.int ((B i0) &&& (255 : Int32))), .val (.int (4 : Int32)), .val (.int (128 : Int32)), .val (.int (191 : Int32)), .val (.int (2 : Int32)), .val (.int ((B (i0 + (2 : Int32))) &&& (255 : Int32)))] []))
                            refine own_st (fun t k => XS.iload X0.here hx rfl (hb hby d1_240) rfl  k) ?_
                            show own_Go p e below G (s₁.setTop (mkF m 242 #[.val (.ref ba), .val (.int (1 : Int32)), .val (.int en), .val (.int i0), .val (.int (1 : Int32)), .val (.int ((B i0) &&& (255 : Int32))), .val (.int (4 : Int32)), .val (.int (128 : Int32)), .val (.int (191 : Int32)), .val (.int (2 : Int32)), .val (.int ((B (i0 + (2 : Int32))) &&& (255 : Int32)))] [(.int (2 : Int32))]))
                            refine own_st (fun t k => XS.iconst X0.here hx rfl (hb hby d1_242) k) ?_
                            show own_Go p e below G (s₁.setTop (mkF m 243 #[.val (.ref ba), .val (.int (1 : Int32)), .val (.int en), .val (.int i0), .val (.int (1 : Int32)), .val (.int ((B i0) &&& (255 : Int32))), .val (.int (4 : Int32)), .val (.int (128 : Int32)), .val (.int (191 : Int32)), .val (.int (2 : Int32)), .val (.int ((B (i0 + (2 : Int32))) &&& (255 : Int32)))] [(.int (1 : Int32)), (.int (2 : Int32))]))
                            refine own_st (fun t k => XS.icmpYes X0.here hx rfl (pc0 := 243) (pc' := 268) rfl (hb hby d1_243) rfl (feq (by decide)).2 (by decide) (by decide) k) ?_
                            show own_Go p e below G (s₁.setTop (mkF m 268 #[.val (.ref ba), .val (.int (1 : Int32)), .val (.int en), .val (.int i0), .val (.int (1 : Int32)), .val (.int ((B i0) &&& (255 : Int32))), .val (.int (4 : Int32)), .val (.int (128 : Int32)), .val (.int (191 : Int32)), .val (.int (2 : Int32)), .val (.int ((B (i0 + (2 : Int32))) &&& (255 : Int32)))] []))
                            refine own_st (fun t k => XS.iload X0.here hx rfl (hb hby d1_268) rfl  k) ?_
                            show own_Go p e below G (s₁.setTop (mkF m 270 #[.val (.ref ba), .val (.int (1 : Int32)), .val (.int en), .val (.int i0), .val (.int (1 : Int32)), .val (.int ((B i0) &&& (255 : Int32))), .val (.int (4 : Int32)), .val (.int (128 : Int32)), .val (.int (191 : Int32)), .val (.int (2 : Int32)), .val (.int ((B (i0 + (2 : Int32))) &&& (255 : Int32)))] [(.int ((B (i0 + (2 : Int32))) &&& (255 : Int32)))]))
                            refine own_st (fun t k => XS.sipush X0.here hx rfl (hb hby d1_270) k) ?_
                            show own_Go p e below G (s₁.setTop (mkF m 273 #[.val (.ref ba), .val (.int (1 : Int32)), .val (.int en), .val (.int i0), .val (.int (1 : Int32)), .val (.int ((B i0) &&& (255 : Int32))), .val (.int (4 : Int32)), .val (.int (128 : Int32)), .val (.int (191 : Int32)), .val (.int (2 : Int32)), .val (.int ((B (i0 + (2 : Int32))) &&& (255 : Int32)))] [(.int (128 : Int32)), (.int ((B (i0 + (2 : Int32))) &&& (255 : Int32)))]))
                            by_cases c273_35 : ((B (i0 + (2 : Int32))) &&& (255 : Int32)) < (128 : Int32)
                            · skip
                              refine own_st (fun t k => XS.icmpYes X0.here hx rfl (pc0 := 273) (pc' := 288) rfl (hb hby d1_273) rfl (tlt c273_35).1 (by decide) (by decide) k) ?_
                              show own_Go p e below G (s₁.setTop (mkF m 288 #[.val (.ref ba), .val (.int (1 : Int32)), .val (.int en), .val (.int i0), .val (.int (1 : Int32)), .val (.int ((B i0) &&& (255 : Int32))), .val (.int (4 : Int32)), .val (.int (128 : Int32)), .val (.int (191 : Int32)), .val (.int (2 : Int32)), .val (.int ((B (i0 + (2 : Int32))) &&& (255 : Int32)))] []))
                              refine own_st (fun t k => XS.iconst X0.here hx rfl (hb hby d1_288) k) ?_
                              show own_Go p e below G (s₁.setTop (mkF m 289 #[.val (.ref ba), .val (.int (1 : Int32)), .val (.int en), .val (.int i0), .val (.int (1 : Int32)), .val (.int ((B i0) &&& (255 : Int32))), .val (.int (4 : Int32)), .val (.int (128 : Int32)), .val (.int (191 : Int32)), .val (.int (2 : Int32)), .val (.int ((B (i0 + (2 : Int32))) &&& (255 : Int32)))] [(.int (0 : Int32))]))
                              exact bad289 _ _ _ _ _ _ (show own_vl (B i0 &&& 255) (B (i0 + 1) &&& 255) (B (i0 + 2) &&& 255) (B (i0 + 3) &&& 255) (en - i0) = 0 by unfold own_vl; rw [if_neg c39_3, if_neg c53_4, if_pos c61_5, if_pos c83_6, if_neg c143_7, if_neg c154_8, if_neg c173_19, if_neg c203_30, if_neg c250_32, if_neg c257_33, if_pos c273_35])
                            · skip
                              refine own_st (fun t k => XS.icmpNo X0.here hx rfl (hb hby d1_273) rfl (flt c273_35).1 k) ?_
                              show own_Go p e below G (s₁.setTop (mkF m 276 #[.val (.ref ba), .val (.int (1 : Int32)), .val (.int en), .val (.int i0), .val (.int (1 : Int32)), .val (.int ((B i0) &&& (255 : Int32))), .val (.int (4 : Int32)), .val (.int (128 : Int32)), .val (.int (191 : Int32)), .val (.int (2 : Int32)), .val (.int ((B (i0 + (2 : Int32))) &&& (255 : Int32)))] []))
                              refine own_st (fun t k => XS.iload X0.here hx rfl (hb hby d1_276) rfl  k) ?_
                              show own_Go p e below G (s₁.setTop (mkF m 278 #[.val (.ref ba), .val (.int (1 : Int32)), .val (.int en), .val (.int i0), .val (.int (1 : Int32)), .val (.int ((B i0) &&& (255 : Int32))), .val (.int (4 : Int32)), .val (.int (128 : Int32)), .val (.int (191 : Int32)), .val (.int (2 : Int32)), .val (.int ((B (i0 + (2 : Int32))) &&& (255 : Int32)))] [(.int ((B (i0 + (2 : Int32))) &&& (255 : Int32)))]))
                              refine own_st (fun t k => XS.sipush X0.here hx rfl (hb hby d1_278) k) ?_
                              show own_Go p e below G (s₁.setTop (mkF m 281 #[.val (.ref ba), .val (.int (1 : Int32)), .val (.int en), .val (.int i0), .val (.int (1 : Int32)), .val (.int ((B i0) &&& (255 : Int32))), .val (.int (4 : Int32)), .val (.int (128 : Int32)), .val (.int (191 : Int32)), .val (.int (2 : Int32)), .val (.int ((B (i0 + (2 : Int32))) &&& (255 : Int32)))] [(.int (191 : Int32)), (.int ((B (i0 + (2 : Int32))) &&& (255 : Int32)))]))
                              by_cases c281_36 : (191 : Int32) < ((B (i0 + (2 : Int32))) &&& (255 : Int32))
                              · skip
                                refine own_st (fun t k => XS.icmpYes X0.here hx rfl (pc0 := 281) (pc' := 288) rfl (hb hby d1_281) rfl (tlt c281_36).2.2.1 (by decide) (by decide) k) ?_
                                show own_Go p e below G (s₁.setTop (mkF m 288 #[.val (.ref ba), .val (.int (1 : Int32)), .val (.int en), .val (.int i0), .val (.int (1 : Int32)), .val (.int ((B i0) &&& (255 : Int32))), .val (.int (4 : Int32)), .val (.int (128 : Int32)), .val (.int (191 : Int32)), .val (.int (2 : Int32)), .val (.int ((B (i0 + (2 : Int32))) &&& (255 : Int32)))] []))
                                refine own_st (fun t k => XS.iconst X0.here hx rfl (hb hby d1_288) k) ?_
                                show own_Go p e below G (s₁.setTop (mkF m 289 #[.val (.ref ba), .val (.int (1 : Int32)), .val (.int en), .val (.int i0), .val (.int (1 : Int32)), .val (.int ((B i0) &&& (255 : Int32))), .val (.int (4 : Int32)), .val (.int (128 : Int32)), .val (.int (191 : Int32)), .val (.int (2 : Int32)), .val (.int ((B (i0 + (2 : Int32))) &&& (255 : Int32)))] [(.int (0 : Int32))]))
                                exact bad289 _ _ _ _ _ _ (show own_vl (B i0 &&& 255) (B (i0 + 1) &&& 255) (B (i0 + 2) &&& 255) (B (i0 + 3) &&& 255) (en - i0) = 0 by unfold own_vl; rw [if_neg c39_3, if_neg c53_4, if_pos c61_5, if_pos c83_6, if_neg c143_7, if_neg c154_8, if_neg c173_19, if_neg c203_30, if_neg c250_32, if_neg c257_33, if_neg c273_35, if_pos c281_36])
                              · skip
                                refine own_st (fun t k => XS.icmpNo X0.here hx rfl (hb hby d1_281) rfl (flt c281_36).2.2.1 k) ?_
                                show own_Go p e below G (s₁.setTop (mkF m 284 #[.val (.ref ba), .val (.int (1 : Int32)), .val (.int en), .val (.int i0), .val (.int (1 : Int32)), .val (.int ((B i0) &&& (255 : Int32))), .val (.int (4 : Int32)), .val (.int (128 : Int32)), .val (.int (191 : Int32)), .val (.int (2 : Int32)), .val (.int ((B (i0 + (2 : Int32))) &&& (255 : Int32)))] []))
                                refine own_st (fun t k => XS.iconst X0.here hx rfl (hb hby d1_284) k) ?_
                                show own_Go p e below G (s₁.setTop (mkF m 285 #[.val (.ref ba), .val (.int (1 : Int32)), .val (.int en), .val (.int i0), .val (.int (1 : Int32)), .val (.int ((B i0) &&& (255 : Int32))), .val (.int (4 : Int32)), .val (.int (128 : Int32)), .val (.int (191 : Int32)), .val (.int (2 : Int32)), .val (.int ((B (i0 + (2 : Int32))) &&& (255 : Int32)))] [(.int (1 : Int32))]))
                                refine own_st (fun t k => XS.goto X0.here hx rfl (pc0 := 285) (pc' := 289) rfl (hb hby d1_285) (by decide) (by decide) k) ?_
                                show own_Go p e below G (s₁.setTop (mkF m 289 #[.val (.ref ba), .val (.int (1 : Int32)), .val (.int en), .val (.int i0), .val (.int (1 : Int32)), .val (.int ((B i0) &&& (255 : Int32))), .val (.int (4 : Int32)), .val (.int (128 : Int32)), .val (.int (191 : Int32)), .val (.int (2 : Int32)), .val (.int ((B (i0 + (2 : Int32))) &&& (255 : Int32)))] [(.int (1 : Int32))]))
                                refine own_st (fun t k => XS.istore X0.here hx rfl (hb hby d1_289) rfl (l' := #[.val (.ref ba), .val (.int (1 : Int32)), .val (.int en), .val (.int i0), .val (.int (1 : Int32)), .val (.int ((B i0) &&& (255 : Int32))), .val (.int (4 : Int32)), .val (.int (128 : Int32)), .val (.int (191 : Int32)), .val (.int (2 : Int32)), .val (.int ((B (i0 + (2 : Int32))) &&& (255 : Int32)))]) rfl k) ?_
                                show own_Go p e below G (s₁.setTop (mkF m 291 #[.val (.ref ba), .val (.int (1 : Int32)), .val (.int en), .val (.int i0), .val (.int (1 : Int32)), .val (.int ((B i0) &&& (255 : Int32))), .val (.int (4 : Int32)), .val (.int (128 : Int32)), .val (.int (191 : Int32)), .val (.int (2 : Int32)), .val (.int ((B (i0 + (2 : Int32))) &&& (255 : Int32)))] []))
                                refine own_st (fun t k => XS.iinc X0.here hx rfl (hb hby d1_291) rfl (l' := #[.val (.ref ba), .val (.int (1 : Int32)), .val (.int en), .val (.int i0), .val (.int (1 : Int32)), .val (.int ((B i0) &&& (255 : Int32))), .val (.int (4 : Int32)), .val (.int (128 : Int32)), .val (.int (191 : Int32)), .val (.int (3 : Int32)), .val (.int ((B (i0 + (2 : Int32))) &&& (255 : Int32)))]) rfl k) ?_
                                show own_Go p e below G (s₁.setTop (mkF m 294 #[.val (.ref ba), .val (.int (1 : Int32)), .val (.int en), .val (.int i0), .val (.int (1 : Int32)), .val (.int ((B i0) &&& (255 : Int32))), .val (.int (4 : Int32)), .val (.int (128 : Int32)), .val (.int (191 : Int32)), .val (.int (3 : Int32)), .val (.int ((B (i0 + (2 : Int32))) &&& (255 : Int32)))] []))
                                refine own_st (fun t k => XS.goto X0.here hx rfl (pc0 := 294) (pc' := 216) rfl (hb hby d1_294) (by decide) (by decide) k) ?_
                                show own_Go p e below G (s₁.setTop (mkF m 216 #[.val (.ref ba), .val (.int (1 : Int32)), .val (.int en), .val (.int i0), .val (.int (1 : Int32)), .val (.int ((B i0) &&& (255 : Int32))), .val (.int (4 : Int32)), .val (.int (128 : Int32)), .val (.int (191 : Int32)), .val (.int (3 : Int32)), .val (.int ((B (i0 + (2 : Int32))) &&& (255 : Int32)))] []))
                                refine own_st (fun t k => XS.iload X0.here hx rfl (hb hby d1_216) rfl  k) ?_
                                show own_Go p e below G (s₁.setTop (mkF m 218 #[.val (.ref ba), .val (.int (1 : Int32)), .val (.int en), .val (.int i0), .val (.int (1 : Int32)), .val (.int ((B i0) &&& (255 : Int32))), .val (.int (4 : Int32)), .val (.int (128 : Int32)), .val (.int (191 : Int32)), .val (.int (3 : Int32)), .val (.int ((B (i0 + (2 : Int32))) &&& (255 : Int32)))] [(.int (1 : Int32))]))
                                refine own_st (fun t k => XS.ifNo X0.here hx rfl (hb hby d1_218) rfl ((if0 _ _).trans (feq (by decide)).1) k) ?_
                                show own_Go p e below G (s₁.setTop (mkF m 221 #[.val (.ref ba), .val (.int (1 : Int32)), .val (.int en), .val (.int i0), .val (.int (1 : Int32)), .val (.int ((B i0) &&& (255 : Int32))), .val (.int (4 : Int32)), .val (.int (128 : Int32)), .val (.int (191 : Int32)), .val (.int (3 : Int32)), .val (.int ((B (i0 + (2 : Int32))) &&& (255 : Int32)))] []))
                                refine own_st (fun t k => XS.iload X0.here hx rfl (hb hby d1_221) rfl  k) ?_
                                show own_Go p e below G (s₁.setTop (mkF m 223 #[.val (.ref ba), .val (.int (1 : Int32)), .val (.int en), .val (.int i0), .val (.int (1 : Int32)), .val (.int ((B i0) &&& (255 : Int32))), .val (.int (4 : Int32)), .val (.int (128 : Int32)), .val (.int (191 : Int32)), .val (.int (3 : Int32)), .val (.int ((B (i0 + (2 : Int32))) &&& (255 : Int32)))] [(.int (3 : Int32))]))
                                refine own_st (fun t k => XS.iload X0.here hx rfl (hb hby d1_223) rfl  k) ?_
                                show own_Go p e below G (s₁.setTop (mkF m 225 #[.val (.ref ba), .val (.int (1 : Int32)), .val (.int en), .val (.int i0), .val (.int (1 : Int32)), .val (.int ((B i0) &&& (255 : Int32))), .val (.int (4 : Int32)), .val (.int (128 : Int32)), .val (.int (191 : Int32)), .val (.int (3 : Int32)), .val (.int ((B (i0 + (2 : Int32))) &&& (255 : Int32)))] [(.int (4 : Int32)), (.int (3 : Int32))]))
                                refine own_st (fun t k => XS.icmpNo X0.here hx rfl (hb hby d1_225) rfl (tlt (by decide)).2.1 k) ?_
                                show own_Go p e below G (s₁.setTop (mkF m 228 #[.val (.ref ba), .val (.int (1 : Int32)), .val (.int en), .val (.int i0), .val (.int (1 : Int32)), .val (.int ((B i0) &&& (255 : Int32))), .val (.int (4 : Int32)), .val (.int (128 : Int32)), .val (.int (191 : Int32)), .val (.int (3 : Int32)), .val (.int ((B (i0 + (2 : Int32))) &&& (255 : Int32)))] []))
                                refine own_st (fun t k => XS.aloadN X0.here hx rfl (hb hby d1_228) rfl rfl  k) ?_
                                show own_Go p e below G (s₁.setTop (mkF m 229 #[.val (.ref ba), .val (.int (1 : Int32)), .val (.int en), .val (.int i0), .val (.int (1 : Int32)), .val (.int ((B i0) &&& (255 : Int32))), .val (.int (4 : Int32)), .val (.int (128 : Int32)), .val (.int (191 : Int32)), .val (.int (3 : Int32)), .val (.int ((B (i0 + (2 : Int32))) &&& (255 : Int32)))] [(.ref ba)]))
                                refine own_st (fun t k => XS.iloadN X0.here hx rfl (hb hby d1_229) rfl  k) ?_
                                show own_Go p e below G (s₁.setTop (mkF m 230 #[.val (.ref ba), .val (.int (1 : Int32)), .val (.int en), .val (.int i0), .val (.int (1 : Int32)), .val (.int ((B i0) &&& (255 : Int32))), .val (.int (4 : Int32)), .val (.int (128 : Int32)), .val (.int (191 : Int32)), .val (.int (3 : Int32)), .val (.int ((B (i0 + (2 : Int32))) &&& (255 : Int32)))] [(.int i0), (.ref ba)]))
                                refine own_st (fun t k => XS.iload X0.here hx rfl (hb hby d1_230) rfl  k) ?_
                                show own_Go p e below G (s₁.setTop (mkF m 232 #[.val (.ref ba), .val (.int (1 : Int32)), .val (.int en), .val (.int i0), .val (.int (1 : Int32)), .val (.int ((B i0) &&& (255 : Int32))), .val (.int (4 : Int32)), .val (.int (128 : Int32)), .val (.int (191 : Int32)), .val (.int (3 : Int32)), .val (.int ((B (i0 + (2 : Int32))) &&& (255 : Int32)))] [(.int (3 : Int32)), (.int i0), (.ref ba)]))
                                refine own_st (fun t k => XS.iadd X0.here hx rfl (hb hby d1_232) rfl k) ?_
                                show own_Go p e below G (s₁.setTop (mkF m 233 #[.val (.ref ba), .val (.int (1 : Int32)), .val (.int en), .val (.int i0), .val (.int (1 : Int32)), .val (.int ((B i0) &&& (255 : Int32))), .val (.int (4 : Int32)), .val (.int (128 : Int32)), .val (.int (191 : Int32)), .val (.int (3 : Int32)), .val (.int ((B (i0 + (2 : Int32))) &&& (255 : Int32)))] [(.int (i0 + (3 : Int32))), (.ref ba)]))
                                have hb37 := own_bd (n := 6) (own_in hi0 c12_1 he.2 c203_30 (j := (3 : Int32)) (by decide) (by decide) (by decide)) (Int.le_trans he.2 (by decide))
                                have hin37 := inb_of S0 hb37
                                refine own_st (fun t k => X0.baloadBytes hx (j := (i0 + (3 : Int32))) (v := (.int (B (i0 + (3 : Int32))))) (by rw [e0]; exact Ar0.1) (State.isArrayOf_alike hZ.alike Ar0.2.1) Ar0.2.2 hin37 (hB _ hb37.1 hb37.2) (g := (mkF m 233 #[.val (.ref ba), .val (.int (1 : Int32)), .val (.int en), .val (.int i0), .val (.int (1 : Int32)), .val (.int ((B i0) &&& (255 : Int32))), .val (.int (4 : Int32)), .val (.int (128 : Int32)), .val (.int (191 : Int32)), .val (.int (3 : Int32)), .val (.int ((B (i0 + (2 : Int32))) &&& (255 : Int32)))] [(.int (i0 + (3 : Int32))), (.ref ba)])) rfl rfl (hb hby d1_233) t k) ?_
                                show own_Go p e below G (s₁.setTop (mkF m 234 #[.val (.ref ba), .val (.int (1 : Int32)), .val (.int en), .val (.int i0), .val (.int (1 : Int32)), .val (.int ((B i0) &&& (255 : Int32))), .val (.int (4 : Int32)), .val (.int (128 : Int32)), .val (.int (191 : Int32)), .val (.int (3 : Int32)), .val (.int ((B (i0 + (2 : Int32))) &&& (255 : Int32)))] [(.int (B (i0 + (3 : Int32))))]))
                                refine own_st (fun t k => XS.sipush X0.here hx rfl (hb hby d1_234) k) ?_
                                show own_Go p e below G (s₁.setTop (mkF m 237 #[.val (.ref ba), .val (.int (1 : Int32)), .val (.int en), .val (.int i0), .val (.int (1 : Int32)), .val (.int ((B i0) &&& (255 : Int32))), .val (.int (4 : Int32)), .val (.int (128 : Int32)), .val (.int (191 : Int32)), .val (.int (3 : Int32)), .val (.int ((B (i0 + (2 : Int32))) &&& (255 : Int32)))] [(.int (255 : Int32)), (.int (B (i0 + (3 : Int32))))]))
                                refine own_st (fun t k => XS.iand X0.here hx rfl (hb hby d1_237) rfl k) ?_
                                show own_Go p e below G (s₁.setTop (mkF m 238 #[.val (.ref ba), .val (.int (1 : Int32)), .val (.int en), .val (.int i0), .val (.int (1 : Int32)), .val (.int ((B i0) &&& (255 : Int32))), .val (.int (4 : Int32)), .val (.int (128 : Int32)), .val (.int (191 : Int32)), .val (.int (3 : Int32)), .val (.int ((B (i0 + (2 : Int32))) &&& (255 : Int32)))] [(.int ((B (i0 + (3 : Int32))) &&& (255 : Int32)))]))
                                refine own_st (fun t k => XS.istore X0.here hx rfl (hb hby d1_238) rfl (l' := #[.val (.ref ba), .val (.int (1 : Int32)), .val (.int en), .val (.int i0), .val (.int (1 : Int32)), .val (.int ((B i0) &&& (255 : Int32))), .val (.int (4 : Int32)), .val (.int (128 : Int32)), .val (.int (191 : Int32)), .val (.int (3 : Int32)), .val (.int ((B (i0 + (3 : Int32))) &&& (255 : Int32)))]) rfl k) ?_
                                show own_Go p e below G (s₁.setTop (mkF m 240 #[.val (.ref ba), .val (.int (1 : Int32)), .val (.int en), .val (.int i0), .val (.int (1 : Int32)), .val (.int ((B i0) &&& (255 : Int32))), .val (.int (4 : Int32)), .val (.int (128 : Int32)), .val (.int (191 : Int32)), .val (.int (3 : Int32)), .val (.int ((B (i0 + (3 : Int32))) &&& (255 : Int32)))] []))
                                refine own_st (fun t k => XS.iload X0.here hx rfl (hb hby d1_240) rfl  k) ?_
                                show own_Go p e below G (s₁.setTop (mkF m 242 #[.val (.ref ba), .val (.int (1 : Int32)), .val (.int en), .val (.int i0), .val (.int (1 : Int32)), .val (.int ((B i0) &&& (255 : Int32))), .val (.int (4 : Int32)), .val (.int (128 : Int32)), .val (.int (191 : Int32)), .val (.int (3 : Int32)), .val (.int ((B (i0 + (3 : Int32))) &&& (255 : Int32)))] [(.int (3 : Int32))]))
                                refine own_st (fun t k => XS.iconst X0.here hx rfl (hb hby d1_242) k) ?_
                                show own_Go p e below G (s₁.setTop (mkF m 243 #[.val (.ref ba), .val (.int (1 : Int32)), .val (.int en), .val (.int i0), .val (.int (1 : Int32)), .val (.int ((B i0) &&& (255 : Int32))), .val (.int (4 : Int32)), .val (.int (128 : Int32)), .val (.int (191 : Int32)), .val (.int (3 : Int32)), .val (.int ((B (i0 + (3 : Int32))) &&& (255 : Int32)))] [(.int (1 : Int32)), (.int (3 : Int32))]))
                                refine own_st (fun t k => XS.icmpYes X0.here hx rfl (pc0 := 243) (pc' := 268) rfl (hb hby d1_243) rfl (feq (by decide)).2 (by decide) (by decide) k) ?_
                                show own_Go p e below G (s₁.setTop (mkF m 268 #[.val (.ref ba), .val (.int (1 : Int32)), .val (.int en), .val (.int i0), .val (.int (1 : Int32)), .val (.int ((B i0) &&& (255 : Int32))), .val (.int (4 : Int32)), .val (.int (128 : Int32)), .val (.int (191 : Int32)), .val (.int (3 : Int32)), .val (.int ((B (i0 + (3 : Int32))) &&& (255 : Int32)))] []))
                                refine own_st (fun t k => XS.iload X0.here hx rfl (hb hby d1_268) rfl  k) ?_
                                show own_Go p e below G (s₁.setTop (mkF m 270 #[.val (.ref ba), .val (.int (1 : Int32)), .val (.int en), .val (.int i0), .val (.int (1 : Int32)), .val (.int ((B i0) &&& (255 : Int32))), .val (.int (4 : Int32)), .val (.int (128 : Int32)), .val (.int (191 : Int32)), .val (.int (3 : Int32)), .val (.int ((B (i0 + (3 : Int32))) &&& (255 : Int32)))] [(.int ((B (i0 + (3 : Int32))) &&& (255 : Int32)))]))
                                refine own_st (fun t k => XS.sipush X0.here hx rfl (hb hby d1_270) k) ?_
                                show own_Go p e below G (s₁.setTop (mkF m 273 #[.val (.ref ba), .val (.int (1 : Int32)), .val (.int en), .val (.int i0), .val (.int (1 : Int32)), .val (.int ((B i0) &&& (255 : Int32))), .val (.int (4 : Int32)), .val (.int (128 : Int32)), .val (.int (191 : Int32)), .val (.int (3 : Int32)), .val (.int ((B (i0 + (3 : Int32))) &&& (255 : Int32)))] [(.int (128 : Int32)), (.int ((B (i0 + (3 : Int32))) &&& (255 : Int32)))]))
                                by_cases c273_38 : ((B (i0 + (3 : Int32))) &&& (255 : Int32)) < (128 : Int32)
                                · skip
                                  refine own_st (fun t k => XS.icmpYes X0.here hx rfl (pc0 := 273) (pc' := 288) rfl (hb hby d1_273) rfl (tlt c273_38).1 (by decide) (by decide) k) ?_
                                  show own_Go p e below G (s₁.setTop (mkF m 288 #[.val (.ref ba), .val (.int (1 : Int32)), .val (.int en), .val (.int i0), .val (.int (1 : Int32)), .val (.int ((B i0) &&& (255 : Int32))), .val (.int (4 : Int32)), .val (.int (128 : Int32)), .val (.int (191 : Int32)), .val (.int (3 : Int32)), .val (.int ((B (i0 + (3 : Int32))) &&& (255 : Int32)))] []))
                                  refine own_st (fun t k => XS.iconst X0.here hx rfl (hb hby d1_288) k) ?_
                                  show own_Go p e below G (s₁.setTop (mkF m 289 #[.val (.ref ba), .val (.int (1 : Int32)), .val (.int en), .val (.int i0), .val (.int (1 : Int32)), .val (.int ((B i0) &&& (255 : Int32))), .val (.int (4 : Int32)), .val (.int (128 : Int32)), .val (.int (191 : Int32)), .val (.int (3 : Int32)), .val (.int ((B (i0 + (3 : Int32))) &&& (255 : Int32)))] [(.int (0 : Int32))]))
                                  exact bad289 _ _ _ _ _ _ (show own_vl (B i0 &&& 255) (B (i0 + 1) &&& 255) (B (i0 + 2) &&& 255) (B (i0 + 3) &&& 255) (en - i0) = 0 by unfold own_vl; rw [if_neg c39_3, if_neg c53_4, if_pos c61_5, if_pos c83_6, if_neg c143_7, if_neg c154_8, if_neg c173_19, if_neg c203_30, if_neg c250_32, if_neg c257_33, if_neg c273_35, if_neg c281_36, if_pos c273_38])
                                · skip
                                  refine own_st (fun t k => XS.icmpNo X0.here hx rfl (hb hby d1_273) rfl (flt c273_38).1 k) ?_
                                  show own_Go p e below G (s₁.setTop (mkF m 276 #[.val (.ref ba), .val (.int (1 : Int32)), .val (.int en), .val (.int i0), .val (.int (1 : Int32)), .val (.int ((B i0) &&& (255 : Int32))), .val (.int (4 : Int32)), .val (.int (128 : Int32)), .val (.int (191 : Int32)), .val (.int (3 : Int32)), .val (.int ((B (i0 + (3 : Int32))) &&& (255 : Int32)))] []))
                                  refine own_st (fun t k => XS.iload X0.here hx rfl (hb hby d1_276) rfl  k) ?_
                                  show own_Go p e below G (s₁.setTop (mkF m 278 #[.val (.ref ba), .val (.int (1 : Int32)), .val (.int en), .val (.int i0), .val (.int (1 : Int32)), .val (.int ((B i0) &&& (255 : Int32))), .val (.int (4 : Int32)), .val (.int (128 : Int32)), .val (.int (191 : Int32)), .val (.int (3 : Int32)), .val (.int ((B (i0 + (3 : Int32))) &&& (255 : Int32)))] [(.int ((B (i0 + (3 : Int32))) &&& (255 : Int32)))]))
                                  refine own_st (fun t k => XS.sipush X0.here hx rfl (hb hby d1_278) k) ?_
                                  show own_Go p e below G (s₁.setTop (mkF m 281 #[.val (.ref ba), .val (.int (1 : Int32)), .val (.int en), .val (.int i0), .val (.int (1 : Int32)), .val (.int ((B i0) &&& (255 : Int32))), .val (.int (4 : Int32)), .val (.int (128 : Int32)), .val (.int (191 : Int32)), .val (.int (3 : Int32)), .val (.int ((B (i0 + (3 : Int32))) &&& (255 : Int32)))] [(.int (191 : Int32)), (.int ((B (i0 + (3 : Int32))) &&& (255 : Int32)))]))
                                  by_cases c281_39 : (191 : Int32) < ((B (i0 + (3 : Int32))) &&& (255 : Int32))
                                  · skip
                                    refine own_st (fun t k => XS.icmpYes X0.here hx rfl (pc0 := 281) (pc' := 288) rfl (hb hby d1_281) rfl (tlt c281_39).2.2.1 (by decide) (by decide) k) ?_
                                    show own_Go p e below G (s₁.setTop (mkF m 288 #[.val (.ref ba), .val (.int (1 : Int32)), .val (.int en), .val (.int i0), .val (.int (1 : Int32)), .val (.int ((B i0) &&& (255 : Int32))), .val (.int (4 : Int32)), .val (.int (128 : Int32)), .val (.int (191 : Int32)), .val (.int (3 : Int32)), .val (.int ((B (i0 + (3 : Int32))) &&& (255 : Int32)))] []))
                                    refine own_st (fun t k => XS.iconst X0.here hx rfl (hb hby d1_288) k) ?_
                                    show own_Go p e below G (s₁.setTop (mkF m 289 #[.val (.ref ba), .val (.int (1 : Int32)), .val (.int en), .val (.int i0), .val (.int (1 : Int32)), .val (.int ((B i0) &&& (255 : Int32))), .val (.int (4 : Int32)), .val (.int (128 : Int32)), .val (.int (191 : Int32)), .val (.int (3 : Int32)), .val (.int ((B (i0 + (3 : Int32))) &&& (255 : Int32)))] [(.int (0 : Int32))]))
                                    exact bad289 _ _ _ _ _ _ (show own_vl (B i0 &&& 255) (B (i0 + 1) &&& 255) (B (i0 + 2) &&& 255) (B (i0 + 3) &&& 255) (en - i0) = 0 by unfold own_vl; rw [if_neg c39_3, if_neg c53_4, if_pos c61_5, if_pos c83_6, if_neg c143_7, if_neg c154_8, if_neg c173_19, if_neg c203_30, if_neg c250_32, if_neg c257_33, if_neg c273_35, if_neg c281_36, if_neg c273_38, if_pos c281_39])
                                  · skip
                                    refine own_st (fun t k => XS.icmpNo X0.here hx rfl (hb hby d1_281) rfl (flt c281_39).2.2.1 k) ?_
                                    show own_Go p e below G (s₁.setTop (mkF m 284 #[.val (.ref ba), .val (.int (1 : Int32)), .val (.int en), .val (.int i0), .val (.int (1 : Int32)), .val (.int ((B i0) &&& (255 : Int32))), .val (.int (4 : Int32)), .val (.int (128 : Int32)), .val (.int (191 : Int32)), .val (.int (3 : Int32)), .val (.int ((B (i0 + (3 : Int32))) &&& (255 : Int32)))] []))
                                    refine own_st (fun t k => XS.iconst X0.here hx rfl (hb hby d1_284) k) ?_
                                    show own_Go p e below G (s₁.setTop (mkF m 285 #[.val (.ref ba), .val (.int (1 : Int32)), .val (.int en), .val (.int i0), .val (.int (1 : Int32)), .val (.int ((B i0) &&& (255 : Int32))), .val (.int (4 : Int32)), .val (.int (128 : Int32)), .val (.int (191 : Int32)), .val (.int (3 : Int32)), .val (.int ((B (i0 + (3 : Int32))) &&& (255 : Int32)))] [(.int (1 : Int32))]))
                                    refine own_st (fun t k => XS.goto X0.here hx rfl (pc0 := 285) (pc' := 289) rfl (hb hby d1_285) (by decide) (by decide) k) ?_
                                    show own_Go p e below G (s₁.setTop (mkF m 289 #[.val (.ref ba), .val (.int (1 : Int32)), .val (.int en), .val (.int i0), .val (.int (1 : Int32)), .val (.int ((B i0) &&& (255 : Int32))), .val (.int (4 : Int32)), .val (.int (128 : Int32)), .val (.int (191 : Int32)), .val (.int (3 : Int32)), .val (.int ((B (i0 + (3 : Int32))) &&& (255 : Int32)))] [(.int (1 : Int32))]))
                                    refine own_st (fun t k => XS.istore X0.here hx rfl (hb hby d1_289) rfl (l' := #[.val (.ref ba), .val (.int (1 : Int32)), .val (.int en), .val (.int i0), .val (.int (1 : Int32)), .val (.int ((B i0) &&& (255 : Int32))), .val (.int (4 : Int32)), .val (.int (128 : Int32)), .val (.int (191 : Int32)), .val (.int (3 : Int32)), .val (.int ((B (i0 + (3 : Int32))) &&& (255 : Int32)))]) rfl k) ?_
                                    show own_Go p e below G (s₁.setTop (mkF m 291 #[.val (.ref ba), .val (.int (1 : Int32)), .val (.int en), .val (.int i0), .val (.int (1 : Int32)), .val (.int ((B i0) &&& (255 : Int32))), .val (.int (4 : Int32)), .val (.int (128 : Int32)), .val (.int (191 : Int32)), .val (.int (3 : Int32)), .val (.int ((B (i0 + (3 : Int32))) &&& (255 : Int32)))] []))
                                    refine own_st (fun t k => XS.iinc X0.here hx rfl (hb hby d1_291) rfl (l' := #[.val (.ref ba), .val (.int (1 : Int32)), .val (.int en), .val (.int i0), .val (.int (1 : Int32)), .val (.int ((B i0) &&& (255 : Int32))), .val (.int (4 : Int32)), .val (.int (128 : Int32)), .val (.int (191 : Int32)), .val (.int (4 : Int32)), .val (.int ((B (i0 + (3 : Int32))) &&& (255 : Int32)))]) rfl k) ?_
                                    show own_Go p e below G (s₁.setTop (mkF m 294 #[.val (.ref ba), .val (.int (1 : Int32)), .val (.int en), .val (.int i0), .val (.int (1 : Int32)), .val (.int ((B i0) &&& (255 : Int32))), .val (.int (4 : Int32)), .val (.int (128 : Int32)), .val (.int (191 : Int32)), .val (.int (4 : Int32)), .val (.int ((B (i0 + (3 : Int32))) &&& (255 : Int32)))] []))
                                    refine own_st (fun t k => XS.goto X0.here hx rfl (pc0 := 294) (pc' := 216) rfl (hb hby d1_294) (by decide) (by decide) k) ?_
                                    show own_Go p e below G (s₁.setTop (mkF m 216 #[.val (.ref ba), .val (.int (1 : Int32)), .val (.int en), .val (.int i0), .val (.int (1 : Int32)), .val (.int ((B i0) &&& (255 : Int32))), .val (.int (4 : Int32)), .val (.int (128 : Int32)), .val (.int (191 : Int32)), .val (.int (4 : Int32)), .val (.int ((B (i0 + (3 : Int32))) &&& (255 : Int32)))] []))
                                    refine own_st (fun t k => XS.iload X0.here hx rfl (hb hby d1_216) rfl  k) ?_
                                    show own_Go p e below G (s₁.setTop (mkF m 218 #[.val (.ref ba), .val (.int (1 : Int32)), .val (.int en), .val (.int i0), .val (.int (1 : Int32)), .val (.int ((B i0) &&& (255 : Int32))), .val (.int (4 : Int32)), .val (.int (128 : Int32)), .val (.int (191 : Int32)), .val (.int (4 : Int32)), .val (.int ((B (i0 + (3 : Int32))) &&& (255 : Int32)))] [(.int (1 : Int32))]))
                                    refine own_st (fun t k => XS.ifNo X0.here hx rfl (hb hby d1_218) rfl ((if0 _ _).trans (feq (by decide)).1) k) ?_
                                    show own_Go p e below G (s₁.setTop (mkF m 221 #[.val (.ref ba), .val (.int (1 : Int32)), .val (.int en), .val (.int i0), .val (.int (1 : Int32)), .val (.int ((B i0) &&& (255 : Int32))), .val (.int (4 : Int32)), .val (.int (128 : Int32)), .val (.int (191 : Int32)), .val (.int (4 : Int32)), .val (.int ((B (i0 + (3 : Int32))) &&& (255 : Int32)))] []))
                                    refine own_st (fun t k => XS.iload X0.here hx rfl (hb hby d1_221) rfl  k) ?_
                                    show own_Go p e below G (s₁.setTop (mkF m 223 #[.val (.ref ba), .val (.int (1 : Int32)), .val (.int en), .val (.int i0), .val (.int (1 : Int32)), .val (.int ((B i0) &&& (255 : Int32))), .val (.int (4 : Int32)), .val (.int (128 : Int32)), .val (.int (191 : Int32)), .val (.int (4 : Int32)), .val (.int ((B (i0 + (3 : Int32))) &&& (255 : Int32)))] [(.int (4 : Int32))]))
                                    refine own_st (fun t k => XS.iload X0.here hx rfl (hb hby d1_223) rfl  k) ?_
                                    show own_Go p e below G (s₁.setTop (mkF m 225 #[.val (.ref ba), .val (.int (1 : Int32)), .val (.int en), .val (.int i0), .val (.int (1 : Int32)), .val (.int ((B i0) &&& (255 : Int32))), .val (.int (4 : Int32)), .val (.int (128 : Int32)), .val (.int (191 : Int32)), .val (.int (4 : Int32)), .val (.int ((B (i0 + (3 : Int32))) &&& (255 : Int32)))] [(.int (4 : Int32)), (.int (4 : Int32))]))
                                    refine own_st (fun t k => XS.icmpYes X0.here hx rfl (pc0 := 225) (pc' := 297) rfl (hb hby d1_225) rfl (flt (by decide)).2.1 (by decide) (by decide) k) ?_
                                    show own_Go p e below G (s₁.setTop (mkF m 297 #[.val (.ref ba), .val (.int (1 : Int32)), .val (.int en), .val (.int i0), .val (.int (1 : Int32)), .val (.int ((B i0) &&& (255 : Int32))), .val (.int (4 : Int32)), .val (.int (128 : Int32)), .val (.int (191 : Int32)), .val (.int (4 : Int32)), .val (.int ((B (i0 + (3 : Int32))) &&& (255 : Int32)))] []))
                                    refine own_st (fun t k => XS.iloadN X0.here hx rfl (hb hby d1_297) rfl  k) ?_
                                    show own_Go p e below G (s₁.setTop (mkF m 298 #[.val (.ref ba), .val (.int (1 : Int32)), .val (.int en), .val (.int i0), .val (.int (1 : Int32)), .val (.int ((B i0) &&& (255 : Int32))), .val (.int (4 : Int32)), .val (.int (128 : Int32)), .val (.int (191 : Int32)), .val (.int (4 : Int32)), .val (.int ((B (i0 + (3 : Int32))) &&& (255 : Int32)))] [(.int i0)]))
                                    refine own_st (fun t k => XS.iload X0.here hx rfl (hb hby d1_298) rfl  k) ?_
                                    show own_Go p e below G (s₁.setTop (mkF m 300 #[.val (.ref ba), .val (.int (1 : Int32)), .val (.int en), .val (.int i0), .val (.int (1 : Int32)), .val (.int ((B i0) &&& (255 : Int32))), .val (.int (4 : Int32)), .val (.int (128 : Int32)), .val (.int (191 : Int32)), .val (.int (4 : Int32)), .val (.int ((B (i0 + (3 : Int32))) &&& (255 : Int32)))] [(.int (4 : Int32)), (.int i0)]))
                                    refine own_st (fun t k => XS.iadd X0.here hx rfl (hb hby d1_300) rfl k) ?_
                                    show own_Go p e below G (s₁.setTop (mkF m 301 #[.val (.ref ba), .val (.int (1 : Int32)), .val (.int en), .val (.int i0), .val (.int (1 : Int32)), .val (.int ((B i0) &&& (255 : Int32))), .val (.int (4 : Int32)), .val (.int (128 : Int32)), .val (.int (191 : Int32)), .val (.int (4 : Int32)), .val (.int ((B (i0 + (3 : Int32))) &&& (255 : Int32)))] [(.int (i0 + (4 : Int32)))]))
                                    refine own_st (fun t k => XS.istoreN X0.here hx rfl (hb hby d1_301) rfl (l' := #[.val (.ref ba), .val (.int (1 : Int32)), .val (.int en), .val (.int (i0 + (4 : Int32))), .val (.int (1 : Int32)), .val (.int ((B i0) &&& (255 : Int32))), .val (.int (4 : Int32)), .val (.int (128 : Int32)), .val (.int (191 : Int32)), .val (.int (4 : Int32)), .val (.int ((B (i0 + (3 : Int32))) &&& (255 : Int32)))]) rfl k) ?_
                                    show own_Go p e below G (s₁.setTop (mkF m 302 #[.val (.ref ba), .val (.int (1 : Int32)), .val (.int en), .val (.int (i0 + (4 : Int32))), .val (.int (1 : Int32)), .val (.int ((B i0) &&& (255 : Int32))), .val (.int (4 : Int32)), .val (.int (128 : Int32)), .val (.int (191 : Int32)), .val (.int (4 : Int32)), .val (.int ((B (i0 + (3 : Int32))) &&& (255 : Int32)))] []))
                                    refine own_st (fun t k => XS.goto X0.here hx rfl (pc0 := 302) (pc' := 5) rfl (hb hby d1_302) (by decide) (by decide) k) ?_
                                    show own_Go p e below G (s₁.setTop (mkF m 5 #[.val (.ref ba), .val (.int (1 : Int32)), .val (.int en), .val (.int (i0 + (4 : Int32))), .val (.int (1 : Int32)), .val (.int ((B i0) &&& (255 : Int32))), .val (.int (4 : Int32)), .val (.int (128 : Int32)), .val (.int (191 : Int32)), .val (.int (4 : Int32)), .val (.int ((B (i0 + (3 : Int32))) &&& (255 : Int32)))] []))
                                    have hn := own_in (len := (4 : Int32)) (j := ((4 : Int32) - 1)) hi0 c12_1 he.2 c203_30 (by decide) (by decide) (by decide)
                                    have ha := own_add (i := i0) (j := (4 : Int32)) hi0 (Int.le_of_lt (Int.lt_of_lt_of_le (Int32.lt_iff_toInt_lt.mp c12_1) he.2)) (by decide) (by decide)
                                    have hc := own_add (i := i0) (j := ((4 : Int32) - 1)) hi0 (Int.le_of_lt (Int.lt_of_lt_of_le (Int32.lt_iff_toInt_lt.mp c12_1) he.2)) (by decide) (by decide)
                                    rw [hc] at hn
                                    have z1 : (((4 : Int32) - 1) : Int32).toInt = 3 := by decide
                                    have z2 : ((4 : Int32)).toInt = 4 := by decide
                                    exact ih (i0 + (4 : Int32)) _ _ _ _ _ _ (One.val rfl) (One.val rfl) (One.val rfl) (One.val rfl) (One.val rfl) (One.val rfl) (by omega) (by omega) (by omega) (heq.trans (own_vrN c12_1 (show own_vl (B i0 &&& 255) (B (i0 + 1) &&& 255) (B (i0 + 2) &&& 255) (B (i0 + 3) &&& 255) (en - i0) = (4 : Int32) by unfold own_vl; rw [if_neg c39_3, if_neg c53_4, if_pos c61_5, if_pos c83_6, if_neg c143_7, if_neg c154_8, if_neg c173_19, if_neg c203_30, if_neg c250_32, if_neg c257_33, if_neg c273_35, if_neg c281_36, if_neg c273_38, if_neg c281_39]) (by decide)))
              · skip
                refine own_st (fun t k => XS.icmpNo X0.here hx rfl (hb hby d1_83) rfl (flt c83_6).2.2.1 k) ?_
                show own_Go p e below G (s₁.setTop (mkF m 86 #[.val (.ref ba), .val (.int (1 : Int32)), .val (.int en), .val (.int i0), .val (.int (1 : Int32)), .val (.int ((B i0) &&& (255 : Int32))), s6, .val (.int (128 : Int32)), .val (.int (191 : Int32)), s9, s10] []))
                refine own_st (fun t k => XS.iconst X0.here hx rfl (hb hby d1_86) k) ?_
                show own_Go p e below G (s₁.setTop (mkF m 87 #[.val (.ref ba), .val (.int (1 : Int32)), .val (.int en), .val (.int i0), .val (.int (1 : Int32)), .val (.int ((B i0) &&& (255 : Int32))), s6, .val (.int (128 : Int32)), .val (.int (191 : Int32)), s9, s10] [(.int (3 : Int32))]))
                refine own_st (fun t k => XS.istore X0.here hx rfl (hb hby d1_87) rfl (l' := #[.val (.ref ba), .val (.int (1 : Int32)), .val (.int en), .val (.int i0), .val (.int (1 : Int32)), .val (.int ((B i0) &&& (255 : Int32))), .val (.int (3 : Int32)), .val (.int (128 : Int32)), .val (.int (191 : Int32)), s9, s10]) (XS.store1 rfl hs6 rfl) k) ?_
                show own_Go p e below G (s₁.setTop (mkF m 89 #[.val (.ref ba), .val (.int (1 : Int32)), .val (.int en), .val (.int i0), .val (.int (1 : Int32)), .val (.int ((B i0) &&& (255 : Int32))), .val (.int (3 : Int32)), .val (.int (128 : Int32)), .val (.int (191 : Int32)), s9, s10] []))
                refine own_st (fun t k => XS.iload X0.here hx rfl (hb hby d1_89) rfl  k) ?_
                show own_Go p e below G (s₁.setTop (mkF m 91 #[.val (.ref ba), .val (.int (1 : Int32)), .val (.int en), .val (.int i0), .val (.int (1 : Int32)), .val (.int ((B i0) &&& (255 : Int32))), .val (.int (3 : Int32)), .val (.int (128 : Int32)), .val (.int (191 : Int32)), s9, s10] [(.int ((B i0) &&& (255 : Int32)))]))
                refine own_st (fun t k => XS.sipush X0.here hx rfl (hb hby d1_91) k) ?_
                show own_Go p e below G (s₁.setTop (mkF m 94 #[.val (.ref ba), .val (.int (1 : Int32)), .val (.int en), .val (.int i0), .val (.int (1 : Int32)), .val (.int ((B i0) &&& (255 : Int32))), .val (.int (3 : Int32)), .val (.int (128 : Int32)), .val (.int (191 : Int32)), s9, s10] [(.int (224 : Int32)), (.int ((B i0) &&& (255 : Int32)))]))
                by_cases c94_40 : ((B i0) &&& (255 : Int32)) = (224 : Int32)
                · skip
                  refine own_st (fun t k => XS.icmpNo X0.here hx rfl (hb hby d1_94) rfl (teq c94_40).2 k) ?_
                  show own_Go p e below G (s₁.setTop (mkF m 97 #[.val (.ref ba), .val (.int (1 : Int32)), .val (.int en), .val (.int i0), .val (.int (1 : Int32)), .val (.int ((B i0) &&& (255 : Int32))), .val (.int (3 : Int32)), .val (.int (128 : Int32)), .val (.int (191 : Int32)), s9, s10] []))
                  refine own_st (fun t k => XS.sipush X0.here hx rfl (hb hby d1_97) k) ?_
                  show own_Go p e below G (s₁.setTop (mkF m 100 #[.val (.ref ba), .val (.int (1 : Int32)), .val (.int en), .val (.int i0), .val (.int (1 : Int32)), .val (.int ((B i0) &&& (255 : Int32))), .val (.int (3 : Int32)), .val (.int (128 : Int32)), .val (.int (191 : Int32)), s9, s10] [(.int (160 : Int32))]))
                  refine own_st (fun t k => XS.goto X0.here hx rfl (pc0 := 100) (pc' := 106) rfl (hb hby d1_100) (by decide) (by decide) k) ?_
                  show own_Go p e below G (s₁.setTop (mkF m 106 #[.val (.ref ba), .val (.int (1 : Int32)), .val (.int en), .val (.int i0), .val (.int (1 : Int32)), .val (.int ((B i0) &&& (255 : Int32))), .val (.int (3 : Int32)), .val (.int (128 : Int32)), .val (.int (191 : Int32)), s9, s10] [(.int (160 : Int32))]))
                  refine own_st (fun t k => XS.istore X0.here hx rfl (hb hby d1_106) rfl (l' := #[.val (.ref ba), .val (.int (1 : Int32)), .val (.int en), .val (.int i0), .val (.int (1 : Int32)), .val (.int ((B i0) &&& (255 : Int32))), .val (.int (3 : Int32)), .val (.int (160 : Int32)), .val (.int (191 : Int32)), s9, s10]) rfl k) ?_
                  show own_Go p e below G (s₁.setTop (mkF m 108 #[.val (.ref ba), .val (.int (1 : Int32)), .val (.int en), .val (.int i0), .val (.int (1 : Int32)), .val (.int ((B i0) &&& (255 : Int32))), .val (.int (3 : Int32)), .val (.int (160 : Int32)), .val (.int (191 : Int32)), s9, s10] []))
                  refine own_st (fun t k => XS.iload X0.here hx rfl (hb hby d1_108) rfl  k) ?_
                  show own_Go p e below G (s₁.setTop (mkF m 110 #[.val (.ref ba), .val (.int (1 : Int32)), .val (.int en), .val (.int i0), .val (.int (1 : Int32)), .val (.int ((B i0) &&& (255 : Int32))), .val (.int (3 : Int32)), .val (.int (160 : Int32)), .val (.int (191 : Int32)), s9, s10] [(.int ((B i0) &&& (255 : Int32)))]))
                  refine own_st (fun t k => XS.sipush X0.here hx rfl (hb hby d1_110) k) ?_
                  show own_Go p e below G (s₁.setTop (mkF m 113 #[.val (.ref ba), .val (.int (1 : Int32)), .val (.int en), .val (.int i0), .val (.int (1 : Int32)), .val (.int ((B i0) &&& (255 : Int32))), .val (.int (3 : Int32)), .val (.int (160 : Int32)), .val (.int (191 : Int32)), s9, s10] [(.int (237 : Int32)), (.int ((B i0) &&& (255 : Int32)))]))
                  refine own_st (fun t k => XS.icmpYes X0.here hx rfl (pc0 := 113) (pc' := 122) rfl (hb hby d1_113) rfl (feq (fun q => absurd (c94_40.symm.trans q) (by decide))).2 (by decide) (by decide) k) ?_
                  show own_Go p e below G (s₁.setTop (mkF m 122 #[.val (.ref ba), .val (.int (1 : Int32)), .val (.int en), .val (.int i0), .val (.int (1 : Int32)), .val (.int ((B i0) &&& (255 : Int32))), .val (.int (3 : Int32)), .val (.int (160 : Int32)), .val (.int (191 : Int32)), s9, s10] []))
                  refine own_st (fun t k => XS.sipush X0.here hx rfl (hb hby d1_122) k) ?_
                  show own_Go p e below G (s₁.setTop (mkF m 125 #[.val (.ref ba), .val (.int (1 : Int32)), .val (.int en), .val (.int i0), .val (.int (1 : Int32)), .val (.int ((B i0) &&& (255 : Int32))), .val (.int (3 : Int32)), .val (.int (160 : Int32)), .val (.int (191 : Int32)), s9, s10] [(.int (191 : Int32))]))
                  refine own_st (fun t k => XS.istore X0.here hx rfl (hb hby d1_125) rfl (l' := #[.val (.ref ba), .val (.int (1 : Int32)), .val (.int en), .val (.int i0), .val (.int (1 : Int32)), .val (.int ((B i0) &&& (255 : Int32))), .val (.int (3 : Int32)), .val (.int (160 : Int32)), .val (.int (191 : Int32)), s9, s10]) rfl k) ?_
                  show own_Go p e below G (s₁.setTop (mkF m 127 #[.val (.ref ba), .val (.int (1 : Int32)), .val (.int en), .val (.int i0), .val (.int (1 : Int32)), .val (.int ((B i0) &&& (255 : Int32))), .val (.int (3 : Int32)), .val (.int (160 : Int32)), .val (.int (191 : Int32)), s9, s10] []))
                  refine own_st (fun t k => XS.goto X0.here hx rfl (pc0 := 127) (pc' := 193) rfl (hb hby d1_127) (by decide) (by decide) k) ?_
                  show own_Go p e below G (s₁.setTop (mkF m 193 #[.val (.ref ba), .val (.int (1 : Int32)), .val (.int en), .val (.int i0), .val (.int (1 : Int32)), .val (.int ((B i0) &&& (255 : Int32))), .val (.int (3 : Int32)), .val (.int (160 : Int32)), .val (.int (191 : Int32)), s9, s10] []))
                  refine own_st (fun t k => XS.iload X0.here hx rfl (hb hby d1_193) rfl  k) ?_
                  show own_Go p e below G (s₁.setTop (mkF m 195 #[.val (.ref ba), .val (.int (1 : Int32)), .val (.int en), .val (.int i0), .val (.int (1 : Int32)), .val (.int ((B i0) &&& (255 : Int32))), .val (.int (3 : Int32)), .val (.int (160 : Int32)), .val (.int (191 : Int32)), s9, s10] [(.int (3 : Int32))]))
                  refine own_st (fun t k => XS.ifNo X0.here hx rfl (hb hby d1_195) rfl ((if0 _ _).trans (tlt (by decide)).2.2.2) k) ?_
                  show own_Go p e below G (s₁.setTop (mkF m 198 #[.val (.ref ba), .val (.int (1 : Int32)), .val (.int en), .val (.int i0), .val (.int (1 : Int32)), .val (.int ((B i0) &&& (255 : Int32))), .val (.int (3 : Int32)), .val (.int (160 : Int32)), .val (.int (191 : Int32)), s9, s10] []))
                  refine own_st (fun t k => XS.iloadN X0.here hx rfl (hb hby d1_198) rfl  k) ?_
                  show own_Go p e below G (s₁.setTop (mkF m 199 #[.val (.ref ba), .val (.int (1 : Int32)), .val (.int en), .val (.int i0), .val (.int (1 : Int32)), .val (.int ((B i0) &&& (255 : Int32))), .val (.int (3 : Int32)), .val (.int (160 : Int32)), .val (.int (191 : Int32)), s9, s10] [(.int en)]))
                  refine own_st (fun t k => XS.iloadN X0.here hx rfl (hb hby d1_199) rfl  k) ?_
                  show own_Go p e below G (s₁.setTop (mkF m 200 #[.val (.ref ba), .val (.int (1 : Int32)), .val (.int en), .val (.int i0), .val (.int (1 : Int32)), .val (.int ((B i0) &&& (255 : Int32))), .val (.int (3 : Int32)), .val (.int (160 : Int32)), .val (.int (191 : Int32)), s9, s10] [(.int i0), (.int en)]))
                  refine own_st (fun t k => XS.isub X0.here hx rfl (hb hby d1_200) rfl k) ?_
                  show own_Go p e below G (s₁.setTop (mkF m 201 #[.val (.ref ba), .val (.int (1 : Int32)), .val (.int en), .val (.int i0), .val (.int (1 : Int32)), .val (.int ((B i0) &&& (255 : Int32))), .val (.int (3 : Int32)), .val (.int (160 : Int32)), .val (.int (191 : Int32)), s9, s10] [(.int (en - i0))]))
                  refine own_st (fun t k => XS.iload X0.here hx rfl (hb hby d1_201) rfl  k) ?_
                  show own_Go p e below G (s₁.setTop (mkF m 203 #[.val (.ref ba), .val (.int (1 : Int32)), .val (.int en), .val (.int i0), .val (.int (1 : Int32)), .val (.int ((B i0) &&& (255 : Int32))), .val (.int (3 : Int32)), .val (.int (160 : Int32)), .val (.int (191 : Int32)), s9, s10] [(.int (3 : Int32)), (.int (en - i0))]))
                  by_cases c203_41 : (en - i0) < (3 : Int32)
                  · skip
                    refine own_st (fun t k => XS.icmpYes X0.here hx rfl (pc0 := 203) (pc' := 210) rfl (hb hby d1_203) rfl (tlt c203_41).1 (by decide) (by decide) k) ?_
                    show own_Go p e below G (s₁.setTop (mkF m 210 #[.val (.ref ba), .val (.int (1 : Int32)), .val (.int en), .val (.int i0), .val (.int (1 : Int32)), .val (.int ((B i0) &&& (255 : Int32))), .val (.int (3 : Int32)), .val (.int (160 : Int32)), .val (.int (191 : Int32)), s9, s10] []))
                    refine own_st (fun t k => XS.iconst X0.here hx rfl (hb hby d1_210) k) ?_
                    show own_Go p e below G (s₁.setTop (mkF m 211 #[.val (.ref ba), .val (.int (1 : Int32)), .val (.int en), .val (.int i0), .val (.int (1 : Int32)), .val (.int ((B i0) &&& (255 : Int32))), .val (.int (3 : Int32)), .val (.int (160 : Int32)), .val (.int (191 : Int32)), s9, s10] [(.int (0 : Int32))]))
                    exact bad211 _ _ _ _ _ _ hs9 (show own_vl (B i0 &&& 255) (B (i0 + 1) &&& 255) (B (i0 + 2) &&& 255) (B (i0 + 3) &&& 255) (en - i0) = 0 by unfold own_vl; rw [if_neg c39_3, if_neg c53_4, if_pos c61_5, if_neg c83_6, if_pos c94_40, if_neg (show ¬ (B i0 &&& 255) = 237 from fun q => absurd (c94_40.symm.trans q) (by decide)), if_pos c203_41])
                  · skip
                    refine own_st (fun t k => XS.icmpNo X0.here hx rfl (hb hby d1_203) rfl (flt c203_41).1 k) ?_
                    show own_Go p e below G (s₁.setTop (mkF m 206 #[.val (.ref ba), .val (.int (1 : Int32)), .val (.int en), .val (.int i0), .val (.int (1 : Int32)), .val (.int ((B i0) &&& (255 : Int32))), .val (.int (3 : Int32)), .val (.int (160 : Int32)), .val (.int (191 : Int32)), s9, s10] []))
                    refine own_st (fun t k => XS.iconst X0.here hx rfl (hb hby d1_206) k) ?_
                    show own_Go p e below G (s₁.setTop (mkF m 207 #[.val (.ref ba), .val (.int (1 : Int32)), .val (.int en), .val (.int i0), .val (.int (1 : Int32)), .val (.int ((B i0) &&& (255 : Int32))), .val (.int (3 : Int32)), .val (.int (160 : Int32)), .val (.int (191 : Int32)), s9, s10] [(.int (1 : Int32))]))
                    refine own_st (fun t k => XS.goto X0.here hx rfl (pc0 := 207) (pc' := 211) rfl (hb hby d1_207) (by decide) (by decide) k) ?_
                    show own_Go p e below G (s₁.setTop (mkF m 211 #[.val (.ref ba), .val (.int (1 : Int32)), .val (.int en), .val (.int i0), .val (.int (1 : Int32)), .val (.int ((B i0) &&& (255 : Int32))), .val (.int (3 : Int32)), .val (.int (160 : Int32)), .val (.int (191 : Int32)), s9, s10] [(.int (1 : Int32))]))
                    refine own_st (fun t k => XS.istore X0.here hx rfl (hb hby d1_211) rfl (l' := #[.val (.ref ba), .val (.int (1 : Int32)), .val (.int en), .val (.int i0), .val (.int (1 : Int32)), .val (.int ((B i0) &&& (255 : Int32))), .val (.int (3 : Int32)), .val (.int (160 : Int32)), .val (.int (191 : Int32)), s9, s10]) rfl k) ?_
                    show own_Go p e below G (s₁.setTop (mkF m 213 #[.val (.ref ba), .val (.int (1 : Int32)), .val (.int en), .val (.int i0), .val (.int (1 : Int32)), .val (.int ((B i0) &&& (255 : Int32))), .val (.int (3 : Int32)), .val (.int (160 : Int32)), .val (.int (191 : Int32)), s9, s10] []))
                    refine own_st (fun t k => XS.iconst X0.here hx rfl (hb hby d1_213) k) ?_
                    show own_Go p e below G (s₁.setTop (mkF m 214 #[.val (.ref ba), .val (.int (1 : Int32)), .val (.int en), .val (.int i0), .val (.int (1 : Int32)), .val (.int ((B i0) &&& (255 : Int32))), .val (.int (3 : Int32)), .val (.int (160 : Int32)), .val (.int (191 : Int32)), s9, s10] [(.int (1 : Int32))]))
                    refine own_st (fun t k => XS.istore X0.here hx rfl (hb hby d1_214) rfl (l' := #[.val (.ref ba), .val (.int (1 : Int32)), .val (.int en), .val (.int i0), .val (.int (1 : Int32)), .val (.int ((B i0) &&& (255 : Int32))), .val (.int (3 : Int32)), .val (.int (160 : Int32)), .val (.int (191 : Int32)), .val (.int (1 : Int32)), s10]) (XS.store1 rfl hs9 rfl) k) ?_
                    show own_Go p e below G (s₁.setTop (mkF m 216 #[.val (.ref ba), .val (.int (1 : Int32)), .val (.int en), .val (.int i0), .val (.int (1 : Int32)), .val (.int ((B i0) &&& (255 : Int32))), .val (.int (3 : Int32)), .val (.int (160 : Int32)), .val (.int (191 : Int32)), .val (.int (1 : Int32)), s10] []))
                    refine own_st (fun t k => XS.iload X0.here hx rfl (hb hby d1_216) rfl  k) ?_
                    show own_Go p e below G (s₁.setTop (mkF m 218 #[.val (.ref ba), .val (.int (1 : Int32)), .val (.int en), .val (.int i0), .val (.int (1 : Int32)), .val (.int ((B i0) &&& (255 : Int32))), .val (.int (3 : Int32)), .val (.int (160 : Int32)), .val (.int (191 : Int32)), .val (.int (1 : Int32)), s10] [(.int (1 : Int32))]))
                    refine own_st (fun t k => XS.ifNo X0.here hx rfl (hb hby d1_218) rfl ((if0 _ _).trans (feq (by decide)).1) k) ?_
                    show own_Go p e below G (s₁.setTop (mkF m 221 #[.val (.ref ba), .val (.int (1 : Int32)), .val (.int en), .val (.int i0), .val (.int (1 : Int32)), .val (.int ((B i0) &&& (255 : Int32))), .val (.int (3 : Int32)), .val (.int (160 : Int32)), .val (.int (191 : Int32)), .val (.int (1 : Int32)), s10] []))
                    refine own_st (fun t k => XS.iload X0.here hx rfl (hb hby d1_221) rfl  k) ?_
                    show own_Go p e below G (s₁.setTop (mkF m 223 #[.val (.ref ba), .val (.int (1 : Int32)), .val (.int en), .val (.int i0), .val (.int (1 : Int32)), .val (.int ((B i0) &&& (255 : Int32))), .val (.int (3 : Int32)), .val (.int (160 : Int32)), .val (.int (191 : Int32)), .val (.int (1 : Int32)), s10] [(.int (1 : Int32))]))
                    refine own_st (fun t k => XS.iload X0.here hx rfl (hb hby d1_223) rfl  k) ?_
                    show own_Go p e below G (s₁.setTop (mkF m 225 #[.val (.ref ba), .val (.int (1 : Int32)), .val (.int en), .val (.int i0), .val (.int (1 : Int32)), .val (.int ((B i0) &&& (255 : Int32))), .val (.int (3 : Int32)), .val (.int (160 : Int32)), .val (.int (191 : Int32)), .val (.int (1 : Int32)), s10] [(.int (3 : Int32)), (.int (1 : Int32))]))
                    refine own_st (fun t k => XS.icmpNo X0.here hx rfl (hb hby d1_225) rfl (tlt (by decide)).2.1 k) ?_
                    show own_Go p e below G (s₁.setTop (mkF m 228 #[.val (.ref ba), .val (.int (1 : Int32)), .val (.int en), .val (.int i0), .val (.int (1 : Int32)), .val (.int ((B i0) &&& (255 : Int32))), .val (.int (3 : Int32)), .val (.int (160 : Int32)), .val (.int (191 : Int32)), .val (.int (1 : Int32)), s10] []))
                    refine own_st (fun t k => XS.aloadN X0.here hx rfl (hb hby d1_228) rfl rfl  k) ?_
                    show own_Go p e below G (s₁.setTop (mkF m 229 #[.val (.ref ba), .val (.int (1 : Int32)), .val (.int en), .val (.int i0), .val (.int (1 : Int32)), .val (.int ((B i0) &&& (255 : Int32))), .val (.int (3 : Int32)), .val (.int (160 : Int32)), .val (.int (191 : Int32)), .val (.int (1 : Int32)), s10] [(.ref ba)]))
                    refine own_st (fun t k => XS.iloadN X0.here hx rfl (hb hby d1_229) rfl  k) ?_
                    show own_Go p e below G (s₁.setTop (mkF m 230 #[.val (.ref ba), .val (.int (1 : Int32)), .val (.int en), .val (.int i0), .val (.int (1 : Int32)), .val (.int ((B i0) &&& (255 : Int32))), .val (.int (3 : Int32)), .val (.int (160 : Int32)), .val (.int (191 : Int32)), .val (.int (1 : Int32)), s10] [(.int i0), (.ref ba)]))
                    refine own_st (fun t k => XS.iload X0.here hx rfl (hb hby d1_230) rfl  k) ?_
                    show own_Go p e below G (s₁.setTop (mkF m 232 #[.val (.ref ba), .val (.int (1 : Int32)), .val (.int en), .val (.int i0), .val (.int (1 : Int32)), .val (.int ((B i0) &&& (255 : Int32))), .val (.int (3 : Int32)), .val (.int (160 : Int32)), .val (.int (191 : Int32)), .val (.int (1 : Int32)), s10] [(.int (1 : Int32)), (.int i0), (.ref ba)]))
                    refine own_st (fun t k => XS.iadd X0.here hx rfl (hb hby d1_232) rfl k) ?_
                    show own_Go p e below G (s₁.setTop (mkF m 233 #[.val (.ref ba), .val (.int (1 : Int32)), .val (.int en), .val (.int i0), .val (.int (1 : Int32)), .val (.int ((B i0) &&& (255 : Int32))), .val (.int (3 : Int32)), .val (.int (160 : Int32)), .val (.int (191 : Int32)), .val (.int (1 : Int32)), s10] [(.int (i0 + (1 : Int32))), (.ref ba)]))
                    have hb42 := own_bd (n := 6) (own_in hi0 c12_1 he.2 c203_41 (j := (1 : Int32)) (by decide) (by decide) (by decide)) (Int.le_trans he.2 (by decide))
                    have hin42 := inb_of S0 hb42
                    refine own_st (fun t k => X0.baloadBytes hx (j := (i0 + (1 : Int32))) (v := (.int (B (i0 + (1 : Int32))))) (by rw [e0]; exact Ar0.1) (State.isArrayOf_alike hZ.alike Ar0.2.1) Ar0.2.2 hin42 (hB _ hb42.1 hb42.2) (g := (mkF m 233 #[.val (.ref ba), .val (.int (1 : Int32)), .val (.int en), .val (.int i0), .val (.int (1 : Int32)), .val (.int ((B i0) &&& (255 : Int32))), .val (.int (3 : Int32)), .val (.int (160 : Int32)), .val (.int (191 : Int32)), .val (.int (1 : Int32)), s10] [(.int (i0 + (1 : Int32))), (.ref ba)])) rfl rfl (hb hby d1_233) t k) ?_
                    show own_Go p e below G (s₁.setTop (mkF m 234 #[.val (.ref ba), .val (.int (1 : Int32)), .val (.int en), .val (.int i0), .val (.int (1 : Int32)), .val (.int ((B i0) &&& (255 : Int32))), .val (.int (3 : Int32)), .val (.int (160 : Int32)), .val (.int (191 : Int32)), .val (.int (1 : Int32)), s10] [(.int (B (i0 + (1 : Int32))))]))
                    refine own_st (fun t k => XS.sipush X0.here hx rfl (hb hby d1_234) k) ?_
                    show own_Go p e below G (s₁.setTop (mkF m 237 #[.val (.ref ba), .val (.int (1 : Int32)), .val (.int en), .val (.int i0), .val (.int (1 : Int32)), .val (.int ((B i0) &&& (255 : Int32))), .val (.int (3 : Int32)), .val (.int (160 : Int32)), .val (.int (191 : Int32)), .val (.int (1 : Int32)), s10] [(.int (255 : Int32)), (.int (B (i0 + (1 : Int32))))]))
                    refine own_st (fun t k => XS.iand X0.here hx rfl (hb hby d1_237) rfl k) ?_
                    show own_Go p e below G (s₁.setTop (mkF m 238 #[.val (.ref ba), .val (.int (1 : Int32)), .val (.int en), .val (.int i0), .val (.int (1 : Int32)), .val (.int ((B i0) &&& (255 : Int32))), .val (.int (3 : Int32)), .val (.int (160 : Int32)), .val (.int (191 : Int32)), .val (.int (1 : Int32)), s10] [(.int ((B (i0 + (1 : Int32))) &&& (255 : Int32)))]))
                    refine own_st (fun t k => XS.istore X0.here hx rfl (hb hby d1_238) rfl (l' := #[.val (.ref ba), .val (.int (1 : Int32)), .val (.int en), .val (.int i0), .val (.int (1 : Int32)), .val (.int ((B i0) &&& (255 : Int32))), .val (.int (3 : Int32)), .val (.int (160 : Int32)), .val (.int (191 : Int32)), .val (.int (1 : Int32)), .val (.int ((B (i0 + (1 : Int32))) &&& (255 : Int32)))]) (XS.store1 rfl hs10 rfl) k) ?_
                    show own_Go p e below G (s₁.setTop (mkF m 240 #[.val (.ref ba), .val (.int (1 : Int32)), .val (.int en), .val (.int i0), .val (.int (1 : Int32)), .val (.int ((B i0) &&& (255 : Int32))), .val (.int (3 : Int32)), .val (.int (160 : Int32)), .val (.int (191 : Int32)), .val (.int (1 : Int32)), .val (.int ((B (i0 + (1 : Int32))) &&& (255 : Int32)))] []))
                    refine own_st (fun t k => XS.iload X0.here hx rfl (hb hby d1_240) rfl  k) ?_
                    show own_Go p e below G (s₁.setTop (mkF m 242 #[.val (.ref ba), .val (.int (1 : Int32)), .val (.int en), .val (.int i0), .val (.int (1 : Int32)), .val (.int ((B i0) &&& (255 : Int32))), .val (.int (3 : Int32)), .val (.int (160 : Int32)), .val (.int (191 : Int32)), .val (.int (1 : Int32)), .val (.int ((B (i0 + (1 : Int32))) &&& (255 : Int32)))] [(.int (1 : Int32))]))
                    refine own_st (fun t k => XS.iconst X0.here hx rfl (hb hby d1_242) k) ?_
                    show own_Go p e below G (s₁.setTop (mkF m 243 #[.val (.ref ba), .val (.int (1 : Int32)), .val (.int en), .val (.int i0), .val (.int (1 : Int32)), .val (.int ((B i0) &&& (255 : Int32))), .val (.int (3 : Int32)), .val (.int (160 : Int32)), .val (.int (191 : Int32)), .val (.int (1 : Int32)), .val (.int ((B (i0 + (1 : Int32))) &&& (255 : Int32)))] [(.int (1 : Int32)), (.int (1 : Int32))]))
                    refine own_st (fun t k => XS.icmpNo X0.here hx rfl (hb hby d1_243) rfl (teq (by decide)).2 k) ?_
                    show own_Go p e below G (s₁.setTop (mkF m 246 #[.val (.ref ba), .val (.int (1 : Int32)), .val (.int en), .val (.int i0), .val (.int (1 : Int32)), .val (.int ((B i0) &&& (255 : Int32))), .val (.int (3 : Int32)), .val (.int (160 : Int32)), .val (.int (191 : Int32)), .val (.int (1 : Int32)), .val (.int ((B (i0 + (1 : Int32))) &&& (255 : Int32)))] []))
                    refine own_st (fun t k => XS.iload X0.here hx rfl (hb hby d1_246) rfl  k) ?_
                    show own_Go p e below G (s₁.setTop (mkF m 248 #[.val (.ref ba), .val (.int (1 : Int32)), .val (.int en), .val (.int i0), .val (.int (1 : Int32)), .val (.int ((B i0) &&& (255 : Int32))), .val (.int (3 : Int32)), .val (.int (160 : Int32)), .val (.int (191 : Int32)), .val (.int (1 : Int32)), .val (.int ((B (i0 + (1 : Int32))) &&& (255 : Int32)))] [(.int ((B (i0 + (1 : Int32))) &&& (255 : Int32)))]))
                    refine own_st (fun t k => XS.iload X0.here hx rfl (hb hby d1_248) rfl  k) ?_
                    show own_Go p e below G (s₁.setTop (mkF m 250 #[.val (.ref ba), .val (.int (1 : Int32)), .val (.int en), .val (.int i0), .val (.int (1 : Int32)), .val (.int ((B i0) &&& (255 : Int32))), .val (.int (3 : Int32)), .val (.int (160 : Int32)), .val (.int (191 : Int32)), .val (.int (1 : Int32)), .val (.int ((B (i0 + (1 : Int32))) &&& (255 : Int32)))] [(.int (160 : Int32)), (.int ((B (i0 + (1 : Int32))) &&& (255 : Int32)))]))
                    by_cases c250_43 : ((B (i0 + (1 : Int32))) &&& (255 : Int32)) < (160 : Int32)
                    · skip
                      refine own_st (fun t k => XS.icmpYes X0.here hx rfl (pc0 := 250) (pc' := 264) rfl (hb hby d1_250) rfl (tlt c250_43).1 (by decide) (by decide) k) ?_
                      show own_Go p e below G (s₁.setTop (mkF m 264 #[.val (.ref ba), .val (.int (1 : Int32)), .val (.int en), .val (.int i0), .val (.int (1 : Int32)), .val (.int ((B i0) &&& (255 : Int32))), .val (.int (3 : Int32)), .val (.int (160 : Int32)), .val (.int (191 : Int32)), .val (.int (1 : Int32)), .val (.int ((B (i0 + (1 : Int32))) &&& (255 : Int32)))] []))
                      refine own_st (fun t k => XS.iconst X0.here hx rfl (hb hby d1_264) k) ?_
                      show own_Go p e below G (s₁.setTop (mkF m 265 #[.val (.ref ba), .val (.int (1 : Int32)), .val (.int en), .val (.int i0), .val (.int (1 : Int32)), .val (.int ((B i0) &&& (255 : Int32))), .val (.int (3 : Int32)), .val (.int (160 : Int32)), .val (.int (191 : Int32)), .val (.int (1 : Int32)), .val (.int ((B (i0 + (1 : Int32))) &&& (255 : Int32)))] [(.int (0 : Int32))]))
                      refine own_st (fun t k => XS.goto X0.here hx rfl (pc0 := 265) (pc' := 289) rfl (hb hby d1_265) (by decide) (by decide) k) ?_
                      show own_Go p e below G (s₁.setTop (mkF m 289 #[.val (.ref ba), .val (.int (1 : Int32)), .val (.int en), .val (.int i0), .val (.int (1 : Int32)), .val (.int ((B i0) &&& (255 : Int32))), .val (.int (3 : Int32)), .val (.int (160 : Int32)), .val (.int (191 : Int32)), .val (.int (1 : Int32)), .val (.int ((B (i0 + (1 : Int32))) &&& (255 : Int32)))] [(.int (0 : Int32))]))
                      exact bad289 _ _ _ _ _ _ (show own_vl (B i0 &&& 255) (B (i0 + 1) &&& 255) (B (i0 + 2) &&& 255) (B (i0 + 3) &&& 255) (en - i0) = 0 by unfold own_vl; rw [if_neg c39_3, if_neg c53_4, if_pos c61_5, if_neg c83_6, if_pos c94_40, if_neg (show ¬ (B i0 &&& 255) = 237 from fun q => absurd (c94_40.symm.trans q) (by decide)), if_neg c203_41, if_pos c250_43])
                    · skip
                      refine own_st (fun t k => XS.icmpNo X0.here hx rfl (hb hby d1_250) rfl (flt c250_43).1 k) ?_
                      show own_Go p e below G (s₁.setTop (mkF m 253 #[.val (.ref ba), .val (.int (1 : Int32)), .val (.int en), .val (.int i0), .val (.int (1 : Int32)), .val (.int ((B i0) &&& (255 : Int32))), .val (.int (3 : Int32)), .val (.int (160 : Int32)), .val (.int (191 : Int32)), .val (.int (1 : Int32)), .val (.int ((B (i0 + (1 : Int32))) &&& (255 : Int32)))] []))
                      refine own_st (fun t k => XS.iload X0.here hx rfl (hb hby d1_253) rfl  k) ?_
                      show own_Go p e below G (s₁.setTop (mkF m 255 #[.val (.ref ba), .val (.int (1 : Int32)), .val (.int en), .val (.int i0), .val (.int (1 : Int32)), .val (.int ((B i0) &&& (255 : Int32))), .val (.int (3 : Int32)), .val (.int (160 : Int32)), .val (.int (191 : Int32)), .val (.int (1 : Int32)), .val (.int ((B (i0 + (1 : Int32))) &&& (255 : Int32)))] [(.int ((B (i0 + (1 : Int32))) &&& (255 : Int32)))]))
                      refine own_st (fun t k => XS.iload X0.here hx rfl (hb hby d1_255) rfl  k) ?_
                      show own_Go p e below G (s₁.setTop (mkF m 257 #[.val (.ref ba), .val (.int (1 : Int32)), .val (.int en), .val (.int i0), .val (.int (1 : Int32)), .val (.int ((B i0) &&& (255 : Int32))), .val (.int (3 : Int32)), .val (.int (160 : Int32)), .val (.int (191 : Int32)), .val (.int (1 : Int32)), .val (.int ((B (i0 + (1 : Int32))) &&& (255 : Int32)))] [(.int (191 : Int32)), (.int ((B (i0 + (1 : Int32))) &&& (255 : Int32)))]))
                      by_cases c257_44 : (191 : Int32) < ((B (i0 + (1 : Int32))) &&& (255 : Int32))
                      · skip
                        refine own_st (fun t k => XS.icmpYes X0.here hx rfl (pc0 := 257) (pc' := 264) rfl (hb hby d1_257) rfl (tlt c257_44).2.2.1 (by decide) (by decide) k) ?_
                        show own_Go p e below G (s₁.setTop (mkF m 264 #[.val (.ref ba), .val (.int (1 : Int32)), .val (.int en), .val (.int i0), .val (.int (1 : Int32)), .val (.int ((B i0) &&& (255 : Int32))), .val (.int (3 : Int32)), .val (.int (160 : Int32)), .val (.int (191 : Int32)), .val (.int (1 : Int32)), .val (.int ((B (i0 + (1 : Int32))) &&& (255 : Int32)))] []))
                        refine own_st (fun t k => XS.iconst X0.here hx rfl (hb hby d1_264) k) ?_
                        show own_Go p e below G (s₁.setTop (mkF m 265 #[.val (.ref ba), .val (.int (1 : Int32)), .val (.int en), .val (.int i0), .val (.int (1 : Int32)), .val (.int ((B i0) &&& (255 : Int32))), .val (.int (3 : Int32)), .val (.int (160 : Int32)), .val (.int (191 : Int32)), .val (.int (1 : Int32)), .val (.int ((B (i0 + (1 : Int32))) &&& (255 : Int32)))] [(.int (0 : Int32))]))
                        refine own_st (fun t k => XS.goto X0.here hx rfl (pc0 := 265) (pc' := 289) rfl (hb hby d1_265) (by decide) (by decide) k) ?_
                        show own_Go p e below G (s₁.setTop (mkF m 289 #[.val (.ref ba), .val (.int (1 : Int32)), .val (.int en), .val (.int i0), .val (.int (1 : Int32)), .val (.int ((B i0) &&& (255 : Int32))), .val (.int (3 : Int32)), .val (.int (160 : Int32)), .val (.int (191 : Int32)), .val (.int (1 : Int32)), .val (.int ((B (i0 + (1 : Int32))) &&& (255 : Int32)))] [(.int (0 : Int32))]))
                        exact bad289 _ _ _ _ _ _ (show own_vl (B i0 &&& 255) (B (i0 + 1) &&& 255) (B (i0 + 2) &&& 255) (B (i0 + 3) &&& 255) (en - i0) = 0 by unfold own_vl; rw [if_neg c39_3, if_neg c53_4, if_pos c61_5, if_neg c83_6, if_pos c94_40, if_neg (show ¬ (B i0 &&& 255) = 237 from fun q => absurd (c94_40.symm.trans q) (by decide)), if_neg c203_41, if_neg c250_43, if_pos c257_44])
                      · skip
                        refine own_st (fun t k => XS.icmpNo X0.here hx rfl (hb hby d1_257) rfl (flt c257_44).2.2.1 k) ?_
                        show own_Go p e below G (s₁.setTop (mkF m 260 #[.val (.ref ba), .val (.int (1 : Int32)), .val (.int en), .val (.int i0), .val (.int (1 : Int32)), .val (.int ((B i0) &&& (255 : Int32))), .val (.int (3 : Int32)), .val (.int (160 : Int32)), .val (.int (191 : Int32)), .val (.int (1 : Int32)), .val (.int ((B (i0 + (1 : Int32))) &&& (255 : Int32)))] []))
                        refine own_st (fun t k => XS.iconst X0.here hx rfl (hb hby d1_260) k) ?_
                        show own_Go p e below G (s₁.setTop (mkF m 261 #[.val (.ref ba), .val (.int (1 : Int32)), .val (.int en), .val (.int i0), .val (.int (1 : Int32)), .val (.int ((B i0) &&& (255 : Int32))), .val (.int (3 : Int32)), .val (.int (160 : Int32)), .val (.int (191 : Int32)), .val (.int (1 : Int32)), .val (.int ((B (i0 + (1 : Int32))) &&& (255 : Int32)))] [(.int (1 : Int32))]))
                        refine own_st (fun t k => XS.goto X0.here hx rfl (pc0 := 261) (pc' := 289) rfl (hb hby d1_261) (by decide) (by decide) k) ?_
                        show own_Go p e below G (s₁.setTop (mkF m 289 #[.val (.ref ba), .val (.int (1 : Int32)), .val (.int en), .val (.int i0), .val (.int (1 : Int32)), .val (.int ((B i0) &&& (255 : Int32))), .val (.int (3 : Int32)), .val (.int (160 : Int32)), .val (.int (191 : Int32)), .val (.int (1 : Int32)), .val (.int ((B (i0 + (1 : Int32))) &&& (255 : Int32)))] [(.int (1 : Int32))]))
                        refine own_st (fun t k => XS.istore X0.here hx rfl (hb hby d1_289) rfl (l' := #[.val (.ref ba), .val (.int (1 : Int32)), .val (.int en), .val (.int i0), .val (.int (1 : Int32)), .val (.int ((B i0) &&& (255 : Int32))), .val (.int (3 : Int32)), .val (.int (160 : Int32)), .val (.int (191 : Int32)), .val (.int (1 : Int32)), .val (.int ((B (i0 + (1 : Int32))) &&& (255 : Int32)))]) rfl k) ?_
                        show own_Go p e below G (s₁.setTop (mkF m 291 #[.val (.ref ba), .val (.int (1 : Int32)), .val (.int en), .val (.int i0), .val (.int (1 : Int32)), .val (.int ((B i0) &&& (255 : Int32))), .val (.int (3 : Int32)), .val (.int (160 : Int32)), .val (.int (191 : Int32)), .val (.int (1 : Int32)), .val (.int ((B (i0 + (1 : Int32))) &&& (255 : Int32)))] []))
                        refine own_st (fun t k => XS.iinc X0.here hx rfl (hb hby d1_291) rfl (l' := #[.val (.ref ba), .val (.int (1 : Int32)), .val (.int en), .val (.int i0), .val (.int (1 : Int32)), .val (.int ((B i0) &&& (255 : Int32))), .val (.int (3 : Int32)), .val (.int (160 : Int32)), .val (.int (191 : Int32)), .val (.int (2 : Int32)), .val (.int ((B (i0 + (1 : Int32))) &&& (255 : Int32)))]) rfl k) ?_
                        show own_Go p e below G (s₁.setTop (mkF m 294 #[.val (.ref ba), .val (.int (1 : Int32)), .val (.int en), .val (.int i0), .val (.int (1 : Int32)), .val (.int ((B i0) &&& (255 : Int32))), .val (.int (3 : Int32)), .val (.int (160 : Int32)), .val (.int (191 : Int32)), .val (.int (2 : Int32)), .val (.int ((B (i0 + (1 : Int32))) &&& (255 : Int32)))] []))
                        refine own_st (fun t k => XS.goto X0.here hx rfl (pc0 := 294) (pc' := 216) rfl (hb hby d1_294) (by decide) (by decide) k) ?_
                        show own_Go p e below G (s₁.setTop (mkF m 216 #[.val (.ref ba), .val (.int (1 : Int32)), .val (.int en), .val (.int i0), .val (.int (1 : Int32)), .val (.int ((B i0) &&& (255 : Int32))), .val (.int (3 : Int32)), .val (.int (160 : Int32)), .val (.int (191 : Int32)), .val (.int (2 : Int32)), .val (.int ((B (i0 + (1 : Int32))) &&& (255 : Int32)))] []))
                        refine own_st (fun t k => XS.iload X0.here hx rfl (hb hby d1_216) rfl  k) ?_
                        show own_Go p e below G (s₁.setTop (mkF m 218 #[.val (.ref ba), .val (.int (1 : Int32)), .val (.int en), .val (.int i0), .val (.int (1 : Int32)), .val (.int ((B i0) &&& (255 : Int32))), .val (.int (3 : Int32)), .val (.int (160 : Int32)), .val (.int (191 : Int32)), .val (.int (2 : Int32)), .val (.int ((B (i0 + (1 : Int32))) &&& (255 : Int32)))] [(.int (1 : Int32))]))
                        refine own_st (fun t k => XS.ifNo X0.here hx rfl (hb hby d1_218) rfl ((if0 _ _).trans (feq (by decide)).1) k) ?_
                        show own_Go p e below G (s₁.setTop (mkF m 221 #[.val (.ref ba), .val (.int (1 : Int32)), .val (.int en), .val (.int i0), .val (.int (1 : Int32)), .val (.int ((B i0) &&& (255 : Int32))), .val (.int (3 : Int32)), .val (.int (160 : Int32)), .val (.int (191 : Int32)), .val (.int (2 : Int32)), .val (.int ((B (i0 + (1 : Int32))) &&& (255 : Int32)))] []))
                        refine own_st (fun t k => XS.iload X0.here hx rfl (hb hby d1_221) rfl  k) ?_
                        show own_Go p e below G (s₁.setTop (mkF m 223 #[.val (.ref ba), .val (.int (1 : Int32)), .val (.int en), .val (.int i0), .val (.int (1 : Int32)), .val (.int ((B i0) &&& (255 : Int32))), .val (.int (3 : Int32)), .val (.int (160 : Int32)), .val (.int (191 : Int32)), .val (.int (2 : Int32)), .val (.int ((B (i0 + (1 : Int32))) &&& (255 : Int32)))] [(.int (2 : Int32))]))
                        refine own_st (fun t k => XS.iload X0.here hx rfl (hb hby d1_223) rfl  k) ?_
                        show own_Go p e below G (s₁.setTop (mkF m 225 #[.val (.ref ba), .val (.int (1 : Int32)), .val (.int en), .val (.int i0), .val (.int (1 : Int32)), .val (.int ((B i0) &&& (255 : Int32))), .val (.int (3 : Int32)), .val (.int (160 : Int32)), .val (.int (191 : Int32)), .val (.int (2 : Int32)), .val (.int ((B (i0 + (1 : Int32))) &&& (255 : Int32)))] [(.int (3 : Int32)), (.int (2 : Int32))]))
                        refine own_st (fun t k => XS.icmpNo X0.here hx rfl (hb hby d1_225) rfl (tlt (by decide)).2.1 k) ?_
                        show own_Go p e below G (s₁.setTop (mkF m 228 #[.val (.ref ba), .val (.int (1 : Int32)), .val (.int en), .val (.int i0), .val (.int (1 : Int32)), .val (.int ((B i0) &&& (255 : Int32))), .val (.int (3 : Int32)), .val (.int (160 : Int32)), .val (.int (191 : Int32)), .val (.int (2 : Int32)), .val (.int ((B (i0 + (1 : Int32))) &&& (255 : Int32)))] []))
                        refine own_st (fun t k => XS.aloadN X0.here hx rfl (hb hby d1_228) rfl rfl  k) ?_
                        show own_Go p e below G (s₁.setTop (mkF m 229 #[.val (.ref ba), .val (.int (1 : Int32)), .val (.int en), .val (.int i0), .val (.int (1 : Int32)), .val (.int ((B i0) &&& (255 : Int32))), .val (.int (3 : Int32)), .val (.int (160 : Int32)), .val (.int (191 : Int32)), .val (.int (2 : Int32)), .val (.int ((B (i0 + (1 : Int32))) &&& (255 : Int32)))] [(.ref ba)]))
                        refine own_st (fun t k => XS.iloadN X0.here hx rfl (hb hby d1_229) rfl  k) ?_
                        show own_Go p e below G (s₁.setTop (mkF m 230 #[.val (.ref ba), .val (.int (1 : Int32)), .val (.int en), .val (.int i0), .val (.int (1 : Int32)), .val (.int ((B i0) &&& (255 : Int32))), .val (.int (3 : Int32)), .val (.int (160 : Int32)), .val (.int (191 : Int32)), .val (.int (2 : Int32)), .val (.int ((B (i0 + (1 : Int32))) &&& (255 : Int32)))] [(.int i0), (.ref ba)]))
                        refine own_st (fun t k => XS.iload X0.here hx rfl (hb hby d1_230) rfl  k) ?_
                        show own_Go p e below G (s₁.setTop (mkF m 232 #[.val (.ref ba), .val (.int (1 : Int32)), .val (.int en), .val (.int i0), .val (.int (1 : Int32)), .val (.int ((B i0) &&& (255 : Int32))), .val (.int (3 : Int32)), .val (.int (160 : Int32)), .val (.int (191 : Int32)), .val (.int (2 : Int32)), .val (.int ((B (i0 + (1 : Int32))) &&& (255 : Int32)))] [(.int (2 : Int32)), (.int i0), (.ref ba)]))
                        refine own_st (fun t k => XS.iadd X0.here hx rfl (hb hby d1_232) rfl k) ?_
                        show own_Go p e below G (s₁.setTop (mkF m 233 #[.val (.ref ba), .val (.int (1 : Int32)), .val (.int en), .val (.int i0), .val (.int (1 : Int32)), .val (.int ((B i0) &&& (255 : Int32))), .val (.int (3 : Int32)), .val (.int (160 : Int32)), .val (.int (191 : Int32)), .val (.int (2 : Int32)), .val (.int ((B (i0 + (1 : Int32))) &&& (255 : Int32)))] [(.int (i0 + (2 : Int32))), (.ref ba)]))
                        have hb45 := own_bd (n := 6) (own_in hi0 c12_1 he.2 c203_41 (j := (2 : Int32)) (by decide) (by decide) (by decide)) (Int.le_trans he.2 (by decide))
                        have hin45 := inb_of S0 hb45
                        refine own_st (fun t k => X0.baloadBytes hx (j := (i0 + (2 : Int32))) (v := (.int (B (i0 + (2 : Int32))))) (by rw [e0]; exact Ar0.1) (State.isArrayOf_alike hZ.alike Ar0.2.1) Ar0.2.2 hin45 (hB _ hb45.1 hb45.2) (g := (mkF m 233 #[.val (.ref ba), .val (.int (1 : Int32)), .val (.int en), .val (.int i0), .val (.int (1 : Int32)), .val (.int ((B i0) &&& (255 : Int32))), .val (.int (3 : Int32)), .val (.int (160 : Int32)), .val (.int (191 : Int32)), .val (.int (2 : Int32)), .val (.int ((B (i0 + (1 : Int32))) &&& (255 : Int32)))] [(.int (i0 + (2 : Int32))), (.ref ba)])) rfl rfl (hb hby d1_233) t k) ?_
                        show own_Go p e below G (s₁.setTop (mkF m 234 #[.val (.ref ba), .val (.int (1 : Int32)), .val (.int en), .val (.int i0), .val (.int (1 : Int32)), .val (.int ((B i0) &&& (255 : Int32))), .val (.int (3 : Int32)), .val (.int (160 : Int32)), .val (.int (191 : Int32)), .val (.int (2 : Int32)), .val (.int ((B (i0 + (1 : Int32))) &&& (255 : Int32)))] [(.int (B (i0 + (2 : Int32))))]))
                        refine own_st (fun t k => XS.sipush X0.here hx rfl (hb hby d1_234) k) ?_
                        show own_Go p e below G (s₁.setTop (mkF m 237 #[.val (.ref ba), .val (.int (1 : Int32)), .val (.int en), .val (.int i0), .val (.int (1 : Int32)), .val (.int ((B i0) &&& (255 : Int32))), .val (.int (3 : Int32)), .val (.int (160 : Int32)), .val (.int (191 : Int32)), .val (.int (2 : Int32)), .val (.int ((B (i0 + (1 : Int32))) &&& (255 : Int32)))] [(.int (255 : Int32)), (.int (B (i0 + (2 : Int32))))]))
                        refine own_st (fun t k => XS.iand X0.here hx rfl (hb hby d1_237) rfl k) ?_
                        show own_Go p e below G (s₁.setTop (mkF m 238 #[.val (.ref ba), .val (.int (1 : Int32)), .val (.int en), .val (.int i0), .val (.int (1 : Int32)), .val (.int ((B i0) &&& (255 : Int32))), .val (.int (3 : Int32)), .val (.int (160 : Int32)), .val (.int (191 : Int32)), .val (.int (2 : Int32)), .val (.int ((B (i0 + (1 : Int32))) &&& (255 : Int32)))] [(.int ((B (i0 + (2 : Int32))) &&& (255 : Int32)))]))
                        refine own_st (fun t k => XS.istore X0.here hx rfl (hb hby d1_238) rfl (l' := #[.val (.ref ba), .val (.int (1 : Int32)), .val (.int en), .val (.int i0), .val (.int (1 : Int32)), .val (.int ((B i0) &&& (255 : Int32))), .val (.int (3 : Int32)), .val (.int (160 : Int32)), .val (.int (191 : Int32)), .val (.int (2 : Int32)), .val (.int ((B (i0 + (2 : Int32))) &&& (255 : Int32)))]) rfl k) ?_
                        show own_Go p e below G (s₁.setTop (mkF m 240 #[.val (.ref ba), .val (.int (1 : Int32)), .val (.int en), .val (.int i0), .val (.int (1 : Int32)), .val (.int ((B i0) &&& (255 : Int32))), .val (.int (3 : Int32)), .val (.int (160 : Int32)), .val (.int (191 : Int32)), .val (.int (2 : Int32)), .val (.int ((B (i0 + (2 : Int32))) &&& (255 : Int32)))] []))
                        refine own_st (fun t k => XS.iload X0.here hx rfl (hb hby d1_240) rfl  k) ?_
                        show own_Go p e below G (s₁.setTop (mkF m 242 #[.val (.ref ba), .val (.int (1 : Int32)), .val (.int en), .val (.int i0), .val (.int (1 : Int32)), .val (.int ((B i0) &&& (255 : Int32))), .val (.int (3 : Int32)), .val (.int (160 : Int32)), .val (.int (191 : Int32)), .val (.int (2 : Int32)), .val (.int ((B (i0 + (2 : Int32))) &&& (255 : Int32)))] [(.int (2 : Int32))]))
                        refine own_st (fun t k => XS.iconst X0.here hx rfl (hb hby d1_242) k) ?_
                        show own_Go p e below G (s₁.setTop (mkF m 243 #[.val (.ref ba), .val (.int (1 : Int32)), .val (.int en), .val (.int i0), .val (.int (1 : Int32)), .val (.int ((B i0) &&& (255 : Int32))), .val (.int (3 : Int32)), .val (.int (160 : Int32)), .val (.int (191 : Int32)), .val (.int (2 : Int32)), .val (.int ((B (i0 + (2 : Int32))) &&& (255 : Int32)))] [(.int (1 : Int32)), (.int (2 : Int32))]))
                        refine own_st (fun t k => XS.icmpYes X0.here hx rfl (pc0 := 243) (pc' := 268) rfl (hb hby d1_243) rfl (feq (by decide)).2 (by decide) (by decide) k) ?_
                        show own_Go p e below G (s₁.setTop (mkF m 268 #[.val (.ref ba), .val (.int (1 : Int32)), .val (.int en), .val (.int i0), .val (.int (1 : Int32)), .val (.int ((B i0) &&& (255 : Int32))), .val (.int (3 : Int32)), .val (.int (160 : Int32)), .val (.int (191 : Int32)), .val (.int (2 : Int32)), .val (.int ((B (i0 + (2 : Int32))) &&& (255 : Int32)))] []))
                        refine own_st (fun t k => XS.iload X0.here hx rfl (hb hby d1_268) rfl  k) ?_
                        show own_Go p e below G (s₁.setTop (mkF m 270 #[.val (.ref ba), .val (.int (1 : Int32)), .val (.int en), .val (.int i0), .val (.int (1 : Int32)), .val (.int ((B i0) &&& (255 : Int32))), .val (.int (3 : Int32)), .val (.int (160 : Int32)), .val (.int (191 : Int32)), .val (.int (2 : Int32)), .val (.int ((B (i0 + (2 : Int32))) &&& (255 : Int32)))] [(.int ((B (i0 + (2 : Int32))) &&& (255 : Int32)))]))
                        refine own_st (fun t k => XS.sipush X0.here hx rfl (hb hby d1_270) k) ?_
                        show own_Go p e below G (s₁.setTop (mkF m 273 #[.val (.ref ba), .val (.int (1 : Int32)), .val (.int en), .val (.int i0), .val (.int (1 : Int32)), .val (.int ((B i0) &&& (255 : Int32))), .val (.int (3 : Int32)), .val (.int (160 : Int32)), .val (.int (191 : Int32)), .val (.int (2 : Int32)), .val (.int ((B (i0 + (2 : Int32))) &&& (255 : Int32)))] [(.int (128 : Int32)), (.int ((B (i0 + (2 : Int32))) &&& (255 : Int32)))]))
                        by_cases c273_46 : ((B (i0 + (2 : Int32))) &&& (255 : Int32)) < (128 : Int32)
                        · skip
                          refine own_st (fun t k => XS.icmpYes X0.here hx rfl (pc0 := 273) (pc' := 288) rfl (hb hby d1_273) rfl (tlt c273_46).1 (by decide) (by decide) k) ?_
                          show own_Go p e below G (s₁.setTop (mkF m 288 #[.val (.ref ba), .val (.int (1 : Int32)), .val (.int en), .val (.int i0), .val (.int (1 : Int32)), .val (.int ((B i0) &&& (255 : Int32))), .val (.int (3 : Int32)), .val (.int (160 : Int32)), .val (.int (191 : Int32)), .val (.int (2 : Int32)), .val (.int ((B (i0 + (2 : Int32))) &&& (255 : Int32)))] []))
                          refine own_st (fun t k => XS.iconst X0.here hx rfl (hb hby d1_288) k) ?_
                          show own_Go p e below G (s₁.setTop (mkF m 289 #[.val (.ref ba), .val (.int (1 : Int32)), .val (.int en), .val (.int i0), .val (.int (1 : Int32)), .val (.int ((B i0) &&& (255 : Int32))), .val (.int (3 : Int32)), .val (.int (160 : Int32)), .val (.int (191 : Int32)), .val (.int (2 : Int32)), .val (.int ((B (i0 + (2 : Int32))) &&& (255 : Int32)))] [(.int (0 : Int32))]))
                          exact bad289 _ _ _ _ _ _ (show own_vl (B i0 &&& 255) (B (i0 + 1) &&& 255) (B (i0 + 2) &&& 255) (B (i0 + 3) &&& 255) (en - i0) = 0 by unfold own_vl; rw [if_neg c39_3, if_neg c53_4, if_pos c61_5, if_neg c83_6, if_pos c94_40, if_neg (show ¬ (B i0 &&& 255) = 237 from fun q => absurd (c94_40.symm.trans q) (by decide)), if_neg c203_41, if_neg c250_43, if_neg c257_44, if_pos c273_46])
                        · skip
                          refine own_st (fun t k => XS.icmpNo X0.here hx rfl (hb hby d1_273) rfl (flt c273_46).1 k) ?_
                          show own_Go p e below G (s₁.setTop (mkF m 276 #[.val (.ref ba), .val (.int (1 : Int32)), .val (.int en), .val (.int i0), .val (.int (1 : Int32)), .val (.int ((B i0) &&& (255 : Int32))), .val (.int (3 : Int32)), .val (.int (160 : Int32)), .val (.int (191 : Int32)), .val (.int (2 : Int32)), .val (.int ((B (i0 + (2 : Int32))) &&& (255 : Int32)))] []))
                          refine own_st (fun t k => XS.iload X0.here hx rfl (hb hby d1_276) rfl  k) ?_
                          show own_Go p e below G (s₁.setTop (mkF m 278 #[.val (.ref ba), .val (.int (1 : Int32)), .val (.int en), .val (.int i0), .val (.int (1 : Int32)), .val (.int ((B i0) &&& (255 : Int32))), .val (.int (3 : Int32)), .val (.int (160 : Int32)), .val (.int (191 : Int32)), .val (.int (2 : Int32)), .val (.int ((B (i0 + (2 : Int32))) &&& (255 : Int32)))] [(.int ((B (i0 + (2 : Int32))) &&& (255 : Int32)))]))
                          refine own_st (fun t k => XS.sipush X0.here hx rfl (hb hby d1_278) k) ?_
                          show own_Go p e below G (s₁.setTop (mkF m 281 #[.val (.ref ba), .val (.int (1 : Int32)), .val (.int en), .val (.int i0), .val (.int (1 : Int32)), .val (.int ((B i0) &&& (255 : Int32))), .val (.int (3 : Int32)), .val (.int (160 : Int32)), .val (.int (191 : Int32)), .val (.int (2 : Int32)), .val (.int ((B (i0 + (2 : Int32))) &&& (255 : Int32)))] [(.int (191 : Int32)), (.int ((B (i0 + (2 : Int32))) &&& (255 : Int32)))]))
                          by_cases c281_47 : (191 : Int32) < ((B (i0 + (2 : Int32))) &&& (255 : Int32))
                          · skip
                            refine own_st (fun t k => XS.icmpYes X0.here hx rfl (pc0 := 281) (pc' := 288) rfl (hb hby d1_281) rfl (tlt c281_47).2.2.1 (by decide) (by decide) k) ?_
                            show own_Go p e below G (s₁.setTop (mkF m 288 #[.val (.ref ba), .val (.int (1 : Int32)), .val (.int en), .val (.int i0), .val (.int (1 : Int32)), .val (.int ((B i0) &&& (255 : Int32))), .val (.int (3 : Int32)), .val (.int (160 : Int32)), .val (.int (191 : Int32)), .val (.int (2 : Int32)), .val (.int ((B (i0 + (2 : Int32))) &&& (255 : Int32)))] []))
                            refine own_st (fun t k => XS.iconst X0.here hx rfl (hb hby d1_288) k) ?_
                            show own_Go p e below G (s₁.setTop (mkF m 289 #[.val (.ref ba), .val (.int (1 : Int32)), .val (.int en), .val (.int i0), .val (.int (1 : Int32)), .val (.int ((B i0) &&& (255 : Int32))), .val (.int (3 : Int32)), .val (.int (160 : Int32)), .val (.int (191 : Int32)), .val (.int (2 : Int32)), .val (.int ((B (i0 + (2 : Int32))) &&& (255 : Int32)))] [(.int (0 : Int32))]))
                            exact bad289 _ _ _ _ _ _ (show own_vl (B i0 &&& 255) (B (i0 + 1) &&& 255) (B (i0 + 2) &&& 255) (B (i0 + 3) &&& 255) (en - i0) = 0 by unfold own_vl; rw [if_neg c39_3, if_neg c53_4, if_pos c61_5, if_neg c83_6, if_pos c94_40, if_neg (show ¬ (B i0 &&& 255) = 237 from fun q => absurd (c94_40.symm.trans q) (by decide)), if_neg c203_41, if_neg c250_43, if_neg c257_44, if_neg c273_46, if_pos c281_47])
                          · skip
                            refine own_st (fun t k => XS.icmpNo X0.here hx rfl (hb hby d1_281) rfl (flt c281_47).2.2.1 k) ?_
                            show own_Go p e below G (s₁.setTop (mkF m 284 #[.val (.ref ba), .val (.int (1 : Int32)), .val (.int en), .val (.int i0), .val (.int (1 : Int32)), .val (.int ((B i0) &&& (255 : Int32))), .val (.int (3 : Int32)), .val (.int (160 : Int32)), .val (.int (191 : Int32)), .val (.int (2 : Int32)), .val (.int ((B (i0 + (2 : Int32))) &&& (255 : Int32)))] []))
                            refine own_st (fun t k => XS.iconst X0.here hx rfl (hb hby d1_284) k) ?_
                            show own_Go p e below G (s₁.setTop (mkF m 285 #[.val (.ref ba), .val (.int (1 : Int32)), .val (.int en), .val (.int i0), .val (.int (1 : Int32)), .val (.int ((B i0) &&& (255 : Int32))), .val (.int (3 : Int32)), .val (.int (160 : Int32)), .val (.int (191 : Int32)), .val (.int (2 : Int32)), .val (.int ((B (i0 + (2 : Int32))) &&& (255 : Int32)))] [(.int (1 : Int32))]))
                            refine own_st (fun t k => XS.goto X0.here hx rfl (pc0 := 285) (pc' := 289) rfl (hb hby d1_285) (by decide) (by decide) k) ?_
                            show own_Go p e below G (s₁.setTop (mkF m 289 #[.val (.ref ba), .val (.int (1 : Int32)), .val (.int en), .val (.int i0), .val (.int (1 : Int32)), .val (.int ((B i0) &&& (255 : Int32))), .val (.int (3 : Int32)), .val (.int (160 : Int32)), .val (.int (191 : Int32)), .val (.int (2 : Int32)), .val (.int ((B (i0 + (2 : Int32))) &&& (255 : Int32)))] [(.int (1 : Int32))]))
                            refine own_st (fun t k => XS.istore X0.here hx rfl (hb hby d1_289) rfl (l' := #[.val (.ref ba), .val (.int (1 : Int32)), .val (.int en), .val (.int i0), .val (.int (1 : Int32)), .val (.int ((B i0) &&& (255 : Int32))), .val (.int (3 : Int32)), .val (.int (160 : Int32)), .val (.int (191 : Int32)), .val (.int (2 : Int32)), .val (.int ((B (i0 + (2 : Int32))) &&& (255 : Int32)))]) rfl k) ?_
                            show own_Go p e below G (s₁.setTop (mkF m 291 #[.val (.ref ba), .val (.int (1 : Int32)), .val (.int en), .val (.int i0), .val (.int (1 : Int32)), .val (.int ((B i0) &&& (255 : Int32))), .val (.int (3 : Int32)), .val (.int (160 : Int32)), .val (.int (191 : Int32)), .val (.int (2 : Int32)), .val (.int ((B (i0 + (2 : Int32))) &&& (255 : Int32)))] []))
                            refine own_st (fun t k => XS.iinc X0.here hx rfl (hb hby d1_291) rfl (l' := #[.val (.ref ba), .val (.int (1 : Int32)), .val (.int en), .val (.int i0), .val (.int (1 : Int32)), .val (.int ((B i0) &&& (255 : Int32))), .val (.int (3 : Int32)), .val (.int (160 : Int32)), .val (.int (191 : Int32)), .val (.int (3 : Int32)), .val (.int ((B (i0 + (2 : Int32))) &&& (255 : Int32)))]) rfl k) ?_
                            show own_Go p e below G (s₁.setTop (mkF m 294 #[.val (.ref ba), .val (.int (1 : Int32)), .val (.int en), .val (.int i0), .val (.int (1 : Int32)), .val (.int ((B i0) &&& (255 : Int32))), .val (.int (3 : Int32)), .val (.int (160 : Int32)), .val (.int (191 : Int32)), .val (.int (3 : Int32)), .val (.int ((B (i0 + (2 : Int32))) &&& (255 : Int32)))] []))
                            refine own_st (fun t k => XS.goto X0.here hx rfl (pc0 := 294) (pc' := 216) rfl (hb hby d1_294) (by decide) (by decide) k) ?_
                            show own_Go p e below G (s₁.setTop (mkF m 216 #[.val (.ref ba), .val (.int (1 : Int32)), .val (.int en), .val (.int i0), .val (.int (1 : Int32)), .val (.int ((B i0) &&& (255 : Int32))), .val (.int (3 : Int32)), .val (.int (160 : Int32)), .val (.int (191 : Int32)), .val (.int (3 : Int32)), .val (.int ((B (i0 + (2 : Int32))) &&& (255 : Int32)))] []))
                            refine own_st (fun t k => XS.iload X0.here hx rfl (hb hby d1_216) rfl  k) ?_
                            show own_Go p e below G (s₁.setTop (mkF m 218 #[.val (.ref ba), .val (.int (1 : Int32)), .val (.int en), .val (.int i0), .val (.int (1 : Int32)), .val (.int ((B i0) &&& (255 : Int32))), .val (.int (3 : Int32)), .val (.int (160 : Int32)), .val (.int (191 : Int32)), .val (.int (3 : Int32)), .val (.int ((B (i0 + (2 : Int32))) &&& (255 : Int32)))] [(.int (1 : Int32))]))
                            refine own_st (fun t k => XS.ifNo X0.here hx rfl (hb hby d1_218) rfl ((if0 _ _).trans (feq (by decide)).1) k) ?_
                            show own_Go p e below G (s₁.setTop (mkF m 221 #[.val (.ref ba), .val (.int (1 : Int32)), .val (.int en), .val (.int i0), .val (.int (1 : Int32)), .val (.int ((B i0) &&& (255 : Int32))), .val (.int (3 : Int32)), .val (.int (160 : Int32)), .val (.int (191 : Int32)), .val (.int (3 : Int32)), .val (.int ((B (i0 + (2 : Int32))) &&& (255 : Int32)))] []))
                            refine own_st (fun t k => XS.iload X0.here hx rfl (hb hby d1_221) rfl  k) ?_
                            show own_Go p e below G (s₁.setTop (mkF m 223 #[.val (.ref ba), .val (.int (1 : Int32)), .val (.int en), .val (.int i0), .val (.int (1 : Int32)), .val (.int ((B i0) &&& (255 : Int32))), .val (.int (3 : Int32)), .val (.int (160 : Int32)), .val (.int (191 : Int32)), .val (.int (3 : Int32)), .val (.int ((B (i0 + (2 : Int32))) &&& (255 : Int32)))] [(.int (3 : Int32))]))
                            refine own_st (fun t k => XS.iload X0.here hx rfl (hb hby d1_223) rfl  k) ?_
                            show own_Go p e below G (s₁.setTop (mkF m 225 #[.val (.ref ba), .val (.int (1 : Int32)), .val (.int en), .val (.int i0), .val (.int (1 : Int32)), .val (.int ((B i0) &&& (255 : Int32))), .val (.int (3 : Int32)), .val (.int (160 : Int32)), .val (.int (191 : Int32)), .val (.int (3 : Int32)), .val (.int ((B (i0 + (2 : Int32))) &&& (255 : Int32)))] [(.int (3 : Int32)), (.int (3 : Int32))]))
                            refine own_st (fun t k => XS.icmpYes X0.here hx rfl (pc0 := 225) (pc' := 297) rfl (hb hby d1_225) rfl (flt (by decide)).2.1 (by decide) (by decide) k) ?_
                            show own_Go p e below G (s₁.setTop (mkF m 297 #[.val (.ref ba), .val (.int (1 : Int32)), .val (.int en), .val (.int i0), .val (.int (1 : Int32)), .val (.int ((B i0) &&& (255 : Int32))), .val (.int (3 : Int32)), .val (.int (160 : Int32)), .val (.int (191 : Int32)), .val (.int (3 : Int32)), .val (.int ((B (i0 + (2 : Int32))) &&& (255 : Int32)))] []))
                            refine own_st (fun t k => XS.iloadN X0.here hx rfl (hb hby d1_297) rfl  k) ?_
                            show own_Go p e below G (s₁.setTop (mkF m 298 #[.val (.ref ba), .val (.int (1 : Int32)), .val (.int en), .val (.int i0), .val (.int (1 : Int32)), .val (.int ((B i0) &&& (255 : Int32))), .val (.int (3 : Int32)), .val (.int (160 : Int32)), .val (.int (191 : Int32)), .val (.int (3 : Int32)), .val (.int ((B (i0 + (2 : Int32))) &&& (255 : Int32)))] [(.int i0)]))
                            refine own_st (fun t k => XS.iload X0.here hx rfl (hb hby d1_298) rfl  k) ?_
                            show own_Go p e below G (s₁.setTop (mkF m 300 #[.val (.ref ba), .val (.int (1 : Int32)), .val (.int en), .val (.int i0), .val (.int (1 : Int32)), .val (.int ((B i0) &&& (255 : Int32))), .val (.int (3 : Int32)), .val (.int (160 : Int32)), .val (.int (191 : Int32)), .val (.int (3 : Int32)), .val (.int ((B (i0 + (2 : Int32))) &&& (255 : Int32)))] [(.int (3 : Int32)), (.int i0)]))
                            refine own_st (fun t k => XS.iadd X0.here hx rfl (hb hby d1_300) rfl k) ?_
                            show own_Go p e below G (s₁.setTop (mkF m 301 #[.val (.ref ba), .val (.int (1 : Int32)), .val (.int en), .val (.int i0), .val (.int (1 : Int32)), .val (.int ((B i0) &&& (255 : Int32))), .val (.int (3 : Int32)), .val (.int (160 : Int32)), .val (.int (191 : Int32)), .val (.int (3 : Int32)), .val (.int ((B (i0 + (2 : Int32))) &&& (255 : Int32)))] [(.int (i0 + (3 : Int32)))]))
                            refine own_st (fun t k => XS.istoreN X0.here hx rfl (hb hby d1_301) rfl (l' := #[.val (.ref ba), .val (.int (1 : Int32)), .val (.int en), .val (.int (i0 + (3 : Int32))), .val (.int (1 : Int32)), .val (.int ((B i0) &&& (255 : Int32))), .val (.int (3 : Int32)), .val (.int (160 : Int32)), .val (.int (191 : Int32)), .val (.int (3 : Int32)), .val (.int ((B (i0 + (2 : Int32))) &&& (255 : Int32)))]) rfl k) ?_
                            show own_Go p e below G (s₁.setTop (mkF m 302 #[.val (.ref ba), .val (.int (1 : Int32)), .val (.int en), .val (.int (i0 + (3 : Int32))), .val (.int (1 : Int32)), .val (.int ((B i0) &&& (255 : Int32))), .val (.int (3 : Int32)), .val (.int (160 : Int32)), .val (.int (191 : Int32)), .val (.int (3 : Int32)), .val (.int ((B (i0 + (2 : Int32))) &&& (255 : Int32)))] []))
                            refine own_st (fun t k => XS.goto X0.here hx rfl (pc0 := 302) (pc' := 5) rfl (hb hby d1_302) (by decide) (by decide) k) ?_
                            show own_Go p e below G (s₁.setTop (mkF m 5 #[.val (.ref ba), .val (.int (1 : Int32)), .val (.int en), .val (.int (i0 + (3 : Int32))), .val (.int (1 : Int32)), .val (.int ((B i0) &&& (255 : Int32))), .val (.int (3 : Int32)), .val (.int (160 : Int32)), .val (.int (191 : Int32)), .val (.int (3 : Int32)), .val (.int ((B (i0 + (2 : Int32))) &&& (255 : Int32)))] []))
                            have hn := own_in (len := (3 : Int32)) (j := ((3 : Int32) - 1)) hi0 c12_1 he.2 c203_41 (by decide) (by decide) (by decide)
                            have ha := own_add (i := i0) (j := (3 : Int32)) hi0 (Int.le_of_lt (Int.lt_of_lt_of_le (Int32.lt_iff_toInt_lt.mp c12_1) he.2)) (by decide) (by decide)
                            have hc := own_add (i := i0) (j := ((3 : Int32) - 1)) hi0 (Int.le_of_lt (Int.lt_of_lt_of_le (Int32.lt_iff_toInt_lt.mp c12_1) he.2)) (by decide) (by decide)
                            rw [hc] at hn
                            have z1 : (((3 : Int32) - 1) : Int32).toInt = 2 := by decide
                            have z2 : ((3 : Int32)).toInt = 3 := by decide
                            exact ih (i0 + (3 : Int32)) _ _ _ _ _ _ (One.val rfl) (One.val rfl) (One.val rfl) (One.val rfl) (One.val rfl) (One.val rfl) (by omega) (by omega) (by omega) (heq.trans (own_vrN c12_1 (show own_vl (B i0 &&& 255) (B (i0 + 1) &&& 255) (B (i0 + 2) &&& 255) (B (i0 + 3) &&& 255) (en - i0) = (3 : Int32) by unfold own_vl; rw [if_neg c39_3, if_neg c53_4, if_pos c61_5, if_neg c83_6, if_pos c94_40, if_neg (show ¬ (B i0 &&& 255) = 237 from fun q => absurd (c94_40.symm.trans q) (by decide)), if_neg c203_41, if_neg c250_43, if_neg c257_44, if_neg c273_46, if_neg c281_47]) (by decide)))
                · skip
                  refine own_st (fun t k => XS.icmpYes X0.here hx rfl (pc0 := 94) (pc' := 103) rfl (hb hby d1_94) rfl (feq c94_40).2 (by decide) (by decide) k) ?_
                  show own_Go p e below G (s₁.setTop (mkF m 103 #[.val (.ref ba), .val (.int (1 : Int32)), .val (.int en), .val (.int i0), .val (.int (1 : Int32)), .val (.int ((B i0) &&& (255 : Int32))), .val (.int (3 : Int32)), .val (.int (128 : Int32)), .val (.int (191 : Int32)), s9, s10] []))
                  refine own_st (fun t k => XS.sipush X0.here hx rfl (hb hby d1_103) k) ?_
                  show own_Go p e below G (s₁.setTop (mkF m 106 #[.val (.ref ba), .val (.int (1 : Int32)), .val (.int en), .val (.int i0), .val (.int (1 : Int32)), .val (.int ((B i0) &&& (255 : Int32))), .val (.int (3 : Int32)), .val (.int (128 : Int32)), .val (.int (191 : Int32)), s9, s10] [(.int (128 : Int32))]))
                  refine own_st (fun t k => XS.istore X0.here hx rfl (hb hby d1_106) rfl (l' := #[.val (.ref ba), .val (.int (1 : Int32)), .val (.int en), .val (.int i0), .val (.int (1 : Int32)), .val (.int ((B i0) &&& (255 : Int32))), .val (.int (3 : Int32)), .val (.int (128 : Int32)), .val (.int (191 : Int32)), s9, s10]) rfl k) ?_
                  show own_Go p e below G (s₁.setTop (mkF m 108 #[.val (.ref ba), .val (.int (1 : Int32)), .val (.int en), .val (.int i0), .val (.int (1 : Int32)), .val (.int ((B i0) &&& (255 : Int32))), .val (.int (3 : Int32)), .val (.int (128 : Int32)), .val (.int (191 : Int32)), s9, s10] []))
                  refine own_st (fun t k => XS.iload X0.here hx rfl (hb hby d1_108) rfl  k) ?_
                  show own_Go p e below G (s₁.setTop (mkF m 110 #[.val (.ref ba), .val (.int (1 : Int32)), .val (.int en), .val (.int i0), .val (.int (1 : Int32)), .val (.int ((B i0) &&& (255 : Int32))), .val (.int (3 : Int32)), .val (.int (128 : Int32)), .val (.int (191 : Int32)), s9, s10] [(.int ((B i0) &&& (255 : Int32)))]))
                  refine own_st (fun t k => XS.sipush X0.here hx rfl (hb hby d1_110) k) ?_
                  show own_Go p e below G (s₁.setTop (mkF m 113 #[.val (.ref ba), .val (.int (1 : Int32)), .val (.int en), .val (.int i0), .val (.int (1 : Int32)), .val (.int ((B i0) &&& (255 : Int32))), .val (.int (3 : Int32)), .val (.int (128 : Int32)), .val (.int (191 : Int32)), s9, s10] [(.int (237 : Int32)), (.int ((B i0) &&& (255 : Int32)))]))
                  by_cases c113_48 : ((B i0) &&& (255 : Int32)) = (237 : Int32)
                  · skip
                    refine own_st (fun t k => XS.icmpNo X0.here hx rfl (hb hby d1_113) rfl (teq c113_48).2 k) ?_
                    show own_Go p e below G (s₁.setTop (mkF m 116 #[.val (.ref ba), .val (.int (1 : Int32)), .val (.int en), .val (.int i0), .val (.int (1 : Int32)), .val (.int ((B i0) &&& (255 : Int32))), .val (.int (3 : Int32)), .val (.int (128 : Int32)), .val (.int (191 : Int32)), s9, s10] []))
                    refine own_st (fun t k => XS.sipush X0.here hx rfl (hb hby d1_116) k) ?_
                    show own_Go p e below G (s₁.setTop (mkF m 119 #[.val (.ref ba), .val (.int (1 : Int32)), .val (.int en), .val (.int i0), .val (.int (1 : Int32)), .val (.int ((B i0) &&& (255 : Int32))), .val (.int (3 : Int32)), .val (.int (128 : Int32)), .val (.int (191 : Int32)), s9, s10] [(.int (159 : Int32))]))
                    refine own_st (fun t k => XS.goto X0.here hx rfl (pc0 := 119) (pc' := 125) rfl (hb hby d1_119) (by decide) (by decide) k) ?_
                    show own_Go p e below G (s₁.setTop (mkF m 125 #[.val (.ref ba), .val (.int (1 : Int32)), .val (.int en), .val (.int i0), .val (.int (1 : Int32)), .val (.int ((B i0) &&& (255 : Int32))), .val (.int (3 : Int32)), .val (.int (128 : Int32)), .val (.int (191 : Int32)), s9, s10] [(.int (159 : Int32))]))
                    refine own_st (fun t k => XS.istore X0.here hx rfl (hb hby d1_125) rfl (l' := #[.val (.ref ba), .val (.int (1 : Int32)), .val (.int en), .val (.int i0), .val (.int (1 : Int32)), .val (.int ((B i0) &&& (255 : Int32))), .val (.int (3 : Int32)), .val (.int (128 : Int32)), .val (.int (159 : Int32)), s9, s10]) rfl k) ?_
                    show own_Go p e below G (s₁.setTop (mkF m 127 #[.val (.ref ba), .val (.int (1 : Int32)), .val (.int en), .val (.int i0), .val (.int (1 : Int32)), .val (.int ((B i0) &&& (255 : Int32))), .val (.int (3 : Int32)), .val (.int (128 : Int32)), .val (.int (159 : Int32)), s9, s10] []))
                    refine own_st (fun t k => XS.goto X0.here hx rfl (pc0 := 127) (pc' := 193) rfl (hb hby d1_127) (by decide) (by decide) k) ?_
                    show own_Go p e below G (s₁.setTop (mkF m 193 #[.val (.ref ba), .val (.int (1 : Int32)), .val (.int en), .val (.int i0), .val (.int (1 : Int32)), .val (.int ((B i0) &&& (255 : Int32))), .val (.int (3 : Int32)), .val (.int (128 : Int32)), .val (.int (159 : Int32)), s9, s10] []))
                    refine own_st (fun t k => XS.iload X0.here hx rfl (hb hby d1_193) rfl  k) ?_
                    show own_Go p e below G (s₁.setTop (mkF m 195 #[.val (.ref ba), .val (.int (1 : Int32)), .val (.int en), .val (.int i0), .val (.int (1 : Int32)), .val (.int ((B i0) &&& (255 : Int32))), .val (.int (3 : Int32)), .val (.int (128 : Int32)), .val (.int (159 : Int32)), s9, s10] [(.int (3 : Int32))]))
                    refine own_st (fun t k => XS.ifNo X0.here hx rfl (hb hby d1_195) rfl ((if0 _ _).trans (tlt (by decide)).2.2.2) k) ?_
                    show own_Go p e below G (s₁.setTop (mkF m 198 #[.val (.ref ba), .val (.int (1 : Int32)), .val (.int en), .val (.int i0), .val (.int (1 : Int32)), .val (.int ((B i0) &&& (255 : Int32))), .val (.int (3 : Int32)), .val (.int (128 : Int32)), .val (.int (159 : Int32)), s9, s10] []))
                    refine own_st (fun t k => XS.iloadN X0.here hx rfl (hb hby d1_198) rfl  k) ?_
                    show own_Go p e below G (s₁.setTop (mkF m 199 #[.val (.ref ba), .val (.int (1 : Int32)), .val (.int en), .val (.int i0), .val (.int (1 : Int32)), .val (.int ((B i0) &&& (255 : Int32))), .val (.int (3 : Int32)), .val (.int (128 : Int32)), .val (.int (159 : Int32)), s9, s10] [(.int en)]))
                    refine own_st (fun t k => XS.iloadN X0.here hx rfl (hb hby d1_199) rfl  k) ?_
                    show own_Go p e below G (s₁.setTop (mkF m 200 #[.val (.ref ba), .val (.int (1 : Int32)), .val (.int en), .val (.int i0), .val (.int (1 : Int32)), .val (.int ((B i0) &&& (255 : Int32))), .val (.int (3 : Int32)), .val (.int (128 : Int32)), .val (.int (159 : Int32)), s9, s10] [(.int i0), (.int en)]))
                    refine own_st (fun t k => XS.isub X0.here hx rfl (hb hby d1_200) rfl k) ?_
                    show own_Go p e below G (s₁.setTop (mkF m 201 #[.val (.ref ba), .val (.int (1 : Int32)), .val (.int en), .val (.int i0), .val (.int (1 : Int32)), .val (.int ((B i0) &&& (255 : Int32))), .val (.int (3 : Int32)), .val (.int (128 : Int32)), .val (.int (159 : Int32)), s9, s10] [(.int (en - i0))]))
                    refine own_st (fun t k => XS.iload X0.here hx rfl (hb hby d1_201) rfl  k) ?_
                    show own_Go p e below G (s₁.setTop (mkF m 203 #[.val (.ref ba), .val (.int (1 : Int32)), .val (.int en), .val (.int i0), .val (.int (1 : Int32)), .val (.int ((B i0) &&& (255 : Int32))), .val (.int (3 : Int32)), .val (.int (128 : Int32)), .val (.int (159 : Int32)), s9, s10] [(.int (3 : Int32)), (.int (en - i0))]))
                    by_cases c203_49 : (en - i0) < (3 : Int32)
                    · skip
                      refine own_st (fun t k => XS.icmpYes X0.here hx rfl (pc0 := 203) (pc' := 210) rfl (hb hby d1_203) rfl (tlt c203_49).1 (by decide) (by decide) k) ?_
                      show own_Go p e below G (s₁.setTop (mkF m 210 #[.val (.ref ba), .val (.int (1 : Int32)), .val (.int en), .val (.int i0), .val (.int (1 : Int32)), .val (.int ((B i0) &&& (255 : Int32))), .val (.int (3 : Int32)), .val (.int (128 : Int32)), .val (.int (159 : Int32)), s9, s10] []))
                      refine own_st (fun t k => XS.iconst X0.here hx rfl (hb hby d1_210) k) ?_
                      show own_Go p e below G (s₁.setTop (mkF m 211 #[.val (.ref ba), .val (.int (1 : Int32)), .val (.int en), .val (.int i0), .val (.int (1 : Int32)), .val (.int ((B i0) &&& (255 : Int32))), .val (.int (3 : Int32)), .val (.int (128 : Int32)), .val (.int (159 : Int32)), s9, s10] [(.int (0 : Int32))]))
                      exact bad211 _ _ _ _ _ _ hs9 (show own_vl (B i0 &&& 255) (B (i0 + 1) &&& 255) (B (i0 + 2) &&& 255) (B (i0 + 3) &&& 255) (en - i0) = 0 by unfold own_vl; rw [if_neg c39_3, if_neg c53_4, if_pos c61_5, if_neg c83_6, if_neg c94_40, if_pos c113_48, if_pos c203_49])
                    · skip
                      refine own_st (fun t k => XS.icmpNo X0.here hx rfl (hb hby d1_203) rfl (flt c203_49).1 k) ?_
                      show own_Go p e below G (s₁.setTop (mkF m 206 #[.val (.ref ba), .val (.int (1 : Int32)), .val (.int en), .val (.int i0), .val (.int (1 : Int32)), .val (.int ((B i0) &&& (255 : Int32))), .val (.int (3 : Int32)), .val (.int (128 : Int32)), .val (.int (159 : Int32)), s9, s10] []))
                      refine own_st (fun t k => XS.iconst X0.here hx rfl (hb hby d1_206) k) ?_
                      show own_Go p e below G (s₁.setTop (mkF m 207 #[.val (.ref ba), .val (.int (1 : Int32)), .val (.int en), .val (.int i0), .val (.int (1 : Int32)), .val (.int ((B i0) &&& (255 : Int32))), .val (.int (3 : Int32)), .val (.int (128 : Int32)), .val (.int (159 : Int32)), s9, s10] [(.int (1 : Int32))]))
                      refine own_st (fun t k => XS.goto X0.here hx rfl (pc0 := 207) (pc' := 211) rfl (hb hby d1_207) (by decide) (by decide) k) ?_
                      show own_Go p e below G (s₁.setTop (mkF m 211 #[.val (.ref ba), .val (.int (1 : Int32)), .val (.int en), .val (.int i0), .val (.int (1 : Int32)), .val (.int ((B i0) &&& (255 : Int32))), .val (.int (3 : Int32)), .val (.int (128 : Int32)), .val (.int (159 : Int32)), s9, s10] [(.int (1 : Int32))]))
                      refine own_st (fun t k => XS.istore X0.here hx rfl (hb hby d1_211) rfl (l' := #[.val (.ref ba), .val (.int (1 : Int32)), .val (.int en), .val (.int i0), .val (.int (1 : Int32)), .val (.int ((B i0) &&& (255 : Int32))), .val (.int (3 : Int32)), .val (.int (128 : Int32)), .val (.int (159 : Int32)), s9, s10]) rfl k) ?_
                      show own_Go p e below G (s₁.setTop (mkF m 213 #[.val (.ref ba), .val (.int (1 : Int32)), .val (.int en), .val (.int i0), .val (.int (1 : Int32)), .val (.int ((B i0) &&& (255 : Int32))), .val (.int (3 : Int32)), .val (.int (128 : Int32)), .val (.int (159 : Int32)), s9, s10] []))
                      refine own_st (fun t k => XS.iconst X0.here hx rfl (hb hby d1_213) k) ?_
                      show own_Go p e below G (s₁.setTop (mkF m 214 #[.val (.ref ba), .val (.int (1 : Int32)), .val (.int en), .val (.int i0), .val (.int (1 : Int32)), .val (.int ((B i0) &&& (255 : Int32))), .val (.int (3 : Int32)), .val (.int (128 : Int32)), .val (.int (159 : Int32)), s9, s10] [(.int (1 : Int32))]))
                      refine own_st (fun t k => XS.istore X0.here hx rfl (hb hby d1_214) rfl (l' := #[.val (.ref ba), .val (.int (1 : Int32)), .val (.int en), .val (.int i0), .val (.int (1 : Int32)), .val (.int ((B i0) &&& (255 : Int32))), .val (.int (3 : Int32)), .val (.int (128 : Int32)), .val (.int (159 : Int32)), .val (.int (1 : Int32)), s10]) (XS.store1 rfl hs9 rfl) k) ?_
                      show own_Go p e below G (s₁.setTop (mkF m 216 #[.val (.ref ba), .val (.int (1 : Int32)), .val (.int en), .val (.int i0), .val (.int (1 : Int32)), .val (.int ((B i0) &&& (255 : Int32))), .val (.int (3 : Int32)), .val (.int (128 : Int32)), .val (.int (159 : Int32)), .val (.int (1 : Int32)), s10] []))
                      refine own_st (fun t k => XS.iload X0.here hx rfl (hb hby d1_216) rfl  k) ?_
                      show own_Go p e below G (s₁.setTop (mkF m 218 #[.val (.ref ba), .val (.int (1 : Int32)), .val (.int en), .val (.int i0), .val (.int (1 : Int32)), .val (.int ((B i0) &&& (255 : Int32))), .val (.int (3 : Int32)), .val (.int (128 : Int32)), .val (.int (159 : Int32)), .val (.int (1 : Int32)), s10] [(.int (1 : Int32))]))
                      refine own_st (fun t k => XS.ifNo X0.here hx rfl (hb hby d1_218) rfl ((if0 _ _).trans (feq (by decide)).1) k) ?_
                      show own_Go p e below G (s₁.setTop (mkF m 221 #[.val (.ref ba), .val (.int (1 : Int32)), .val (.int en), .val (.int i0), .val (.int (1 : Int32)), .val (.int ((B i0) &&& (255 : Int32))), .val (.int (3 : Int32)), .val (.int (128 : Int32)), .val (.int (159 : Int32)), .val (.int (1 : Int32)), s10] []))
                      refine own_st (fun t k => XS.iload X0.here hx rfl (hb hby d1_221) rfl  k) ?_
                      show own_Go p e below G (s₁.setTop (mkF m 223 #[.val (.ref ba), .val (.int (1 : Int32)), .val (.int en), .val (.int i0), .val (.int (1 : Int32)), .val (.int ((B i0) &&& (255 : Int32))), .val (.int (3 : Int32)), .val (.int (128 : Int32)), .val (.int (159 : Int32)), .val (.int (1 : Int32)), s10] [(.int (1 : Int32))]))
                      refine own_st (fun t k => XS.iload X0.here hx rfl (hb hby d1_223) rfl  k) ?_
                      show own_Go p e below G (s₁.setTop (mkF m 225 #[.val (.ref ba), .val (.int (1 : Int32)), .val (.int en), .val (.int i0), .val (.int (1 : Int32)), .val (.int ((B i0) &&& (255 : Int32))), .val (.int (3 : Int32)), .val (.int (128 : Int32)), .val (.int (159 : Int32)), .val (.int (1 : Int32)), s10] [(.int (3 : Int32)), (.int (1 : Int32))]))
                      refine own_st (fun t k => XS.icmpNo X0.here hx rfl (hb hby d1_225) rfl (tlt (by decide)).2.1 k) ?_
                      show own_Go p e below G (s₁.setTop (mkF m 228 #[.val (.ref ba), .val (.int (1 : Int32)), .val (.int en), .val (.int i0), .val (.int (1 : Int32)), .val (.int ((B i0) &&& (255 : Int32))), .val (.int (3 : Int32)), .val (.int (128 : Int32)), .val (.int (159 : Int32)), .val (.int (1 : Int32)), s10] []))
                      refine own_st (fun t k => XS.aloadN X0.here hx rfl (hb hby d1_228) rfl rfl  k) ?_
                      show own_Go p e below G (s₁.setTop (mkF m 229 #[.val (.ref ba), .val (.int (1 : Int32)), .val (.int en), .val (.int i0), .val (.int (1 : Int32)), .val (.int ((B i0) &&& (255 : Int32))), .val (.int (3 : Int32)), .val (.int (128 : Int32)), .val (.int (159 : Int32)), .val (.int (1 : Int32)), s10] [(.ref ba)]))
                      refine own_st (fun t k => XS.iloadN X0.here hx rfl (hb hby d1_229) rfl  k) ?_
                      show own_Go p e below G (s₁.setTop (mkF m 230 #[.val (.ref ba), .val (.int (1 : Int32)), .val (.int en), .val (.int i0), .val (.int (1 : Int32)), .val (.int ((B i0) &&& (255 : Int32))), .val (.int (3 : Int32)), .val (.int (128 : Int32)), .val (.int (159 : Int32)), .val (.int (1 : Int32)), s10] [(.int i0), (.ref ba)]))
                      refine own_st (fun t k => XS.iload X0.here hx rfl (hb hby d1_230) rfl  k) ?_
                      show own_Go p e below G (s₁.setTop (mkF m 232 #[.val (.ref ba), .val (.int (1 : Int32)), .val (.int en), .val (.int i0), .val (.int (1 : Int32)), .val (.int ((B i0) &&& (255 : Int32))), .val (.int (3 : Int32)), .val (.int (128 : Int32)), .val (.int (159 : Int32)), .val (.int (1 : Int32)), s10] [(.int (1 : Int32)), (.int i0), (.ref ba)]))
                      refine own_st (fun t k => XS.iadd X0.here hx rfl (hb hby d1_232) rfl k) ?_
                      show own_Go p e below G (s₁.setTop (mkF m 233 #[.val (.ref ba), .val (.int (1 : Int32)), .val (.int en), .val (.int i0), .val (.int (1 : Int32)), .val (.int ((B i0) &&& (255 : Int32))), .val (.int (3 : Int32)), .val (.int (128 : Int32)), .val (.int (159 : Int32)), .val (.int (1 : Int32)), s10] [(.int (i0 + (1 : Int32))), (.ref ba)]))
                      have hb50 := own_bd (n := 6) (own_in hi0 c12_1 he.2 c203_49 (j := (1 : Int32)) (by decide) (by decide) (by decide)) (Int.le_trans he.2 (by decide))
                      have hin50 := inb_of S0 hb50
                      refine own_st (fun t k => X0.baloadBytes hx (j := (i0 + (1 : Int32))) (v := (.int (B (i0 + (1 : Int32))))) (by rw [e0]; exact Ar0.1) (State.isArrayOf_alike hZ.alike Ar0.2.1) Ar0.2.2 hin50 (hB _ hb50.1 hb50.2) (g := (mkF m 233 #[.val (.ref ba), .val (.int (1 : Int32)), .val (.int en), .val (.int i0), .val (.int (1 : Int32)), .val (.int ((B i0) &&& (255 : Int32))), .val (.int (3 : Int32)), .val (.int (128 : Int32)), .val (.int (159 : Int32)), .val (.int (1 : Int32)), s10] [(.int (i0 + (1 : Int32))), (.ref ba)])) rfl rfl (hb hby d1_233) t k) ?_
                      show own_Go p e below G (s₁.setTop (mkF m 234 #[.val (.ref ba), .val (.int (1 : Int32)), .val (.int en), .val (.int i0), .val (.int (1 : Int32)), .val (.int ((B i0) &&& (255 : Int32))), .val (.int (3 : Int32)), .val (.int (128 : Int32)), .val (.int (159 : Int32)), .val (.int (1 : Int32)), s10] [(.int (B (i0 + (1 : Int32))))]))
                      refine own_st (fun t k => XS.sipush X0.here hx rfl (hb hby d1_234) k) ?_
                      show own_Go p e below G (s₁.setTop (mkF m 237 #[.val (.ref ba), .val (.int (1 : Int32)), .val (.int en), .val (.int i0), .val (.int (1 : Int32)), .val (.int ((B i0) &&& (255 : Int32))), .val (.int (3 : Int32)), .val (.int (128 : Int32)), .val (.int (159 : Int32)), .val (.int (1 : Int32)), s10] [(.int (255 : Int32)), (.int (B (i0 + (1 : Int32))))]))
                      refine own_st (fun t k => XS.iand X0.here hx rfl (hb hby d1_237) rfl k) ?_
                      show own_Go p e below G (s₁.setTop (mkF m 238 #[.val (.ref ba), .val (.int (1 : Int32)), .val (.int en), .val (.int i0), .val (.int (1 : Int32)), .val (.int ((B i0) &&& (255 : Int32))), .val (.int (3 : Int32)), .val (.int (128 : Int32)), .val (.int (159 : Int32)), .val (.int (1 : Int32)), s10] [(.int ((B (i0 + (1 : Int32))) &&& (255 : Int32)))]))
                      refine own_st (fun t k => XS.istore X0.here hx rfl (hb hby d1_238) rfl (l' := #[.val (.ref ba), .val (.int (1 : Int32)), .val (.int en), .val (.int i0), .val (.int (1 : Int32)), .val (.int ((B i0) &&& (255 : Int32))), .val (.int (3 : Int32)), .val (.int (128 : Int32)), .val (.int (159 : Int32)), .val (.int (1 : Int32)), .val (.int ((B (i0 + (1 : Int32))) &&& (255 : Int32)))]) (XS.store1 rfl hs10 rfl) k) ?_
                      show own_Go p e below G (s₁.setTop (mkF m 240 #[.val (.ref ba), .val (.int (1 : Int32)), .val (.int en), .val (.int i0), .val (.int (1 : Int32)), .val (.int ((B i0) &&& (255 : Int32))), .val (.int (3 : Int32)), .val (.int (128 : Int32)), .val (.int (159 : Int32)), .val (.int (1 : Int32)), .val (.int ((B (i0 + (1 : Int32))) &&& (255 : Int32)))] []))
                      refine own_st (fun t k => XS.iload X0.here hx rfl (hb hby d1_240) rfl  k) ?_
                      show own_Go p e below G (s₁.setTop (mkF m 242 #[.val (.ref ba), .val (.int (1 : Int32)), .val (.int en), .val (.int i0), .val (.int (1 : Int32)), .val (.int ((B i0) &&& (255 : Int32))), .val (.int (3 : Int32)), .val (.int (128 : Int32)), .val (.int (159 : Int32)), .val (.int (1 : Int32)), .val (.int ((B (i0 + (1 : Int32))) &&& (255 : Int32)))] [(.int (1 : Int32))]))
                      refine own_st (fun t k => XS.iconst X0.here hx rfl (hb hby d1_242) k) ?_
                      show own_Go p e below G (s₁.setTop (mkF m 243 #[.val (.ref ba), .val (.int (1 : Int32)), .val (.int en), .val (.int i0), .val (.int (1 : Int32)), .val (.int ((B i0) &&& (255 : Int32))), .val (.int (3 : Int32)), .val (.int (128 : Int32)), .val (.int (159 : Int32)), .val (.int (1 : Int32)), .val (.int ((B (i0 + (1 : Int32))) &&& (255 : Int32)))] [(.int (1 : Int32)), (.int (1 : Int32))]))
                      refine own_st (fun t k => XS.icmpNo X0.here hx rfl (hb hby d1_243) rfl (teq (by decide)).2 k) ?_
                      show own_Go p e below G (s₁.setTop (mkF m 246 #[.val (.ref ba), .val (.int (1 : Int32)), .val (.int en), .val (.int i0), .val (.int (1 : Int32)), .val (.int ((B i0) &&& (255 : Int32))), .val (.int (3 : Int32)), .val (.int (128 : Int32)), .val (.int (159 : Int32)), .val (.int (1 : Int32)), .val (.int ((B (i0 + (1 : Int32))) &&& (255 : Int32)))] []))
                      refine own_st (fun t k => XS.iload X0.here hx rfl (hb hby d1_246) rfl  k) ?_
                      show own_Go p e below G (s₁.setTop (mkF m 248 #[.val (.ref ba), .val (.int (1 : Int32)), .val (.int en), .val (.int i0), .val (.int (1 : Int32)), .val (.int ((B i0) &&& (255 : Int32))), .val (.int (3 : Int32)), .val (.int (128 : Int32)), .val (.int (159 : Int32)), .val (.int (1 : Int32)), .val (.int ((B (i0 + (1 : Int32))) &&& (255 : Int32)))] [(.int ((B (i0 + (1 : Int32))) &&& (255 : Int32)))]))
                      refine own_st (fun t k => XS.iload X0.here hx rfl (hb hby d1_248) rfl  k) ?_
                      show own_Go p e below G (s₁.setTop (mkF m 250 #[.val (.ref ba), .val (.int (1 : Int32)), .val (.int en), .val (.int i0), .val (.int (1 : Int32)), .val (.int ((B i0) &&& (255 : Int32))), .val (.int (3 : Int32)), .val (.int (128 : Int32)), .val (.int (159 : Int32)), .val (.int (1 : Int32)), .val (.int ((B (i0 + (1 : Int32))) &&& (255 : Int32)))] [(.int (128 : Int32)), (.int ((B (i0 + (1 : Int32))) &&& (255 : Int32)))]))
                      by_cases c250_51 : ((B (i0 + (1 : Int32))) &&& (255 : Int32)) < (128 : Int32)
                      · skip
                        refine own_st (fun t k => XS.icmpYes X0.here hx rfl (pc0 := 250) (pc' := 264) rfl (hb hby d1_250) rfl (tlt c250_51).1 (by decide) (by decide) k) ?_
                        show own_Go p e below G (s₁.setTop (mkF m 264 #[.val (.ref ba), .val (.int (1 : Int32)), .val (.int en), .val (.int i0), .val (.int (1 : Int32)), .val (.int ((B i0) &&& (255 : Int32))), .val (.int (3 : Int32)), .val (.int (128 : Int32)), .val (.int (159 : Int32)), .val (.int (1 : Int32)), .val (.int ((B (i0 + (1 : Int32))) &&& (255 : Int32)))] []))
                        refine own_st (fun t k => XS.iconst X0.here hx rfl (hb hby d1_264) k) ?_
                        show own_Go p e below G (s₁.setTop (mkF m 265 #[.val (.ref ba), .val (.int (1 : Int32)), .val (.int en), .val (.int i0), .val (.int (1 : Int32)), .val (.int ((B i0) &&& (255 : Int32))), .val (.int (3 : Int32)), .val (.int (128 : Int32)), .val (.int (159 : Int32)), .val (.int (1 : Int32)), .val (.int ((B (i0 + (1 : Int32))) &&& (255 : Int32)))] [(.int (0 : Int32))]))
                        refine own_st (fun t k => XS.goto X0.here hx rfl (pc0 := 265) (pc' := 289) rfl (hb hby d1_265) (by decide) (by decide) k) ?_
                        show own_Go p e below G (s₁.setTop (mkF m 289 #[.val (.ref ba), .val (.int (1 : Int32)), .val (.int en), .val (.int i0), .val (.int (1 : Int32)), .val (.int ((B i0) &&& (255 : Int32))), .val (.int (3 : Int32)), .val (.int (128 : Int32)), .val (.int (159 : Int32)), .val (.int (1 : Int32)), .val (.int ((B (i0 + (1 : Int32))) &&& (255 : Int32)))] [(.int (0 : Int32))]))
                        exact bad289 _ _ _ _ _ _ (show own_vl (B i0 &&& 255) (B (i0 + 1) &&& 255) (B (i0 + 2) &&& 255) (B (i0 + 3) &&& 255) (en - i0) = 0 by unfold own_vl; rw [if_neg c39_3, if_neg c53_4, if_pos c61_5, if_neg c83_6, if_neg c94_40, if_pos c113_48, if_neg c203_49, if_pos c250_51])
                      · skip
                        refine own_st (fun t k => XS.icmpNo X0.here hx rfl (hb hby d1_250) rfl (flt c250_51).1 k) ?_
                        show own_Go p e below G (s₁.setTop (mkF m 253 #[.val (.ref ba), .val (.int (1 : Int32)), .val (.int en), .val (.int i0), .val (.int (1 : Int32)), .val (.int ((B i0) &&& (255 : Int32))), .val (.int (3 : Int32)), .val (.int (128 : Int32)), .val (.int (159 : Int32)), .val (.int (1 : Int32)), .val (.int ((B (i0 + (1 : Int32))) &&& (255 : Int32)))] []))
                        refine own_st (fun t k => XS.iload X0.here hx rfl (hb hby d1_253) rfl  k) ?_
                        show own_Go p e below G (s₁.setTop (mkF m 255 #[.val (.ref ba), .val (.int (1 : Int32)), .val (.int en), .val (.int i0), .val (.int (1 : Int32)), .val (.int ((B i0) &&& (255 : Int32))), .val (.int (3 : Int32)), .val (.int (128 : Int32)), .val (.int (159 : Int32)), .val (.int (1 : Int32)), .val (.int ((B (i0 + (1 : Int32))) &&& (255 : Int32)))] [(.int ((B (i0 + (1 : Int32))) &&& (255 : Int32)))]))
                        refine own_st (fun t k => XS.iload X0.here hx rfl (hb hby d1_255) rfl  k) ?_
                        show own_Go p e below G (s₁.setTop (mkF m 257 #[.val (.ref ba), .val (.int (1 : Int32)), .val (.int en), .val (.int i0), .val (.int (1 : Int32)), .val (.int ((B i0) &&& (255 : Int32))), .val (.int (3 : Int32)), .val (.int (128 : Int32)), .val (.int (159 : Int32)), .val (.int (1 : Int32)), .val (.int ((B (i0 + (1 : Int32))) &&& (255 : Int32)))] [(.int (159 : Int32)), (.int ((B (i0 + (1 : Int32))) &&& (255 : Int32)))]))
                        by_cases c257_52 : (159 : Int32) < ((B (i0 + (1 : Int32))) &&& (255 : Int32))
                        · skip
                          refine own_st (fun t k => XS.icmpYes X0.here hx rfl (pc0 := 257) (pc' := 264) rfl (hb hby d1_257) rfl (tlt c257_52).2.2.1 (by decide) (by decide) k) ?_
                          show own_Go p e below G (s₁.setTop (mkF m 264 #[.val (.ref ba), .val (.int (1 : Int32)), .val (.int en), .val (.int i0), .val (.int (1 : Int32)), .val (.int ((B i0) &&& (255 : Int32))), .val (.int (3 : Int32)), .val (.int (128 : Int32)), .val (.int (159 : Int32)), .val (.int (1 : Int32)), .val (.int ((B (i0 + (1 : Int32))) &&& (255 : Int32)))] []))
                          refine own_st (fun t k => XS.iconst X0.here hx rfl (hb hby d1_264) k) ?_
                          show own_Go p e below G (s₁.setTop (mkF m 265 #[.val (.ref ba), .val (.int (1 : Int32)), .val (.int en), .val (.int i0), .val (.int (1 : Int32)), .val (.int ((B i0) &&& (255 : Int32))), .val (.int (3 : Int32)), .val (.int (128 : Int32)), .val (.int (159 : Int32)), .val (.int (1 : Int32)), .val (.int ((B (i0 + (1 : Int32))) &&& (255 : Int32)))] [(.int (0 : Int32))]))
                          refine own_st (fun t k => XS.goto X0.here hx rfl (pc0 := 265) (pc' := 289) rfl (hb hby d1_265) (by decide) (by decide) k) ?_
                          show own_Go p e below G (s₁.setTop (mkF m 289 #[.val (.ref ba), .val (.int (1 : Int32)), .val (.int en), .val (.int i0), .val (.int (1 : Int32)), .val (.int ((B i0) &&& (255 : Int32))), .val (.int (3 : Int32)), .val (.int (128 : Int32)), .val (.int (159 : Int32)), .val (.int (1 : Int32)), .val (.int ((B (i0 + (1 : Int32))) &&& (255 : Int32)))] [(.int (0 : Int32))]))
                          exact bad289 _ _ _ _ _ _ (show own_vl (B i0 &&& 255) (B (i0 + 1) &&& 255) (B (i0 + 2) &&& 255) (B (i0 + 3) &&& 255) (en - i0) = 0 by unfold own_vl; rw [if_neg c39_3, if_neg c53_4, if_pos c61_5, if_neg c83_6, if_neg c94_40, if_pos c113_48, if_neg c203_49, if_neg c250_51, if_pos c257_52])
                        · skip
                          refine own_st (fun t k => XS.icmpNo X0.here hx rfl (hb hby d1_257) rfl (flt c257_52).2.2.1 k) ?_
                          show own_Go p e below G (s₁.setTop (mkF m 260 #[.val (.ref ba), .val (.int (1 : Int32)), .val (.int en), .val (.int i0), .val (.int (1 : Int32)), .val (.int ((B i0) &&& (255 : Int32))), .val (.int (3 : Int32)), .val (.int (128 : Int32)), .val (.int (159 : Int32)), .val (.int (1 : Int32)), .val (.int ((B (i0 + (1 : Int32))) &&& (255 : Int32)))] []))
                          refine own_st (fun t k => XS.iconst X0.here hx rfl (hb hby d1_260) k) ?_
                          show own_Go p e below G (s₁.setTop (mkF m 261 #[.val (.ref ba), .val (.int (1 : Int32)), .val (.int en), .val (.int i0), .val (.int (1 : Int32)), .val (.int ((B i0) &&& (255 : Int32))), .val (.int (3 : Int32)), .val (.int (128 : Int32)), .val (.int (159 : Int32)), .val (.int (1 : Int32)), .val (.int ((B (i0 + (1 : Int32))) &&& (255 : Int32)))] [(.int (1 : Int32))]))
                          refine own_st (fun t k => XS.goto X0.here hx rfl (pc0 := 261) (pc' := 289) rfl (hb hby d1_261) (by decide) (by decide) k) ?_
                          show own_Go p e below G (s₁.setTop (mkF m 289 #[.val (.ref ba), .val (.int (1 : Int32)), .val (.int en), .val (.int i0), .val (.int (1 : Int32)), .val (.int ((B i0) &&& (255 : Int32))), .val (.int (3 : Int32)), .val (.int (128 : Int32)), .val (.int (159 : Int32)), .val (.int (1 : Int32)), .val (.int ((B (i0 + (1 : Int32))) &&& (255 : Int32)))] [(.int (1 : Int32))]))
                          refine own_st (fun t k => XS.istore X0.here hx rfl (hb hby d1_289) rfl (l' := #[.val (.ref ba), .val (.int (1 : Int32)), .val (.int en), .val (.int i0), .val (.int (1 : Int32)), .val (.int ((B i0) &&& (255 : Int32))), .val (.int (3 : Int32)), .val (.int (128 : Int32)), .val (.int (159 : Int32)), .val (.int (1 : Int32)), .val (.int ((B (i0 + (1 : Int32))) &&& (255 : Int32)))]) rfl k) ?_
                          show own_Go p e below G (s₁.setTop (mkF m 291 #[.val (.ref ba), .val (.int (1 : Int32)), .val (.int en), .val (.int i0), .val (.int (1 : Int32)), .val (.int ((B i0) &&& (255 : Int32))), .val (.int (3 : Int32)), .val (.int (128 : Int32)), .val (.int (159 : Int32)), .val (.int (1 : Int32)), .val (.int ((B (i0 + (1 : Int32))) &&& (255 : Int32)))] []))
                          refine own_st (fun t k => XS.iinc X0.here hx rfl (hb hby d1_291) rfl (l' := #[.val (.ref ba), .val (.int (1 : Int32)), .val (.int en), .val (.int i0), .val (.int (1 : Int32)), .val (.int ((B i0) &&& (255 : Int32))), .val (.int (3 : Int32)), .val (.int (128 : Int32)), .val (.int (159 : Int32)), .val (.int (2 : Int32)), .val (.int ((B (i0 + (1 : Int32))) &&& (255 : Int32)))]) rfl k) ?_
                          show own_Go p e below G (s₁.setTop (mkF m 294 #[.val (.ref ba), .val (.int (1 : Int32)), .val (.int en), .val (.int i0), .val (.int (1 : Int32)), .val (.int ((B i0) &&& (255 : Int32))), .val (.int (3 : Int32)), .val (.int (128 : Int32)), .val (.int (159 : Int32)), .val (.int (2 : Int32)), .val (.int ((B (i0 + (1 : Int32))) &&& (255 : Int32)))] []))
                          refine own_st (fun t k => XS.goto X0.here hx rfl (pc0 := 294) (pc' := 216) rfl (hb hby d1_294) (by decide) (by decide) k) ?_
                          show own_Go p e below G (s₁.setTop (mkF m 216 #[.val (.ref ba), .val (.int (1 : Int32)), .val (.int en), .val (.int i0), .val (.int (1 : Int32)), .val (.int ((B i0) &&& (255 : Int32))), .val (.int (3 : Int32)), .val (.int (128 : Int32)), .val (.int (159 : Int32)), .val (.int (2 : Int32)), .val (.int ((B (i0 + (1 : Int32))) &&& (255 : Int32)))] []))
                          refine own_st (fun t k => XS.iload X0.here hx rfl (hb hby d1_216) rfl  k) ?_
                          show own_Go p e below G (s₁.setTop (mkF m 218 #[.val (.ref ba), .val (.int (1 : Int32)), .val (.int en), .val (.int i0), .val (.int (1 : Int32)), .val (.int ((B i0) &&& (255 : Int32))), .val (.int (3 : Int32)), .val (.int (128 : Int32)), .val (.int (159 : Int32)), .val (.int (2 : Int32)), .val (.int ((B (i0 + (1 : Int32))) &&& (255 : Int32)))] [(.int (1 : Int32))]))
                          refine own_st (fun t k => XS.ifNo X0.here hx rfl (hb hby d1_218) rfl ((if0 _ _).trans (feq (by decide)).1) k) ?_
                          show own_Go p e below G (s₁.setTop (mkF m 221 #[.val (.ref ba), .val (.int (1 : Int32)), .val (.int en), .val (.int i0), .val (.int (1 : Int32)), .val (.int ((B i0) &&& (255 : Int32))), .val (.int (3 : Int32)), .val (.int (128 : Int32)), .val (.int (159 : Int32)), .val (.int (2 : Int32)), .val (.int ((B (i0 + (1 : Int32))) &&& (255 : Int32)))] []))
                          refine own_st (fun t k => XS.iload X0.here hx rfl (hb hby d1_221) rfl  k) ?_
                          show own_Go p e below G (s₁.setTop (mkF m 223 #[.val (.ref ba), .val (.int (1 : Int32)), .val (.int en), .val (.int i0), .val (.int (1 : Int32)), .val (.int ((B i0) &&& (255 : Int32))), .val (.int (3 : Int32)), .val (.int (128 : Int32)), .val (.int (159 : Int32)), .val (.int (2 : Int32)), .val (.int ((B (i0 + (1 : Int32))) &&& (255 : Int32)))] [(.int (2 : Int32))]))
                          refine own_st (fun t k => XS.iload X0.here hx rfl (hb hby d1_223) rfl  k) ?_
                          show own_Go p e below G (s₁.setTop (mkF m 225 #[.val (.ref ba), .val (.int (1 : Int32)), .val (.int en), .val (.int i0), .val (.int (1 : Int32)), .val (.int ((B i0) &&& (255 : Int32))), .val (.int (3 : Int32)), .val (.int (128 : Int32)), .val (.int (159 : Int32)), .val (.int (2 : Int32)), .val (.int ((B (i0 + (1 : Int32))) &&& (255 : Int32)))] [(.int (3 : Int32)), (.int (2 : Int32))]))
                          refine own_st (fun t k => XS.icmpNo X0.here hx rfl (hb hby d1_225) rfl (tlt (by decide)).2.1 k) ?_
                          show own_Go p e below G (s₁.setTop (mkF m 228 #[.val (.ref ba), .val (.int (1 : Int32)), .val (.int en), .val (.int i0), .val (.int (1 : Int32)), .val (.int ((B i0) &&& (255 : Int32))), .val (.int (3 : Int32)), .val (.int (128 : Int32)), .val (.int (159 : Int32)), .val (.int (2 : Int32)), .val (.int ((B (i0 + (1 : Int32))) &&& (255 : Int32)))] []))
                          refine own_st (fun t k => XS.aloadN X0.here hx rfl (hb hby d1_228) rfl rfl  k) ?_
                          show own_Go p e below G (s₁.setTop (mkF m 229 #[.val (.ref ba), .val (.int (1 : Int32)), .val (.int en), .val (.int i0), .val (.int (1 : Int32)), .val (.int ((B i0) &&& (255 : Int32))), .val (.int (3 : Int32)), .val (.int (128 : Int32)), .val (.int (159 : Int32)), .val (.int (2 : Int32)), .val (.int ((B (i0 + (1 : Int32))) &&& (255 : Int32)))] [(.ref ba)]))
                          refine own_st (fun t k => XS.iloadN X0.here hx rfl (hb hby d1_229) rfl  k) ?_
                          show own_Go p e below G (s₁.setTop (mkF m 230 #[.val (.ref ba), .val (.int (1 : Int32)), .val (.int en), .val (.int i0), .val (.int (1 : Int32)), .val (.int ((B i0) &&& (255 : Int32))), .val (.int (3 : Int32)), .val (.int (128 : Int32)), .val (.int (159 : Int32)), .val (.int (2 : Int32)), .val (.int ((B (i0 + (1 : Int32))) &&& (255 : Int32)))] [(.int i0), (.ref ba)]))
                          refine own_st (fun t k => XS.iload X0.here hx rfl (hb hby d1_230) rfl  k) ?_
                          show own_Go p e below G (s₁.setTop (mkF m 232 #[.val (.ref ba), .val (.int (1 : Int32)), .val (.int en), .val (.int i0), .val (.int (1 : Int32)), .val (.int ((B i0) &&& (255 : Int32))), .val (.int (3 : Int32)), .val (.int (128 : Int32)), .val (.int (159 : Int32)), .val (.int (2 : Int32)), .val (.int ((B (i0 + (1 : Int32))) &&& (255 : Int32)))] [(.int (2 : Int32)), (.int i0), (.ref ba)]))
                          refine own_st (fun t k => XS.iadd X0.here hx rfl (hb hby d1_232) rfl k) ?_
                          show own_Go p e below G (s₁.setTop (mkF m 233 #[.val (.ref ba), .val (.int (1 : Int32)), .val (.int en), .val (.int i0), .val (.int (1 : Int32)), .val (.int ((B i0) &&& (255 : Int32))), .val (.int (3 : Int32)), .val (.int (128 : Int32)), .val (.int (159 : Int32)), .val (.int (2 : Int32)), .val (.int ((B (i0 + (1 : Int32))) &&& (255 : Int32)))] [(.int (i0 + (2 : Int32))), (.ref ba)]))
                          have hb53 := own_bd (n := 6) (own_in hi0 c12_1 he.2 c203_49 (j := (2 : Int32)) (by decide) (by decide) (by decide)) (Int.le_trans he.2 (by decide))
                          have hin53 := inb_of S0 hb53
                          refine own_st (fun t k => X0.baloadBytes hx (j := (i0 + (2 : Int32))) (v := (.int (B (i0 + (2 : Int32))))) (by rw [e0]; exact Ar0.1) (State.isArrayOf_alike hZ.alike Ar0.2.1) Ar0.2.2 hin53 (hB _ hb53.1 hb53.2) (g := (mkF m 233 #[.val (.ref ba), .val (.int (1 : Int32)), .val (.int en), .val (.int i0), .val (.int (1 : Int32)), .val (.int ((B i0) &&& (255 : Int32))), .val (.int (3 : Int32)), .val (.int (128 : Int32)), .val (.int (159 : Int32)), .val (.int (2 : Int32)), .val (.int ((B (i0 + (1 : Int32))) &&& (255 : Int32)))] [(.int (i0 + (2 : Int32))), (.ref ba)])) rfl rfl (hb hby d1_233) t k) ?_
                          show own_Go p e below G (s₁.setTop (mkF m 234 #[.val (.ref ba), .val (.int (1 : Int32)), .val (.int en), .val (.int i0), .val (.int (1 : Int32)), .val (.int ((B i0) &&& (255 : Int32))), .val (.int (3 : Int32)), .val (.int (128 : Int32)), .val (.int (159 : Int32)), .val (.int (2 : Int32)), .val (.int ((B (i0 + (1 : Int32))) &&& (255 : Int32)))] [(.int (B (i0 + (2 : Int32))))]))
                          refine own_st (fun t k => XS.sipush X0.here hx rfl (hb hby d1_234) k) ?_
                          show own_Go p e below G (s₁.setTop (mkF m 237 #[.val (.ref ba), .val (.int (1 : Int32)), .val (.int en), .val (.int i0), .val (.int (1 : Int32)), .val (.int ((B i0) &&& (255 : Int32))), .val (.int (3 : Int32)), .val (.int (128 : Int32)), .val (.int (159 : Int32)), .val (.int (2 : Int32)), .val (.int ((B (i0 + (1 : Int32))) &&& (255 : Int32)))] [(.int (255 : Int32)), (.int (B (i0 + (2 : Int32))))]))
                          refine own_st (fun t k => XS.iand X0.here hx rfl (hb hby d1_237) rfl k) ?_
                          show own_Go p e below G (s₁.setTop (mkF m 238 #[.val (.ref ba), .val (.int (1 : Int32)), .val (.int en), .val (.int i0), .val (.int (1 : Int32)), .val (.int ((B i0) &&& (255 : Int32))), .val (.int (3 : Int32)), .val (.int (128 : Int32)), .val (.int (159 : Int32)), .val (.int (2 : Int32)), .val (.int ((B (i0 + (1 : Int32))) &&& (255 : Int32)))] [(.int ((B (i0 + (2 : Int32))) &&& (255 : Int32)))]))
                          refine own_st (fun t k => XS.istore X0.here hx rfl (hb hby d1_238) rfl (l' := #[.val (.ref ba), .val (.int (1 : Int32)), .val (.int en), .val (.int i0), .val (.int (1 : Int32)), .val (.int ((B i0) &&& (255 : Int32))), .val (.int (3 : Int32)), .val (.int (128 : Int32)), .val (.int (159 : Int32)), .val (.int (2 : Int32)), .val (.int ((B (i0 + (2 : Int32))) &&& (255 : Int32)))]) rfl k) ?_
                          show own_Go p e below G (s₁.setTop (mkF m 240 #[.val (.ref ba), .val (.int (1 : Int32)), .val (.int en), .val (.int i0), .val (.int (1 : Int32)), .val (.int ((B i0) &&& (255 : Int32))), .val (.int (3 : Int32)), .val (.int (128 : Int32)), .val (.int (159 : Int32)), .val (.int (2 : Int32)), .val (.int ((B (i0 + (2 : Int32))) &&& (255 : Int32)))] []))
                          refine own_st (fun t k => XS.iload X0.here hx rfl (hb hby d1_240) rfl  k) ?_
                          show own_Go p e below G (s₁.setTop (mkF m 242 #[.val (.ref ba), .val (.int (1 : Int32)), .val (.int en), .val (.int i0), .val (.int (1 : Int32)), .val (.int ((B i0) &&& (255 : Int32))), .val (.int (3 : Int32)), .val (.int (128 : Int32)), .val (.int (159 : Int32)), .val (.int (2 : Int32)), .val (.int ((B (i0 + (2 : Int32))) &&& (255 : Int32)))] [(.int (2 : Int32))]))
                          refine own_st (fun t k => XS.iconst X0.here hx rfl (hb hby d1_242) k) ?_
                          show own_Go p e below G (s₁.setTop (mkF m 243 #[.val (.ref ba), .val (.int (1 : Int32)), .val (.int en), .val (.int i0), .val (.int (1 : Int32)), .val (.int ((B i0) &&& (255 : Int32))), .val (.int (3 : Int32)), .val (.int (128 : Int32)), .val (.int (159 : Int32)), .val (.int (2 : Int32)), .val (.int ((B (i0 + (2 : Int32))) &&& (255 : Int32)))] [(.int (1 : Int32)), (.int (2 : Int32))]))
                          refine own_st (fun t k => XS.icmpYes X0.here hx rfl (pc0 := 243) (pc' := 268) rfl (hb hby d1_243) rfl (feq (by decide)).2 (by decide) (by decide) k) ?_
                          show own_Go p e below G (s₁.setTop (mkF m 268 #[.val (.ref ba), .val (.int (1 : Int32)), .val (.int en), .val (.int i0), .val (.int (1 : Int32)), .val (.int ((B i0) &&& (255 : Int32))), .val (.int (3 : Int32)), .val (.int (128 : Int32)), .val (.int (159 : Int32)), .val (.int (2 : Int32)), .val (.int ((B (i0 + (2 : Int32))) &&& (255 : Int32)))] []))
                          refine own_st (fun t k => XS.iload X0.here hx rfl (hb hby d1_268) rfl  k) ?_
                          show own_Go p e below G (s₁.setTop (mkF m 270 #[.val (.ref ba), .val (.int (1 : Int32)), .val (.int en), .val (.int i0), .val (.int (1 : Int32)), .val (.int ((B i0) &&& (255 : Int32))), .val (.int (3 : Int32)), .val (.int (128 : Int32)), .val (.int (159 : Int32)), .val (.int (2 : Int32)), .val (.int ((B (i0 + (2 : Int32))) &&& (255 : Int32)))] [(.int ((B (i0 + (2 : Int32))) &&& (255 : Int32)))]))
                          refine own_st (fun t k => XS.sipush X0.here hx rfl (hb hby d1_270) k) ?_
                          show own_Go p e below G (s₁.setTop (mkF m 273 #[.val (.ref ba), .val (.int (1 : Int32)), .val (.int en), .val (.int i0), .val (.int (1 : Int32)), .val (.int ((B i0) &&& (255 : Int32))), .val (.int (3 : Int32)), .val (.int (128 : Int32)), .val (.int (159 : Int32)), .val (.int (2 : Int32)), .val (.int ((B (i0 + (2 : Int32))) &&& (255 : Int32)))] [(.int (128 : Int32)), (.int ((B (i0 + (2 : Int32))) &&& (255 : Int32)))]))
                          by_cases c273_54 : ((B (i0 + (2 : Int32))) &&& (255 : Int32)) < (128 : Int32)
                          · skip
                            refine own_st (fun t k => XS.icmpYes X0.here hx rfl (pc0 := 273) (pc' := 288) rfl (hb hby d1_273) rfl (tlt c273_54).1 (by decide) (by decide) k) ?_
                            show own_Go p e below G (s₁.setTop (mkF m 288 #[.val (.ref ba), .val (.int (1 : Int32)), .val (.int en), .val (.int i0), .val (.int (1 : Int32)), .val (.int ((B i0) &&& (255 : Int32))), .val (.int (3 : Int32)), .val (.int (128 : Int32)), .val (.int (159 : Int32)), .val (.int (2 : Int32)), .val (.int ((B (i0 + (2 : Int32))) &&& (255 : Int32)))] []))
                            refine own_st (fun t k => XS.iconst X0.here hx rfl (hb hby d1_288) k) ?_
                            show own_Go p e below G (s₁.setTop (mkF m 289 #[.val (.ref ba), .val (.int (1 : Int32)), .val (.int en), .val (.int i0), .val (.int (1 : Int32)), .val (.int ((B i0) &&& (255 : Int32))), .val (.int (3 : Int32)), .val (.int (128 : Int32)), .val (.int (159 : Int32)), .val (.int (2 : Int32)), .val (.int ((B (i0 + (2 : Int32))) &&& (255 : Int32)))] [(.int (0 : Int32))]))
                            exact bad289 _ _ _ _ _ _ (show own_vl (B i0 &&& 255) (B (i0 + 1) &&& 255) (B (i0 + 2) &&& 255) (B (i0 + 3) &&& 255) (en - i0) = 0 by unfold own_vl; rw [if_neg c39_3, if_neg c53_4, if_pos c61_5, if_neg c83_6, if_neg c94_40, if_pos c113_48, if_neg c203_49, if_neg c250_51, if_neg c257_52, if_pos c273_54])
                          · skip
                            refine own_st (fun t k => XS.icmpNo X0.here hx rfl (hb hby d1_273) rfl (flt c273_54).1 k) ?_
                            show own_Go p e below G (s₁.setTop (mkF m 276 #[.val (.ref ba), .val (.int (1 : Int32)), .val (.int en), .val (.int i0), .val (.int (1 : Int32)), .val (.int ((B i0) &&& (255 : Int32))), .val (.int (3 : Int32)), .val (.int (128 : Int32)), .val (.int (159 : Int32)), .val (.int (2 : Int32)), .val (.int ((B (i0 + (2 : Int32))) &&& (255 : Int32)))] []))
                            refine own_st (fun t k => XS.iload X0.here hx rfl (hb hby d1_276) rfl  k) ?_
                            show own_Go p e below G (s₁.setTop (mkF m 278 #[.val (.ref ba), .val (.int (1 : Int32)), .val (.int en), .val (.int i0), .val (.int (1 : Int32)), .val (.int ((B i0) &&& (255 : Int32))), .val (.int (3 : Int32)), .val (.int (128 : Int32)), .val (.int (159 : Int32)), .val (.int (2 : Int32)), .val (.int ((B (i0 + (2 : Int32))) &&& (255 : Int32)))] [(.int ((B (i0 + (2 : Int32))) &&& (255 : Int32)))]))
                            refine own_st (fun t k => XS.sipush X0.here hx rfl (hb hby d1_278) k) ?_
                            show own_Go p e below G (s₁.setTop (mkF m 281 #[.val (.ref ba), .val (.int (1 : Int32)), .val (.int en), .val (.int i0), .val (.int (1 : Int32)), .val (.int ((B i0) &&& (255 : Int32))), .val (.int (3 : Int32)), .val (.int (128 : Int32)), .val (.int (159 : Int32)), .val (.int (2 : Int32)), .val (.int ((B (i0 + (2 : Int32))) &&& (255 : Int32)))] [(.int (191 : Int32)), (.int ((B (i0 + (2 : Int32))) &&& (255 : Int32)))]))
                            by_cases c281_55 : (191 : Int32) < ((B (i0 + (2 : Int32))) &&& (255 : Int32))
                            · skip
                              refine own_st (fun t k => XS.icmpYes X0.here hx rfl (pc0 := 281) (pc' := 288) rfl (hb hby d1_281) rfl (tlt c281_55).2.2.1 (by decide) (by decide) k) ?_
                              show own_Go p e below G (s₁.setTop (mkF m 288 #[.val (.ref ba), .val (.int (1 : Int32)), .val (.int en), .val (.int i0), .val (.int (1 : Int32)), .val (.int ((B i0) &&& (255 : Int32))), .val (.int (3 : Int32)), .val (.int (128 : Int32)), .val (.int (159 : Int32)), .val (.int (2 : Int32)), .val (.int ((B (i0 + (2 : Int32))) &&& (255 : Int32)))] []))
                              refine own_st (fun t k => XS.iconst X0.here hx rfl (hb hby d1_288) k) ?_
                              show own_Go p e below G (s₁.setTop (mkF m 289 #[.val (.ref ba), .val (.int (1 : Int32)), .val (.int en), .val (.int i0), .val (.int (1 : Int32)), .val (.int ((B i0) &&& (255 : Int32))), .val (.int (3 : Int32)), .val (.int (128 : Int32)), .val (.int (159 : Int32)), .val (.int (2 : Int32)), .val (.int ((B (i0 + (2 : Int32))) &&& (255 : Int32)))] [(.int (0 : Int32))]))
                              exact bad289 _ _ _ _ _ _ (show own_vl (B i0 &&& 255) (B (i0 + 1) &&& 255) (B (i0 + 2) &&& 255) (B (i0 + 3) &&& 255) (en - i0) = 0 by unfold own_vl; rw [if_neg c39_3, if_neg c53_4, if_pos c61_5, if_neg c83_6, if_neg c94_40, if_pos c113_48, if_neg c203_49, if_neg c250_51, if_neg c257_52, if_neg c273_54, if_pos c281_55])
                            · skip
                              refine own_st (fun t k => XS.icmpNo X0.here hx rfl (hb hby d1_281) rfl (flt c281_55).2.2.1 k) ?_
                              show own_Go p e below G (s₁.setTop (mkF m 284 #[.val (.ref ba), .val (.int (1 : Int32)), .val (.int en), .val (.int i0), .val (.int (1 : Int32)), .val (.int ((B i0) &&& (255 : Int32))), .val (.int (3 : Int32)), .val (.int (128 : Int32)), .val (.int (159 : Int32)), .val (.int (2 : Int32)), .val (.int ((B (i0 + (2 : Int32))) &&& (255 : Int32)))] []))
                              refine own_st (fun t k => XS.iconst X0.here hx rfl (hb hby d1_284) k) ?_
                              show own_Go p e below G (s₁.setTop (mkF m 285 #[.val (.ref ba), .val (.int (1 : Int32)), .val (.int en), .val (.int i0), .val (.int (1 : Int32)), .val (.int ((B i0) &&& (255 : Int32))), .val (.int (3 : Int32)), .val (.int (128 : Int32)), .val (.int (159 : Int32)), .val (.int (2 : Int32)), .val (.int ((B (i0 + (2 : Int32))) &&& (255 : Int32)))] [(.int (1 : Int32))]))
                              refine own_st (fun t k => XS.goto X0.here hx rfl (pc0 := 285) (pc' := 289) rfl (hb hby d1_285) (by decide) (by decide) k) ?_
                              show own_Go p e below G (s₁.setTop (mkF m 289 #[.val (.ref ba), .val (.int (1 : Int32)), .val (.int en), .val (.int i0), .val (.int (1 : Int32)), .val (.int ((B i0) &&& (255 : Int32))), .val (.int (3 : Int32)), .val (.int (128 : Int32)), .val (.int (159 : Int32)), .val (.int (2 : Int32)), .val (.int ((B (i0 + (2 : Int32))) &&& (255 : Int32)))] [(.int (1 : Int32))]))
                              refine own_st (fun t k => XS.istore X0.here hx rfl (hb hby d1_289) rfl (l' := #[.val (.ref ba), .val (.int (1 : Int32)), .val (.int en), .val (.int i0), .val (.int (1 : Int32)), .val (.int ((B i0) &&& (255 : Int32))), .val (.int (3 : Int32)), .val (.int (128 : Int32)), .val (.int (159 : Int32)), .val (.int (2 : Int32)), .val (.int ((B (i0 + (2 : Int32))) &&& (255 : Int32)))]) rfl k) ?_
                              show own_Go p e below G (s₁.setTop (mkF m 291 #[.val (.ref ba), .val (.int (1 : Int32)), .val (.int en), .val (.int i0), .val (.int (1 : Int32)), .val (.int ((B i0) &&& (255 : Int32))), .val (.int (3 : Int32)), .val (.int (128 : Int32)), .val (.int (159 : Int32)), .val (.int (2 : Int32)), .val (.int ((B (i0 + (2 : Int32))) &&& (255 : Int32)))] []))
                              refine own_st (fun t k => XS.iinc X0.here hx rfl (hb hby d1_291) rfl (l' := #[.val (.ref ba), .val (.int (1 : Int32)), .val (.int en), .val (.int i0), .val (.int (1 : Int32)), .val (.int ((B i0) &&& (255 : Int32))), .val (.int (3 : Int32)), .val (.int (128 : Int32)), .val (.int (159 : Int32)), .val (.int (3 : Int32)), .val (.int ((B (i0 + (2 : Int32))) &&& (255 : Int32)))]) rfl k) ?_
                              show own_Go p e below G (s₁.setTop (mkF m 294 #[.val (.ref ba), .val (.int (1 : Int32)), .val (.int en), .val (.int i0), .val (.int (1 : Int32)), .val (.int ((B i0) &&& (255 : Int32))), .val (.int (3 : Int32)), .val (.int (128 : Int32)), .val (.int (159 : Int32)), .val (.int (3 : Int32)), .val (.int ((B (i0 + (2 : Int32))) &&& (255 : Int32)))] []))
                              refine own_st (fun t k => XS.goto X0.here hx rfl (pc0 := 294) (pc' := 216) rfl (hb hby d1_294) (by decide) (by decide) k) ?_
                              show own_Go p e below G (s₁.setTop (mkF m 216 #[.val (.ref ba), .val (.int (1 : Int32)), .val (.int en), .val (.int i0), .val (.int (1 : Int32)), .val (.int ((B i0) &&& (255 : Int32))), .val (.int (3 : Int32)), .val (.int (128 : Int32)), .val (.int (159 : Int32)), .val (.int (3 : Int32)), .val (.int ((B (i0 + (2 : Int32))) &&& (255 : Int32)))] []))
                              refine own_st (fun t k => XS.iload X0.here hx rfl (hb hby d1_216) rfl  k) ?_
                              show own_Go p e below G (s₁.setTop (mkF m 218 #[.val (.ref ba), .val (.int (1 : Int32)), .val (.int en), .val (.int i0), .val (.int (1 : Int32)), .val (.int ((B i0) &&& (255 : Int32))), .val (.int (3 : Int32)), .val (.int (128 : Int32)), .val (.int (159 : Int32)), .val (.int (3 : Int32)), .val (.int ((B (i0 + (2 : Int32))) &&& (255 : Int32)))] [(.int (1 : Int32))]))
                              refine own_st (fun t k => XS.ifNo X0.here hx rfl (hb hby d1_218) rfl ((if0 _ _).trans (feq (by decide)).1) k) ?_
                              show own_Go p e below G (s₁.setTop (mkF m 221 #[.val (.ref ba), .val (.int (1 : Int32)), .val (.int en), .val (.int i0), .val (.int (1 : Int32)), .val (.int ((B i0) &&& (255 : Int32))), .val (.int (3 : Int32)), .val (.int (128 : Int32)), .val (.int (159 : Int32)), .val (.int (3 : Int32)), .val (.int ((B (i0 + (2 : Int32))) &&& (255 : Int32)))] []))
                              refine own_st (fun t k => XS.iload X0.here hx rfl (hb hby d1_221) rfl  k) ?_
                              show own_Go p e below G (s₁.setTop (mkF m 223 #[.val (.ref ba), .val (.int (1 : Int32)), .val (.int en), .val (.int i0), .val (.int (1 : Int32)), .val (.int ((B i0) &&& (255 : Int32))), .val (.int (3 : Int32)), .val (.int (128 : Int32)), .val (.int (159 : Int32)), .val (.int (3 : Int32)), .val (.int ((B (i0 + (2 : Int32))) &&& (255 : Int32)))] [(.int (3 : Int32))]))
                              refine own_st (fun t k => XS.iload X0.here hx rfl (hb hby d1_223) rfl  k) ?_
                              show own_Go p e below G (s₁.setTop (mkF m 225 #[.val (.ref ba), .val (.int (1 : Int32)), .val (.int en), .val (.int i0), .val (.int (1 : Int32)), .val (.int ((B i0) &&& (255 : Int32))), .val (.int (3 : Int32)), .val (.int (128 : Int32)), .val (.int (159 : Int32)), .val (.int (3 : Int32)), .val (.int ((B (i0 + (2 : Int32))) &&& (255 : Int32)))] [(.int (3 : Int32)), (.int (3 : Int32))]))
                              refine own_st (fun t k => XS.icmpYes X0.here hx rfl (pc0 := 225) (pc' := 297) rfl (hb hby d1_225) rfl (flt (by decide)).2.1 (by decide) (by decide) k) ?_
                              show own_Go p e below G (s₁.setTop (mkF m 297 #[.val (.ref ba), .val (.int (1 : Int32)), .val (.int en), .val (.int i0), .val (.int (1 : Int32)), .val (.int ((B i0) &&& (255 : Int32))), .val (.int (3 : Int32)), .val (.int (128 : Int32)), .val (.int (159 : Int32)), .val (.int (3 : Int32)), .val (.int ((B (i0 + (2 : Int32))) &&& (255 : Int32)))] []))
                              refine own_st (fun t k => XS.iloadN X0.here hx rfl (hb hby d1_297) rfl  k) ?_
                              show own_Go p e below G (s₁.setTop (mkF m 298 #[.val (.ref ba), .val (.int (1 : Int32)), .val (.int en), .val (.int i0), .val (.int (1 : Int32)), .val (.int ((B i0) &&& (255 : Int32))), .val (.int (3 : Int32)), .val (.int (128 : Int32)), .val (.int (159 : Int32)), .val (.int (3 : Int32)), .val (.int ((B (i0 + (2 : Int32))) &&& (255 : Int32)))] [(.int i0)]))
                              refine own_st (fun t k => XS.iload X0.here hx rfl (hb hby d1_298) rfl  k) ?_
                              show own_Go p e below G (s₁.setTop (mkF m 300 #[.val (.ref ba), .val (.int (1 : Int32)), .val (.int en), .val (.int i0), .val (.int (1 : Int32)), .val (.int ((B i0) &&& (255 : Int32))), .val (.int (3 : Int32)), .val (.int (128 : Int32)), .val (.int (159 : Int32)), .val (.int (3 : Int32)), .val (.int ((B (i0 + (2 : Int32))) &&& (255 : Int32)))] [(.int (3 : Int32)), (.int i0)]))
                              refine own_st (fun t k => XS.iadd X0.here hx rfl (hb hby d1_300) rfl k) ?_
                              show own_Go p e below G (s₁.setTop (mkF m 301 #[.val (.ref ba), .val (.int (1 : Int32)), .val (.int en), .val (.int i0), .val (.int (1 : Int32)), .val (.int ((B i0) &&& (255 : Int32))), .val (.int (3 : Int32)), .val (.int (128 : Int32)), .val (.int (159 : Int32)), .val (.int (3 : Int32)), .val (.int ((B (i0 + (2 : Int32))) &&& (255 : Int32)))] [(.int (i0 + (3 : Int32)))]))
                              refine own_st (fun t k => XS.istoreN X0.here hx rfl (hb hby d1_301) rfl (l' := #[.val (.ref ba), .val (.int (1 : Int32)), .val (.int en), .val (.int (i0 + (3 : Int32))), .val (.int (1 : Int32)), .val (.int ((B i0) &&& (255 : Int32))), .val (.int (3 : Int32)), .val (.int (128 : Int32)), .val (.int (159 : Int32)), .val (.int (3 : Int32)), .val (.int ((B (i0 + (2 : Int32))) &&& (255 : Int32)))]) rfl k) ?_
                              show own_Go p e below G (s₁.setTop (mkF m 302 #[.val (.ref ba), .val (.int (1 : Int32)), .val (.int en), .val (.int (i0 + (3 : Int32))), .val (.int (1 : Int32)), .val (.int ((B i0) &&& (255 : Int32))), .val (.int (3 : Int32)), .val (.int (128 : Int32)), .val (.int (159 : Int32)), .val (.int (3 : Int32)), .val (.int ((B (i0 + (2 : Int32))) &&& (255 : Int32)))] []))
                              refine own_st (fun t k => XS.goto X0.here hx rfl (pc0 := 302) (pc' := 5) rfl (hb hby d1_302) (by decide) (by decide) k) ?_
                              show own_Go p e below G (s₁.setTop (mkF m 5 #[.val (.ref ba), .val (.int (1 : Int32)), .val (.int en), .val (.int (i0 + (3 : Int32))), .val (.int (1 : Int32)), .val (.int ((B i0) &&& (255 : Int32))), .val (.int (3 : Int32)), .val (.int (128 : Int32)), .val (.int (159 : Int32)), .val (.int (3 : Int32)), .val (.int ((B (i0 + (2 : Int32))) &&& (255 : Int32)))] []))
                              have hn := own_in (len := (3 : Int32)) (j := ((3 : Int32) - 1)) hi0 c12_1 he.2 c203_49 (by decide) (by decide) (by decide)
                              have ha := own_add (i := i0) (j := (3 : Int32)) hi0 (Int.le_of_lt (Int.lt_of_lt_of_le (Int32.lt_iff_toInt_lt.mp c12_1) he.2)) (by decide) (by decide)
                              have hc := own_add (i := i0) (j := ((3 : Int32) - 1)) hi0 (Int.le_of_lt (Int.lt_of_lt_of_le (Int32.lt_iff_toInt_lt.mp c12_1) he.2)) (by decide) (by decide)
                              rw [hc] at hn
                              have z1 : (((3 : Int32) - 1) : Int32).toInt = 2 := by decide
                              have z2 : ((3 : Int32)).toInt = 3 := by decide
                              exact ih (i0 + (3 : Int32)) _ _ _ _ _ _ (One.val rfl) (One.val rfl) (One.val rfl) (One.val rfl) (One.val rfl) (One.val rfl) (by omega) (by omega) (by omega) (heq.trans (own_vrN c12_1 (show own_vl (B i0 &&& 255) (B (i0 + 1) &&& 255) (B (i0 + 2) &&& 255) (B (i0 + 3) &&& 255) (en - i0) = (3 : Int32) by unfold own_vl; rw [if_neg c39_3, if_neg c53_4, if_pos c61_5, if_neg c83_6, if_neg c94_40, if_pos c113_48, if_neg c203_49, if_neg c250_51, if_neg c257_52, if_neg c273_54, if_neg c281_55]) (by decide)))
                  · skip
                    refine own_st (fun t k => XS.icmpYes X0.here hx rfl (pc0 := 113) (pc' := 122) rfl (hb hby d1_113) rfl (feq c113_48).2 (by decide) (by decide) k) ?_
                    show own_Go p e below G (s₁.setTop (mkF m 122 #[.val (.ref ba), .val (.int (1 : Int32)), .val (.int en), .val (.int i0), .val (.int (1 : Int32)), .val (.int ((B i0) &&& (255 : Int32))), .val (.int (3 : Int32)), .val (.int (128 : Int32)), .val (.int (191 : Int32)), s9, s10] []))
                    refine own_st (fun t k => XS.sipush X0.here hx rfl (hb hby d1_122) k) ?_
                    show own_Go p e below G (s₁.setTop (mkF m 125 #[.val (.ref ba), .val (.int (1 : Int32)), .val (.int en), .val (.int i0), .val (.int (1 : Int32)), .val (.int ((B i0) &&& (255 : Int32))), .val (.int (3 : Int32)), .val (.int (128 : Int32)), .val (.int (191 : Int32)), s9, s10] [(.int (191 : Int32))]))
                    refine own_st (fun t k => XS.istore X0.here hx rfl (hb hby d1_125) rfl (l' := #[.val (.ref ba), .val (.int (1 : Int32)), .val (.int en), .val (.int i0), .val (.int (1 : Int32)), .val (.int ((B i0) &&& (255 : Int32))), .val (.int (3 : Int32)), .val (.int (128 : Int32)), .val (.int (191 : Int32)), s9, s10]) rfl k) ?_
                    show own_Go p e below G (s₁.setTop (mkF m 127 #[.val (.ref ba), .val (.int (1 : Int32)), .val (.int en), .val (.int i0), .val (.int (1 : Int32)), .val (.int ((B i0) &&& (255 : Int32))), .val (.int (3 : Int32)), .val (.int (128 : Int32)), .val (.int (191 : Int32)), s9, s10] []))
                    refine own_st (fun t k => XS.goto X0.here hx rfl (pc0 := 127) (pc' := 193) rfl (hb hby d1_127) (by decide) (by decide) k) ?_
                    show own_Go p e below G (s₁.setTop (mkF m 193 #[.val (.ref ba), .val (.int (1 : Int32)), .val (.int en), .val (.int i0), .val (.int (1 : Int32)), .val (.int ((B i0) &&& (255 : Int32))), .val (.int (3 : Int32)), .val (.int (128 : Int32)), .val (.int (191 : Int32)), s9, s10] []))
                    refine own_st (fun t k => XS.iload X0.here hx rfl (hb hby d1_193) rfl  k) ?_
                    show own_Go p e below G (s₁.setTop (mkF m 195 #[.val (.ref ba), .val (.int (1 : Int32)), .val (.int en), .val (.int i0), .val (.int (1 : Int32)), .val (.int ((B i0) &&& (255 : Int32))), .val (.int (3 : Int32)), .val (.int (128 : Int32)), .val (.int (191 : Int32)), s9, s10] [(.int (3 : Int32))]))
                    refine own_st (fun t k => XS.ifNo X0.here hx rfl (hb hby d1_195) rfl ((if0 _ _).trans (tlt (by decide)).2.2.2) k) ?_
                    show own_Go p e below G (s₁.setTop (mkF m 198 #[.val (.ref ba), .val (.int (1 : Int32)), .val (.int en), .val (.int i0), .val (.int (1 : Int32)), .val (.int ((B i0) &&& (255 : Int32))), .val (.int (3 : Int32)), .val (.int (128 : Int32)), .val (.int (191 : Int32)), s9, s10] []))
                    refine own_st (fun t k => XS.iloadN X0.here hx rfl (hb hby d1_198) rfl  k) ?_
                    show own_Go p e below G (s₁.setTop (mkF m 199 #[.val (.ref ba), .val (.int (1 : Int32)), .val (.int en), .val (.int i0), .val (.int (1 : Int32)), .val (.int ((B i0) &&& (255 : Int32))), .val (.int (3 : Int32)), .val (.int (128 : Int32)), .val (.int (191 : Int32)), s9, s10] [(.int en)]))
                    refine own_st (fun t k => XS.iloadN X0.here hx rfl (hb hby d1_199) rfl  k) ?_
                    show own_Go p e below G (s₁.setTop (mkF m 200 #[.val (.ref ba), .val (.int (1 : Int32)), .val (.int en), .val (.int i0), .val (.int (1 : Int32)), .val (.int ((B i0) &&& (255 : Int32))), .val (.int (3 : Int32)), .val (.int (128 : Int32)), .val (.int (191 : Int32)), s9, s10] [(.int i0), (.int en)]))
                    refine own_st (fun t k => XS.isub X0.here hx rfl (hb hby d1_200) rfl k) ?_
                    show own_Go p e below G (s₁.setTop (mkF m 201 #[.val (.ref ba), .val (.int (1 : Int32)), .val (.int en), .val (.int i0), .val (.int (1 : Int32)), .val (.int ((B i0) &&& (255 : Int32))), .val (.int (3 : Int32)), .val (.int (128 : Int32)), .val (.int (191 : Int32)), s9, s10] [(.int (en - i0))]))
                    refine own_st (fun t k => XS.iload X0.here hx rfl (hb hby d1_201) rfl  k) ?_
                    show own_Go p e below G (s₁.setTop (mkF m 203 #[.val (.ref ba), .val (.int (1 : Int32)), .val (.int en), .val (.int i0), .val (.int (1 : Int32)), .val (.int ((B i0) &&& (255 : Int32))), .val (.int (3 : Int32)), .val (.int (128 : Int32)), .val (.int (191 : Int32)), s9, s10] [(.int (3 : Int32)), (.int (en - i0))]))
                    by_cases c203_56 : (en - i0) < (3 : Int32)
                    · skip
                      refine own_st (fun t k => XS.icmpYes X0.here hx rfl (pc0 := 203) (pc' := 210) rfl (hb hby d1_203) rfl (tlt c203_56).1 (by decide) (by decide) k) ?_
                      show own_Go p e below G (s₁.setTop (mkF m 210 #[.val (.ref ba), .val (.int (1 : Int32)), .val (.int en), .val (.int i0), .val (.int (1 : Int32)), .val (.int ((B i0) &&& (255 : Int32))), .val (.int (3 : Int32)), .val (.int (128 : Int32)), .val (.int (191 : Int32)), s9, s10] []))
                      refine own_st (fun t k => XS.iconst X0.here hx rfl (hb hby d1_210) k) ?_
                      show own_Go p e below G (s₁.setTop (mkF m 211 #[.val (.ref ba), .val (.int (1 : Int32)), .val (.int en), .val (.int i0), .val (.int (1 : Int32)), .val (.int ((B i0) &&& (255 : Int32))), .val (.int (3 : Int32)), .val (.int (128 : Int32)), .val (.int (191 : Int32)), s9, s10] [(.int (0 : Int32))]))
                      exact bad211 _ _ _ _ _ _ hs9 (show own_vl (B i0 &&& 255) (B (i0 + 1) &&& 255) (B (i0 + 2) &&& 255) (B (i0 + 3) &&& 255) (en - i0) = 0 by unfold own_vl; rw [if_neg c39_3, if_neg c53_4, if_pos c61_5, if_neg c83_6, if_neg c94_40, if_neg c113_48, if_pos c203_56])
                    · skip
                      refine own_st (fun t k => XS.icmpNo X0.here hx rfl (hb hby d1_203) rfl (flt c203_56).1 k) ?_
                      show own_Go p e below G (s₁.setTop (mkF m 206 #[.val (.ref ba), .val (.int (1 : Int32)), .val (.int en), .val (.int i0), .val (.int (1 : Int32)), .val (.int ((B i0) &&& (255 : Int32))), .val (.int (3 : Int32)), .val (.int (128 : Int32)), .val (.int (191 : Int32)), s9, s10] []))
                      refine own_st (fun t k => XS.iconst X0.here hx rfl (hb hby d1_206) k) ?_
                      show own_Go p e below G (s₁.setTop (mkF m 207 #[.val (.ref ba), .val (.int (1 : Int32)), .val (.int en), .val (.int i0), .val (.int (1 : Int32)), .val (.int ((B i0) &&& (255 : Int32))), .val (.int (3 : Int32)), .val (.int (128 : Int32)), .val (.int (191 : Int32)), s9, s10] [(.int (1 : Int32))]))
                      refine own_st (fun t k => XS.goto X0.here hx rfl (pc0 := 207) (pc' := 211) rfl (hb hby d1_207) (by decide) (by decide) k) ?_
                      show own_Go p e below G (s₁.setTop (mkF m 211 #[.val (.ref ba), .val (.int (1 : Int32)), .val (.int en), .val (.int i0), .val (.int (1 : Int32)), .val (.int ((B i0) &&& (255 : Int32))), .val (.int (3 : Int32)), .val (.int (128 : Int32)), .val (.int (191 : Int32)), s9, s10] [(.int (1 : Int32))]))
                      refine own_st (fun t k => XS.istore X0.here hx rfl (hb hby d1_211) rfl (l' := #[.val (.ref ba), .val (.int (1 : Int32)), .val (.int en), .val (.int i0), .val (.int (1 : Int32)), .val (.int ((B i0) &&& (255 : Int32))), .val (.int (3 : Int32)), .val (.int (128 : Int32)), .val (.int (191 : Int32)), s9, s10]) rfl k) ?_
                      show own_Go p e below G (s₁.setTop (mkF m 213 #[.val (.ref ba), .val (.int (1 : Int32)), .val (.int en), .val (.int i0), .val (.int (1 : Int32)), .val (.int ((B i0) &&& (255 : Int32))), .val (.int (3 : Int32)), .val (.int (128 : Int32)), .val (.int (191 : Int32)), s9, s10] []))
                      refine own_st (fun t k => XS.iconst X0.here hx rfl (hb hby d1_213) k) ?_
                      show own_Go p e below G (s₁.setTop (mkF m 214 #[.val (.ref ba), .val (.int (1 : Int32)), .val (.int en), .val (.int i0), .val (.int (1 : Int32)), .val (.int ((B i0) &&& (255 : Int32))), .val (.int (3 : Int32)), .val (.int (128 : Int32)), .val (.int (191 : Int32)), s9, s10] [(.int (1 : Int32))]))
                      refine own_st (fun t k => XS.istore X0.here hx rfl (hb hby d1_214) rfl (l' := #[.val (.ref ba), .val (.int (1 : Int32)), .val (.int en), .val (.int i0), .val (.int (1 : Int32)), .val (.int ((B i0) &&& (255 : Int32))), .val (.int (3 : Int32)), .val (.int (128 : Int32)), .val (.int (191 : Int32)), .val (.int (1 : Int32)), s10]) (XS.store1 rfl hs9 rfl) k) ?_
                      show own_Go p e below G (s₁.setTop (mkF m 216 #[.val (.ref ba), .val (.int (1 : Int32)), .val (.int en), .val (.int i0), .val (.int (1 : Int32)), .val (.int ((B i0) &&& (255 : Int32))), .val (.int (3 : Int32)), .val (.int (128 : Int32)), .val (.int (191 : Int32)), .val (.int (1 : Int32)), s10] []))
                      refine own_st (fun t k => XS.iload X0.here hx rfl (hb hby d1_216) rfl  k) ?_
                      show own_Go p e below G (s₁.setTop (mkF m 218 #[.val (.ref ba), .val (.int (1 : Int32)), .val (.int en), .val (.int i0), .val (.int (1 : Int32)), .val (.int ((B i0) &&& (255 : Int32))), .val (.int (3 : Int32)), .val (.int (128 : Int32)), .val (.int (191 : Int32)), .val (.int (1 : Int32)), s10] [(.int (1 : Int32))]))
                      refine own_st (fun t k => XS.ifNo X0.here hx rfl (hb hby d1_218) rfl ((if0 _ _).trans (feq (by decide)).1) k) ?_
                      show own_Go p e below G (s₁.setTop (mkF m 221 #[.val (.ref ba), .val (.int (1 : Int32)), .val (.int en), .val (.int i0), .val (.int (1 : Int32)), .val (.int ((B i0) &&& (255 : Int32))), .val (.int (3 : Int32)), .val (.int (128 : Int32)), .val (.int (191 : Int32)), .val (.int (1 : Int32)), s10] []))
                      refine own_st (fun t k => XS.iload X0.here hx rfl (hb hby d1_221) rfl  k) ?_
                      show own_Go p e below G (s₁.setTop (mkF m 223 #[.val (.ref ba), .val (.int (1 : Int32)), .val (.int en), .val (.int i0), .val (.int (1 : Int32)), .val (.int ((B i0) &&& (255 : Int32))), .val (.int (3 : Int32)), .val (.int (128 : Int32)), .val (.int (191 : Int32)), .val (.int (1 : Int32)), s10] [(.int (1 : Int32))]))
                      refine own_st (fun t k => XS.iload X0.here hx rfl (hb hby d1_223) rfl  k) ?_
                      show own_Go p e below G (s₁.setTop (mkF m 225 #[.val (.ref ba), .val (.int (1 : Int32)), .val (.int en), .val (.int i0), .val (.int (1 : Int32)), .val (.int ((B i0) &&& (255 : Int32))), .val (.int (3 : Int32)), .val (.int (128 : Int32)), .val (.int (191 : Int32)), .val (.int (1 : Int32)), s10] [(.int (3 : Int32)), (.int (1 : Int32))]))
                      refine own_st (fun t k => XS.icmpNo X0.here hx rfl (hb hby d1_225) rfl (tlt (by decide)).2.1 k) ?_
                      show own_Go p e below G (s₁.setTop (mkF m 228 #[.val (.ref ba), .val (.int (1 : Int32)), .val (.int en), .val (.int i0), .val (.int (1 : Int32)), .val (.int ((B i0) &&& (255 : Int32))), .val (.int (3 : Int32)), .val (.int (128 : Int32)), .val (.int (191 : Int32)), .val (.int (1 : Int32)), s10] []))
                      refine own_st (fun t k => XS.aloadN X0.here hx rfl (hb hby d1_228) rfl rfl  k) ?_
                      show own_Go p e below G (s₁.setTop (mkF m 229 #[.val (.ref ba), .val (.int (1 : Int32)), .val (.int en), .val (.int i0), .val (.int (1 : Int32)), .val (.int ((B i0) &&& (255 : Int32))), .val (.int (3 : Int32)), .val (.int (128 : Int32)), .val (.int (191 : Int32)), .val (.int (1 : Int32)), s10] [(.ref ba)]))
                      refine own_st (fun t k => XS.iloadN X0.here hx rfl (hb hby d1_229) rfl  k) ?_
                      show own_Go p e below G (s₁.setTop (mkF m 230 #[.val (.ref ba), .val (.int (1 : Int32)), .val (.int en), .val (.int i0), .val (.int (1 : Int32)), .val (.int ((B i0) &&& (255 : Int32))), .val (.int (3 : Int32)), .val (.int (128 : Int32)), .val (.int (191 : Int32)), .val (.int (1 : Int32)), s10] [(.int i0), (.ref ba)]))
                      refine own_st (fun t k => XS.iload X0.here hx rfl (hb hby d1_230) rfl  k) ?_
                      show own_Go p e below G (s₁.setTop (mkF m 232 #[.val (.ref ba), .val (.int (1 : Int32)), .val (.int en), .val (.int i0), .val (.int (1 : Int32)), .val (.int ((B i0) &&& (255 : Int32))), .val (.int (3 : Int32)), .val (.int (128 : Int32)), .val (.int (191 : Int32)), .val (.int (1 : Int32)), s10] [(.int (1 : Int32)), (.int i0), (.ref ba)]))
                      refine own_st (fun t k => XS.iadd X0.here hx rfl (hb hby d1_232) rfl k) ?_
                      show own_Go p e below G (s₁.setTop (mkF m 233 #[.val (.ref ba), .val (.int (1 : Int32)), .val (.int en), .val (.int i0), .val (.int (1 : Int32)), .val (.int ((B i0) &&& (255 : Int32))), .val (.int (3 : Int32)), .val (.int (128 : Int32)), .val (.int (191 : Int32)), .val (.int (1 : Int32)), s10] [(.int (i0 + (1 : Int32))), (.ref ba)]))
                      have hb57 := own_bd (n := 6) (own_in hi0 c12_1 he.2 c203_56 (j := (1 : Int32)) (by decide) (by decide) (by decide)) (Int.le_trans he.2 (by decide))
                      have hin57 := inb_of S0 hb57
                      refine own_st (fun t k => X0.baloadBytes hx (j := (i0 + (1 : Int32))) (v := (.int (B (i0 + (1 : Int32))))) (by rw [e0]; exact Ar0.1) (State.isArrayOf_alike hZ.alike Ar0.2.1) Ar0.2.2 hin57 (hB _ hb57.1 hb57.2) (g := (mkF m 233 #[.val (.ref ba), .val (.int (1 : Int32)), .val (.int en), .val (.int i0), .val (.int (1 : Int32)), .val (.int ((B i0) &&& (255 : Int32))), .val (.int (3 : Int32)), .val (.int (128 : Int32)), .val (.int (191 : Int32)), .val (.int (1 : Int32)), s10] [(.int (i0 + (1 : Int32))), (.ref ba)])) rfl rfl (hb hby d1_233) t k) ?_
                      show own_Go p e below G (s₁.setTop (mkF m 234 #[.val (.ref ba), .val (.int (1 : Int32)), .val (.int en), .val (.int i0), .val (.int (1 : Int32)), .val (.int ((B i0) &&& (255 : Int32))), .val (.int (3 : Int32)), .val (.int (128 : Int32)), .val (.int (191 : Int32)), .val (.int (1 : Int32)), s10] [(.int (B (i0 + (1 : Int32))))]))
                      refine own_st (fun t k => XS.sipush X0.here hx rfl (hb hby d1_234) k) ?_
                      show own_Go p e below G (s₁.setTop (mkF m 237 #[.val (.ref ba), .val (.int (1 : Int32)), .val (.int en), .val (.int i0), .val (.int (1 : Int32)), .val (.int ((B i0) &&& (255 : Int32))), .val (.int (3 : Int32)), .val (.int (128 : Int32)), .val (.int (191 : Int32)), .val (.int (1 : Int32)), s10] [(.int (255 : Int32)), (.int (B (i0 + (1 : Int32))))]))
                      refine own_st (fun t k => XS.iand X0.here hx rfl (hb hby d1_237) rfl k) ?_
                      show own_Go p e below G (s₁.setTop (mkF m 238 #[.val (.ref ba), .val (.int (1 : Int32)), .val (.int en), .val (.int i0), .val (.int (1 : Int32)), .val (.int ((B i0) &&& (255 : Int32))), .val (.int (3 : Int32)), .val (.int (128 : Int32)), .val (.int (191 : Int32)), .val (.int (1 : Int32)), s10] [(.int ((B (i0 + (1 : Int32))) &&& (255 : Int32)))]))
                      refine own_st (fun t k => XS.istore X0.here hx rfl (hb hby d1_238) rfl (l' := #[.val (.ref ba), .val (.int (1 : Int32)), .val (.int en), .val (.int i0), .val (.int (1 : Int32)), .val (.int ((B i0) &&& (255 : Int32))), .val (.int (3 : Int32)), .val (.int (128 : Int32)), .val (.int (191 : Int32)), .val (.int (1 : Int32)), .val (.int ((B (i0 + (1 : Int32))) &&& (255 : Int32)))]) (XS.store1 rfl hs10 rfl) k) ?_
                      show own_Go p e below G (s₁.setTop (mkF m 240 #[.val (.ref ba), .val (.int (1 : Int32)), .val (.int en), .val (.int i0), .val (.int (1 : Int32)), .val (.int ((B i0) &&& (255 : Int32))), .val (.int (3 : Int32)), .val (.int (128 : Int32)), .val (.int (191 : Int32)), .val (.int (1 : Int32)), .val (.int ((B (i0 + (1 : Int32))) &&& (255 : Int32)))] []))
                      refine own_st (fun t k => XS.iload X0.here hx rfl (hb hby d1_240) rfl  k) ?_
                      show own_Go p e below G (s₁.setTop (mkF m 242 #[.val (.ref ba), .val (.int (1 : Int32)), .val (.int en), .val (.int i0), .val (.int (1 : Int32)), .val (.int ((B i0) &&& (255 : Int32))), .val (.int (3 : Int32)), .val (.int (128 : Int32)), .val (.int (191 : Int32)), .val (.int (1 : Int32)), .val (.int ((B (i0 + (1 : Int32))) &&& (255 : Int32)))] [(.int (1 : Int32))]))
                      refine own_st (fun t k => XS.iconst X0.here hx rfl (hb hby d1_242) k) ?_
                      show own_Go p e below G (s₁.setTop (mkF m 243 #[.val (.ref ba), .val (.int (1 : Int32)), .val (.int en), .val (.int i0), .val (.int (1 : Int32)), .val (.int ((B i0) &&& (255 : Int32))), .val (.int (3 : Int32)), .val (.int (128 : Int32)), .val (.int (191 : Int32)), .val (.int (1 : Int32)), .val (.int ((B (i0 + (1 : Int32))) &&& (255 : Int32)))] [(.int (1 : Int32)), (.int (1 : Int32))]))
                      refine own_st (fun t k => XS.icmpNo X0.here hx rfl (hb hby d1_243) rfl (teq (by decide)).2 k) ?_
                      show own_Go p e below G (s₁.setTop (mkF m 246 #[.val (.ref ba), .val (.int (1 : Int32)), .val (.int en), .val (.int i0), .val (.int (1 : Int32)), .val (.int ((B i0) &&& (255 : Int32))), .val (.int (3 : Int32)), .val (.int (128 : Int32)), .val (.int (191 : Int32)), .val (.int (1 : Int32)), .val (.int ((B (i0 + (1 : Int32))) &&& (255 : Int32)))] []))
                      refine own_st (fun t k => XS.iload X0.here hx rfl (hb hby d1_246) rfl  k) ?_
                      show own_Go p e below G (s₁.setTop (mkF m 248 #[.val (.ref ba), .val (.int (1 : Int32)), .val (.int en), .val (.int i0), .val (.int (1 : Int32)), .val (.int ((B i0) &&& (255 : Int32))), .val (.int (3 : Int32)), .val (.int (128 : Int32)), .val (.int (191 : Int32)), .val (.int (1 : Int32)), .val (.int ((B (i0 + (1 : Int32))) &&& (255 : Int32)))] [(.int ((B (i0 + (1 : Int32))) &&& (255 : Int32)))]))
                      refine own_st (fun t k => XS.iload X0.here hx rfl (hb hby d1_248) rfl  k) ?_
                      show own_Go p e below G (s₁.setTop (mkF m 250 #[.val (.ref ba), .val (.int (1 : Int32)), .val (.int en), .val (.int i0), .val (.int (1 : Int32)), .val (.int ((B i0) &&& (255 : Int32))), .val (.int (3 : Int32)), .val (.int (128 : Int32)), .val (.int (191 : Int32)), .val (.int (1 : Int32)), .val (.int ((B (i0 + (1 : Int32))) &&& (255 : Int32)))] [(.int (128 : Int32)), (.int ((B (i0 + (1 : Int32))) &&& (255 : Int32)))]))
                      by_cases c250_58 : ((B (i0 + (1 : Int32))) &&& (255 : Int32)) < (128 : Int32)
                      · skip
                        refine own_st (fun t k => XS.icmpYes X0.here hx rfl (pc0 := 250) (pc' := 264) rfl (hb hby d1_250) rfl (tlt c250_58).1 (by decide) (by decide) k) ?_
                        show own_Go p e below G (s₁.setTop (mkF m 264 #[.val (.ref ba), .val (.int (1 : Int32)), .val (.int en), .val (.int i0), .val (.int (1 : Int32)), .val (.int ((B i0) &&& (255 : Int32))), .val (.int (3 : Int32)), .val (.int (128 : Int32)), .val (.int (191 : Int32)), .val (.int (1 : Int32)), .val (.int ((B (i0 + (1 : Int32))) &&& (255 : Int32)))] []))
                        refine own_st (fun t k => XS.iconst X0.here hx rfl (hb hby d1_264) k) ?_
                        show own_Go p e below G (s₁.setTop (mkF m 265 #[.val (.ref ba), .val (.int (1 : Int32)), .val (.int en), .val (.int i0), .val (.int (1 : Int32)), .val (.int ((B i0) &&& (255 : Int32))), .val (.int (3 : Int32)), .val (.int (128 : Int32)), .val (.int (191 : Int32)), .val (.int (1 : Int32)), .val (.int ((B (i0 + (1 : Int32))) &&& (255 : Int32)))] [(.int (0 : Int32))]))
                        refine own_st (fun t k => XS.goto X0.here hx rfl (pc0 := 265) (pc' := 289) rfl (hb hby d1_265) (by decide) (by decide) k) ?_
                        show own_Go p e below G (s₁.setTop (mkF m 289 #[.val (.ref ba), .val (.int (1 : Int32)), .val (.int en), .val (.int i0), .val (.int (1 : Int32)), .val (.int ((B i0) &&& (255 : Int32))), .val (.int (3 : Int32)), .val (.int (128 : Int32)), .val (.int (191 : Int32)), .val (.int (1 : Int32)), .val (.int ((B (i0 + (1 : Int32))) &&& (255 : Int32)))] [(.int (0 : Int32))]))
                        exact bad289 _ _ _ _ _ _ (show own_vl (B i0 &&& 255) (B (i0 + 1) &&& 255) (B (i0 + 2) &&& 255) (B (i0 + 3) &&& 255) (en - i0) = 0 by unfold own_vl; rw [if_neg c39_3, if_neg c53_4, if_pos c61_5, if_neg c83_6, if_neg c94_40, if_neg c113_48, if_neg c203_56, if_pos c250_58])
                      · skip
                        refine own_st (fun t k => XS.icmpNo X0.here hx rfl (hb hby d1_250) rfl (flt c250_58).1 k) ?_
                        show own_Go p e below G (s₁.setTop (mkF m 253 #[.val (.ref ba), .val (.int (1 : Int32)), .val (.int en), .val (.int i0), .val (.int (1 : Int32)), .val (.int ((B i0) &&& (255 : Int32))), .val (.int (3 : Int32)), .val (.int (128 : Int32)), .val (.int (191 : Int32)), .val (.int (1 : Int32)), .val (.int ((B (i0 + (1 : Int32))) &&& (255 : Int32)))] []))
                        refine own_st (fun t k => XS.iload X0.here hx rfl (hb hby d1_253) rfl  k) ?_
                        show own_Go p e below G (s₁.setTop (mkF m 255 #[.val (.ref ba), .val (.int (1 : Int32)), .val (.int en), .val (.int i0), .val (.int (1 : Int32)), .val (.int ((B i0) &&& (255 : Int32))), .val (.int (3 : Int32)), .val (.int (128 : Int32)), .val (.int (191 : Int32)), .val (.int (1 : Int32)), .val (.int ((B (i0 + (1 : Int32))) &&& (255 : Int32)))] [(.int ((B (i0 + (1 : Int32))) &&& (255 : Int32)))]))
                        refine own_st (fun t k => XS.iload X0.here hx rfl (hb hby d1_255) rfl  k) ?_
                        show own_Go p e below G (s₁.setTop (mkF m 257 #[.val (.ref ba), .val (.int (1 : Int32)), .val (.int en), .val (.int i0), .val (.int (1 : Int32)), .val (.int ((B i0) &&& (255 : Int32))), .val (.int (3 : Int32)), .val (.int (128 : Int32)), .val (.int (191 : Int32)), .val (.int (1 : Int32)), .val (.int ((B (i0 + (1 : Int32))) &&& (255 : Int32)))] [(.int (191 : Int32)), (.int ((B (i0 + (1 : Int32))) &&& (255 : Int32)))]))
                        by_cases c257_59 : (191 : Int32) < ((B (i0 + (1 : Int32))) &&& (255 : Int32))
                        · skip
                          refine own_st (fun t k => XS.icmpYes X0.here hx rfl (pc0 := 257) (pc' := 264) rfl (hb hby d1_257) rfl (tlt c257_59).2.2.1 (by decide) (by decide) k) ?_
                          show own_Go p e below G (s₁.setTop (mkF m 264 #[.val (.ref ba), .val (.int (1 : Int32)), .val (.int en), .val (.int i0), .val (.int (1 : Int32)), .val (.int ((B i0) &&& (255 : Int32))), .val (.int (3 : Int32)), .val (.int (128 : Int32)), .val (.int (191 : Int32)), .val (.int (1 : Int32)), .val (.int ((B (i0 + (1 : Int32))) &&& (255 : Int32)))] []))
                          refine own_st (fun t k => XS.iconst X0.here hx rfl (hb hby d1_264) k) ?_
                          show own_Go p e below G (s₁.setTop (mkF m 265 #[.val (.ref ba), .val (.int (1 : Int32)), .val (.int en), .val (.int i0), .val (.int (1 : Int32)), .val (.int ((B i0) &&& (255 : Int32))), .val (.int (3 : Int32)), .val (.int (128 : Int32)), .val (.int (191 : Int32)), .val (.int (1 : Int32)), .val (.int ((B (i0 + (1 : Int32))) &&& (255 : Int32)))] [(.int (0 : Int32))]))
                          refine own_st (fun t k => XS.goto X0.here hx rfl (pc0 := 265) (pc' := 289) rfl (hb hby d1_265) (by decide) (by decide) k) ?_
                          show own_Go p e below G (s₁.setTop (mkF m 289 #[.val (.ref ba), .val (.int (1 : Int32)), .val (.int en), .val (.int i0), .val (.int (1 : Int32)), .val (.int ((B i0) &&& (255 : Int32))), .val (.int (3 : Int32)), .val (.int (128 : Int32)), .val (.int (191 : Int32)), .val (.int (1 : Int32)), .val (.int ((B (i0 + (1 : Int32))) &&& (255 : Int32)))] [(.int (0 : Int32))]))
                          exact bad289 _ _ _ _ _ _ (show own_vl (B i0 &&& 255) (B (i0 + 1) &&& 255) (B (i0 + 2) &&& 255) (B (i0 + 3) &&& 255) (en - i0) = 0 by unfold own_vl; rw [if_neg c39_3, if_neg c53_4, if_pos c61_5, if_neg c83_6, if_neg c94_40, if_neg c113_48, if_neg c203_56, if_neg c250_58, if_pos c257_59])
                        · skip
                          refine own_st (fun t k => XS.icmpNo X0.here hx rfl (hb hby d1_257) rfl (flt c257_59).2.2.1 k) ?_
                          show own_Go p e below G (s₁.setTop (mkF m 260 #[.val (.ref ba), .val (.int (1 : Int32)), .val (.int en), .val (.int i0), .val (.int (1 : Int32)), .val (.int ((B i0) &&& (255 : Int32))), .val (.int (3 : Int32)), .val (.int (128 : Int32)), .val (.int (191 : Int32)), .val (.int (1 : Int32)), .val (.int ((B (i0 + (1 : Int32))) &&& (255 : Int32)))] []))
                          refine own_st (fun t k => XS.iconst X0.here hx rfl (hb hby d1_260) k) ?_
                          show own_Go p e below G (s₁.setTop (mkF m 261 #[.val (.ref ba), .val (.int (1 : Int32)), .val (.int en), .val (.int i0), .val (.int (1 : Int32)), .val (.int ((B i0) &&& (255 : Int32))), .val (.int (3 : Int32)), .val (.int (128 : Int32)), .val (.int (191 : Int32)), .val (.int (1 : Int32)), .val (.int ((B (i0 + (1 : Int32))) &&& (255 : Int32)))] [(.int (1 : Int32))]))
                          refine own_st (fun t k => XS.goto X0.here hx rfl (pc0 := 261) (pc' := 289) rfl (hb hby d1_261) (by decide) (by decide) k) ?_
                          show own_Go p e below G (s₁.setTop (mkF m 289 #[.val (.ref ba), .val (.int (1 : Int32)), .val (.int en), .val (.int i0), .val (.int (1 : Int32)), .val (.int ((B i0) &&& (255 : Int32))), .val (.int (3 : Int32)), .val (.int (128 : Int32)), .val (.int (191 : Int32)), .val (.int (1 : Int32)), .val (.int ((B (i0 + (1 : Int32))) &&& (255 : Int32)))] [(.int (1 : Int32))]))
                          refine own_st (fun t k => XS.istore X0.here hx rfl (hb hby d1_289) rfl (l' := #[.val (.ref ba), .val (.int (1 : Int32)), .val (.int en), .val (.int i0), .val (.int (1 : Int32)), .val (.int ((B i0) &&& (255 : Int32))), .val (.int (3 : Int32)), .val (.int (128 : Int32)), .val (.int (191 : Int32)), .val (.int (1 : Int32)), .val (.int ((B (i0 + (1 : Int32))) &&& (255 : Int32)))]) rfl k) ?_
                          show own_Go p e below G (s₁.setTop (mkF m 291 #[.val (.ref ba), .val (.int (1 : Int32)), .val (.int en), .val (.int i0), .val (.int (1 : Int32)), .val (.int ((B i0) &&& (255 : Int32))), .val (.int (3 : Int32)), .val (.int (128 : Int32)), .val (.int (191 : Int32)), .val (.int (1 : Int32)), .val (.int ((B (i0 + (1 : Int32))) &&& (255 : Int32)))] []))
                          refine own_st (fun t k => XS.iinc X0.here hx rfl (hb hby d1_291) rfl (l' := #[.val (.ref ba), .val (.int (1 : Int32)), .val (.int en), .val (.int i0), .val (.int (1 : Int32)), .val (.int ((B i0) &&& (255 : Int32))), .val (.int (3 : Int32)), .val (.int (128 : Int32)), .val (.int (191 : Int32)), .val (.int (2 : Int32)), .val (.int ((B (i0 + (1 : Int32))) &&& (255 : Int32)))]) rfl k) ?_
                          show own_Go p e below G (s₁.setTop (mkF m 294 #[.val (.ref ba), .val (.int (1 : Int32)), .val (.int en), .val (.int i0), .val (.int (1 : Int32)), .val (.int ((B i0) &&& (255 : Int32))), .val (.int (3 : Int32)), .val (.int (128 : Int32)), .val (.int (191 : Int32)), .val (.int (2 : Int32)), .val (.int ((B (i0 + (1 : Int32))) &&& (255 : Int32)))] []))
                          refine own_st (fun t k => XS.goto X0.here hx rfl (pc0 := 294) (pc' := 216) rfl (hb hby d1_294) (by decide) (by decide) k) ?_
                          show own_Go p e below G (s₁.setTop (mkF m 216 #[.val (.ref ba), .val (.int (1 : Int32)), .val (.int en), .val (.int i0), .val (.int (1 : Int32)), .val (.int ((B i0) &&& (255 : Int32))), .val (.int (3 : Int32)), .val (.int (128 : Int32)), .val (.int (191 : Int32)), .val (.int (2 : Int32)), .val (.int ((B (i0 + (1 : Int32))) &&& (255 : Int32)))] []))
                          refine own_st (fun t k => XS.iload X0.here hx rfl (hb hby d1_216) rfl  k) ?_
                          show own_Go p e below G (s₁.setTop (mkF m 218 #[.val (.ref ba), .val (.int (1 : Int32)), .val (.int en), .val (.int i0), .val (.int (1 : Int32)), .val (.int ((B i0) &&& (255 : Int32))), .val (.int (3 : Int32)), .val (.int (128 : Int32)), .val (.int (191 : Int32)), .val (.int (2 : Int32)), .val (.int ((B (i0 + (1 : Int32))) &&& (255 : Int32)))] [(.int (1 : Int32))]))
                          refine own_st (fun t k => XS.ifNo X0.here hx rfl (hb hby d1_218) rfl ((if0 _ _).trans (feq (by decide)).1) k) ?_
                          show own_Go p e below G (s₁.setTop (mkF m 221 #[.val (.ref ba), .val (.int (1 : Int32)), .val (.int en), .val (.int i0), .val (.int (1 : Int32)), .val (.int ((B i0) &&& (255 : Int32))), .val (.int (3 : Int32)), .val (.int (128 : Int32)), .val (.int (191 : Int32)), .val (.int (2 : Int32)), .val (.int ((B (i0 + (1 : Int32))) &&& (255 : Int32)))] []))
                          refine own_st (fun t k => XS.iload X0.here hx rfl (hb hby d1_221) rfl  k) ?_
                          show own_Go p e below G (s₁.setTop (mkF m 223 #[.val (.ref ba), .val (.int (1 : Int32)), .val (.int en), .val (.int i0), .val (.int (1 : Int32)), .val (.int ((B i0) &&& (255 : Int32))), .val (.int (3 : Int32)), .val (.int (128 : Int32)), .val (.int (191 : Int32)), .val (.int (2 : Int32)), .val (.int ((B (i0 + (1 : Int32))) &&& (255 : Int32)))] [(.int (2 : Int32))]))
                          refine own_st (fun t k => XS.iload X0.here hx rfl (hb hby d1_223) rfl  k) ?_
                          show own_Go p e below G (s₁.setTop (mkF m 225 #[.val (.ref ba), .val (.int (1 : Int32)), .val (.int en), .val (.int i0), .val (.int (1 : Int32)), .val (.int ((B i0) &&& (255 : Int32))), .val (.int (3 : Int32)), .val (.int (128 : Int32)), .val (.int (191 : Int32)), .val (.int (2 : Int32)), .val (.int ((B (i0 + (1 : Int32))) &&& (255 : Int32)))] [(.int (3 : Int32)), (.int (2 : Int32))]))
                          refine own_st (fun t k => XS.icmpNo X0.here hx rfl (hb hby d1_225) rfl (tlt (by decide)).2.1 k) ?_
                          show own_Go p e below G (s₁.setTop (mkF m 228 #[.val (.ref ba), .val (.int (1 : Int32)), .val (.int en), .val (.int i0), .val (.int (1 : Int32)), .val (.int ((B i0) &&& (255 : Int32))), .val (.int (3 : Int32)), .val (.int (128 : Int32)), .val (.int (191 : Int32)), .val (.int (2 : Int32)), .val (.int ((B (i0 + (1 : Int32))) &&& (255 : Int32)))] []))
                          refine own_st (fun t k => XS.aloadN X0.here hx rfl (hb hby d1_228) rfl rfl  k) ?_
                          show own_Go p e below G (s₁.setTop (mkF m 229 #[.val (.ref ba), .val (.int (1 : Int32)), .val (.int en), .val (.int i0), .val (.int (1 : Int32)), .val (.int ((B i0) &&& (255 : Int32))), .val (.int (3 : Int32)), .val (.int (128 : Int32)), .val (.int (191 : Int32)), .val (.int (2 : Int32)), .val (.int ((B (i0 + (1 : Int32))) &&& (255 : Int32)))] [(.ref ba)]))
                          refine own_st (fun t k => XS.iloadN X0.here hx rfl (hb hby d1_229) rfl  k) ?_
                          show own_Go p e below G (s₁.setTop (mkF m 230 #[.val (.ref ba), .val (.int (1 : Int32)), .val (.int en), .val (.int i0), .val (.int (1 : Int32)), .val (.int ((B i0) &&& (255 : Int32))), .val (.int (3 : Int32)), .val (.int (128 : Int32)), .val (.int (191 : Int32)), .val (.int (2 : Int32)), .val (.int ((B (i0 + (1 : Int32))) &&& (255 : Int32)))] [(.int i0), (.ref ba)]))
                          refine own_st (fun t k => XS.iload X0.here hx rfl (hb hby d1_230) rfl  k) ?_
                          show own_Go p e below G (s₁.setTop (mkF m 232 #[.val (.ref ba), .val (.int (1 : Int32)), .val (.int en), .val (.int i0), .val (.int (1 : Int32)), .val (.int ((B i0) &&& (255 : Int32))), .val (.int (3 : Int32)), .val (.int (128 : Int32)), .val (.int (191 : Int32)), .val (.int (2 : Int32)), .val (.int ((B (i0 + (1 : Int32))) &&& (255 : Int32)))] [(.int (2 : Int32)), (.int i0), (.ref ba)]))
                          refine own_st (fun t k => XS.iadd X0.here hx rfl (hb hby d1_232) rfl k) ?_
                          show own_Go p e below G (s₁.setTop (mkF m 233 #[.val (.ref ba), .val (.int (1 : Int32)), .val (.int en), .val (.int i0), .val (.int (1 : Int32)), .val (.int ((B i0) &&& (255 : Int32))), .val (.int (3 : Int32)), .val (.int (128 : Int32)), .val (.int (191 : Int32)), .val (.int (2 : Int32)), .val (.int ((B (i0 + (1 : Int32))) &&& (255 : Int32)))] [(.int (i0 + (2 : Int32))), (.ref ba)]))
                          have hb60 := own_bd (n := 6) (own_in hi0 c12_1 he.2 c203_56 (j := (2 : Int32)) (by decide) (by decide) (by decide)) (Int.le_trans he.2 (by decide))
                          have hin60 := inb_of S0 hb60
                          refine own_st (fun t k => X0.baloadBytes hx (j := (i0 + (2 : Int32))) (v := (.int (B (i0 + (2 : Int32))))) (by rw [e0]; exact Ar0.1) (State.isArrayOf_alike hZ.alike Ar0.2.1) Ar0.2.2 hin60 (hB _ hb60.1 hb60.2) (g := (mkF m 233 #[.val (.ref ba), .val (.int (1 : Int32)), .val (.int en), .val (.int i0), .val (.int (1 : Int32)), .val (.int ((B i0) &&& (255 : Int32))), .val (.int (3 : Int32)), .val (.int (128 : Int32)), .val (.int (191 : Int32)), .val (.int (2 : Int32)), .val (.int ((B (i0 + (1 : Int32))) &&& (255 : Int32)))] [(.int (i0 + (2 : Int32))), (.ref ba)])) rfl rfl (hb hby d1_233) t k) ?_
                          show own_Go p e below G (s₁.setTop (mkF m 234 #[.val (.ref ba), .val (.int (1 : Int32)), .val (.int en), .val (.int i0), .val (.int (1 : Int32)), .val (.int ((B i0) &&& (255 : Int32))), .val (.int (3 : Int32)), .val (.int (128 : Int32)), .val (.int (191 : Int32)), .val (.int (2 : Int32)), .val (.int ((B (i0 + (1 : Int32))) &&& (255 : Int32)))] [(.int (B (i0 + (2 : Int32))))]))
                          refine own_st (fun t k => XS.sipush X0.here hx rfl (hb hby d1_234) k) ?_
                          show own_Go p e below G (s₁.setTop (mkF m 237 #[.val (.ref ba), .val (.int (1 : Int32)), .val (.int en), .val (.int i0), .val (.int (1 : Int32)), .val (.int ((B i0) &&& (255 : Int32))), .val (.int (3 : Int32)), .val (.int (128 : Int32)), .val (.int (191 : Int32)), .val (.int (2 : Int32)), .val (.int ((B (i0 + (1 : Int32))) &&& (255 : Int32)))] [(.int (255 : Int32)), (.int (B (i0 + (2 : Int32))))]))
                          refine own_st (fun t k => XS.iand X0.here hx rfl (hb hby d1_237) rfl k) ?_
                          show own_Go p e below G (s₁.setTop (mkF m 238 #[.val (.ref ba), .val (.int (1 : Int32)), .val (.int en), .val (.int i0), .val (.int (1 : Int32)), .val (.int ((B i0) &&& (255 : Int32))), .val (.int (3 : Int32)), .val (.int (128 : Int32)), .val (.int (191 : Int32)), .val (.int (2 : Int32)), .val (.int ((B (i0 + (1 : Int32))) &&& (255 : Int32)))] [(.int ((B (i0 + (2 : Int32))) &&& (255 : Int32)))]))
                          refine own_st (fun t k => XS.istore X0.here hx rfl (hb hby d1_238) rfl (l' := #[.val (.ref ba), .val (.int (1 : Int32)), .val (.int en), .val (.int i0), .val (.int (1 : Int32)), .val (.int ((B i0) &&& (255 : Int32))), .val (.int (3 : Int32)), .val (.int (128 : Int32)), .val (.int (191 : Int32)), .val (.int (2 : Int32)), .val (.int ((B (i0 + (2 : Int32))) &&& (255 : Int32)))]) rfl k) ?_
                          show own_Go p e below G (s₁.setTop (mkF m 240 #[.val (.ref ba), .val (.int (1 : Int32)), .val (.int en), .val (.int i0), .val (.int (1 : Int32)), .val (.int ((B i0) &&& (255 : Int32))), .val (.int (3 : Int32)), .val (.int (128 : Int32)), .val (.int (191 : Int32)), .val (.int (2 : Int32)), .val (.int ((B (i0 + (2 : Int32))) &&& (255 : Int32)))] []))
                          refine own_st (fun t k => XS.iload X0.here hx rfl (hb hby d1_240) rfl  k) ?_
                          show own_Go p e below G (s₁.setTop (mkF m 242 #[.val (.ref ba), .val (.int (1 : Int32)), .val (.int en), .val (.int i0), .val (.int (1 : Int32)), .val (.int ((B i0) &&& (255 : Int32))), .val (.int (3 : Int32)), .val (.int (128 : Int32)), .val (.int (191 : Int32)), .val (.int (2 : Int32)), .val (.int ((B (i0 + (2 : Int32))) &&& (255 : Int32)))] [(.int (2 : Int32))]))
                          refine own_st (fun t k => XS.iconst X0.here hx rfl (hb hby d1_242) k) ?_
                          show own_Go p e below G (s₁.setTop (mkF m 243 #[.val (.ref ba), .val (.int (1 : Int32)), .val (.int en), .val (.int i0), .val (.int (1 : Int32)), .val (.int ((B i0) &&& (255 : Int32))), .val (.int (3 : Int32)), .val (.int (128 : Int32)), .val (.int (191 : Int32)), .val (.int (2 : Int32)), .val (.int ((B (i0 + (2 : Int32))) &&& (255 : Int32)))] [(.int (1 : Int32)), (.int (2 : Int32))]))
                          refine own_st (fun t k => XS.icmpYes X0.here hx rfl (pc0 := 243) (pc' := 268) rfl (hb hby d1_243) rfl (feq (by decide)).2 (by decide) (by decide) k) ?_
                          show own_Go p e below G (s₁.setTop (mkF m 268 #[.val (.ref ba), .val (.int (1 : Int32)), .val (.int en), .val (.int i0), .val (.int (1 : Int32)), .val (.int ((B i0) &&& (255 : Int32))), .val (.int (3 : Int32)), .val (.int (128 : Int32)), .val (.int (191 : Int32)), .val (.int (2 : Int32)), .val (.int ((B (i0 + (2 : Int32))) &&& (255 : Int32)))] []))
                          refine own_st (fun t k => XS.iload X0.here hx rfl (hb hby d1_268) rfl  k) ?_
                          show own_Go p e below G (s₁.setTop (mkF m 270 #[.val (.ref ba), .val (.int (1 : Int32)), .val (.int en), .val (.int i0), .val (.int (1 : Int32)), .val (.int ((B i0) &&& (255 : Int32))), .val (.int (3 : Int32)), .val (.int (128 : Int32)), .val (.int (191 : Int32)), .val (.int (2 : Int32)), .val (.int ((B (i0 + (2 : Int32))) &&& (255 : Int32)))] [(.int ((B (i0 + (2 : Int32))) &&& (255 : Int32)))]))
                          refine own_st (fun t k => XS.sipush X0.here hx rfl (hb hby d1_270) k) ?_
                          show own_Go p e below G (s₁.setTop (mkF m 273 #[.val (.ref ba), .val (.int (1 : Int32)), .val (.int en), .val (.int i0), .val (.int (1 : Int32)), .val (.int ((B i0) &&& (255 : Int32))), .val (.int (3 : Int32)), .val (.int (128 : Int32)), .val (.int (191 : Int32)), .val (.int (2 : Int32)), .val (.int ((B (i0 + (2 : Int32))) &&& (255 : Int32)))] [(.int (128 : Int32)), (.int ((B (i0 + (2 : Int32))) &&& (255 : Int32)))]))
                          by_cases c273_61 : ((B (i0 + (2 : Int32))) &&& (255 : Int32)) < (128 : Int32)
                          · skip
                            refine own_st (fun t k => XS.icmpYes X0.here hx rfl (pc0 := 273) (pc' := 288) rfl (hb hby d1_273) rfl (tlt c273_61).1 (by decide) (by decide) k) ?_
                            show own_Go p e below G (s₁.setTop (mkF m 288 #[.val (.ref ba), .val (.int (1 : Int32)), .val (.int en), .val (.int i0), .val (.int (1 : Int32)), .val (.int ((B i0) &&& (255 : Int32))), .val (.int (3 : Int32)), .val (.int (128 : Int32)), .val (.int (191 : Int32)), .val (.int (2 : Int32)), .val (.int ((B (i0 + (2 : Int32))) &&& (255 : Int32)))] []))
                            refine own_st (fun t k => XS.iconst X0.here hx rfl (hb hby d1_288) k) ?_
                            show own_Go p e below G (s₁.setTop (mkF m 289 #[.val (.ref ba), .val (.int (1 : Int32)), .val (.int en), .val (.int i0), .val (.int (1 : Int32)), .val (.int ((B i0) &&& (255 : Int32))), .val (.int (3 : Int32)), .val (.int (128 : Int32)), .val (.int (191 : Int32)), .val (.int (2 : Int32)), .val (.int ((B (i0 + (2 : Int32))) &&& (255 : Int32)))] [(.int (0 : Int32))]))
                            exact bad289 _ _ _ _ _ _ (show own_vl (B i0 &&& 255) (B (i0 + 1) &&& 255) (B (i0 + 2) &&& 255) (B (i0 + 3) &&& 255) (en - i0) = 0 by unfold own_vl; rw [if_neg c39_3, if_neg c53_4, if_pos c61_5, if_neg c83_6, if_neg c94_40, if_neg c113_48, if_neg c203_56, if_neg c250_58, if_neg c257_59, if_pos c273_61])
                          · skip
                            refine own_st (fun t k => XS.icmpNo X0.here hx rfl (hb hby d1_273) rfl (flt c273_61).1 k) ?_
                            show own_Go p e below G (s₁.setTop (mkF m 276 #[.val (.ref ba), .val (.int (1 : Int32)), .val (.int en), .val (.int i0), .val (.int (1 : Int32)), .val (.int ((B i0) &&& (255 : Int32))), .val (.int (3 : Int32)), .val (.int (128 : Int32)), .val (.int (191 : Int32)), .val (.int (2 : Int32)), .val (.int ((B (i0 + (2 : Int32))) &&& (255 : Int32)))] []))
                            refine own_st (fun t k => XS.iload X0.here hx rfl (hb hby d1_276) rfl  k) ?_
                            show own_Go p e below G (s₁.setTop (mkF m 278 #[.val (.ref ba), .val (.int (1 : Int32)), .val (.int en), .val (.int i0), .val (.int (1 : Int32)), .val (.int ((B i0) &&& (255 : Int32))), .val (.int (3 : Int32)), .val (.int (128 : Int32)), .val (.int (191 : Int32)), .val (.int (2 : Int32)), .val (.int ((B (i0 + (2 : Int32))) &&& (255 : Int32)))] [(.int ((B (i0 + (2 : Int32))) &&& (255 : Int32)))]))
                            refine own_st (fun t k => XS.sipush X0.here hx rfl (hb hby d1_278) k) ?_
                            show own_Go p e below G (s₁.setTop (mkF m 281 #[.val (.ref ba), .val (.int (1 : Int32)), .val (.int en), .val (.int i0), .val (.int (1 : Int32)), .val (.int ((B i0) &&& (255 : Int32))), .val (.int (3 : Int32)), .val (.int (128 : Int32)), .val (.int (191 : Int32)), .val (.int (2 : Int32)), .val (.int ((B (i0 + (2 : Int32))) &&& (255 : Int32)))] [(.int (191 : Int32)), (.int ((B (i0 + (2 : Int32))) &&& (255 : Int32)))]))
                            by_cases c281_62 : (191 : Int32) < ((B (i0 + (2 : Int32))) &&& (255 : Int32))
                            · skip
                              refine own_st (fun t k => XS.icmpYes X0.here hx rfl (pc0 := 281) (pc' := 288) rfl (hb hby d1_281) rfl (tlt c281_62).2.2.1 (by decide) (by decide) k) ?_
                              show own_Go p e below G (s₁.setTop (mkF m 288 #[.val (.ref ba), .val (.int (1 : Int32)), .val (.int en), .val (.int i0), .val (.int (1 : Int32)), .val (.int ((B i0) &&& (255 : Int32))), .val (.int (3 : Int32)), .val (.int (128 : Int32)), .val (.int (191 : Int32)), .val (.int (2 : Int32)), .val (.int ((B (i0 + (2 : Int32))) &&& (255 : Int32)))] []))
                              refine own_st (fun t k => XS.iconst X0.here hx rfl (hb hby d1_288) k) ?_
                              show own_Go p e below G (s₁.setTop (mkF m 289 #[.val (.ref ba), .val (.int (1 : Int32)), .val (.int en), .val (.int i0), .val (.int (1 : Int32)), .val (.int ((B i0) &&& (255 : Int32))), .val (.int (3 : Int32)), .val (.int (128 : Int32)), .val (.int (191 : Int32)), .val (.int (2 : Int32)), .val (.int ((B (i0 + (2 : Int32))) &&& (255 : Int32)))] [(.int (0 : Int32))]))
                              exact bad289 _ _ _ _ _ _ (show own_vl (B i0 &&& 255) (B (i0 + 1) &&& 255) (B (i0 + 2) &&& 255) (B (i0 + 3) &&& 255) (en - i0) = 0 by unfold own_vl; rw [if_neg c39_3, if_neg c53_4, if_pos c61_5, if_neg c83_6, if_neg c94_40, if_neg c113_48, if_neg c203_56, if_neg c250_58, if_neg c257_59, if_neg c273_61, if_pos c281_62])
                            · skip
                              refine own_st (fun t k => XS.icmpNo X0.here hx rfl (hb hby d1_281) rfl (flt c281_62).2.2.1 k) ?_
                              show own_Go p e below G (s₁.setTop (mkF m 284 #[.val (.ref ba), .val (.int (1 : Int32)), .val (.int en), .val (.int i0), .val (.int (1 : Int32)), .val (.int ((B i0) &&& (255 : Int32))), .val (.int (3 : Int32)), .val (.int (128 : Int32)), .val (.int (191 : Int32)), .val (.int (2 : Int32)), .val (.int ((B (i0 + (2 : Int32))) &&& (255 : Int32)))] []))
                              refine own_st (fun t k => XS.iconst X0.here hx rfl (hb hby d1_284) k) ?_
                              show own_Go p e below G (s₁.setTop (mkF m 285 #[.val (.ref ba), .val (.int (1 : Int32)), .val (.int en), .val (.int i0), .val (.int (1 : Int32)), .val (.int ((B i0) &&& (255 : Int32))), .val (.int (3 : Int32)), .val (.int (128 : Int32)), .val (.int (191 : Int32)), .val (.int (2 : Int32)), .val (.int ((B (i0 + (2 : Int32))) &&& (255 : Int32)))] [(.int (1 : Int32))]))
                              refine own_st (fun t k => XS.goto X0.here hx rfl (pc0 := 285) (pc' := 289) rfl (hb hby d1_285) (by decide) (by decide) k) ?_
                              show own_Go p e below G (s₁.setTop (mkF m 289 #[.val (.ref ba), .val (.int (1 : Int32)), .val (.int en), .val (.int i0), .val (.int (1 : Int32)), .val (.int ((B i0) &&& (255 : Int32))), .val (.int (3 : Int32)), .val (.int (128 : Int32)), .val (.int (191 : Int32)), .val (.int (2 : Int32)), .val (.int ((B (i0 + (2 : Int32))) &&& (255 : Int32)))] [(.int (1 : Int32))]))
                              refine own_st (fun t k => XS.istore X0.here hx rfl (hb hby d1_289) rfl (l' := #[.val (.ref ba), .val (.int (1 : Int32)), .val (.int en), .val (.int i0), .val (.int (1 : Int32)), .val (.int ((B i0) &&& (255 : Int32))), .val (.int (3 : Int32)), .val (.int (128 : Int32)), .val (.int (191 : Int32)), .val (.int (2 : Int32)), .val (.int ((B (i0 + (2 : Int32))) &&& (255 : Int32)))]) rfl k) ?_
                              show own_Go p e below G (s₁.setTop (mkF m 291 #[.val (.ref ba), .val (.int (1 : Int32)), .val (.int en), .val (.int i0), .val (.int (1 : Int32)), .val (.int ((B i0) &&& (255 : Int32))), .val (.int (3 : Int32)), .val (.int (128 : Int32)), .val (.int (191 : Int32)), .val (.int (2 : Int32)), .val (.int ((B (i0 + (2 : Int32))) &&& (255 : Int32)))] []))
                              refine own_st (fun t k => XS.iinc X0.here hx rfl (hb hby d1_291) rfl (l' := #[.val (.ref ba), .val (.int (1 : Int32)), .val (.int en), .val (.int i0), .val (.int (1 : Int32)), .val (.int ((B i0) &&& (255 : Int32))), .val (.int (3 : Int32)), .val (.int (128 : Int32)), .val (.int (191 : Int32)), .val (.int (3 : Int32)), .val (.int ((B (i0 + (2 : Int32))) &&& (255 : Int32)))]) rfl k) ?_
                              show own_Go p e below G (s₁.setTop (mkF m 294 #[.val (.ref ba), .val (.int (1 : Int32)), .val (.int en), .val (.int i0), .val (.int (1 : Int32)), .val (.int ((B i0) &&& (255 : Int32))), .val (.int (3 : Int32)), .val (.int (128 : Int32)), .val (.int (191 : Int32)), .val (.int (3 : Int32)), .val (.int ((B (i0 + (2 : Int32))) &&& (255 : Int32)))] []))
                              refine own_st (fun t k => XS.goto X0.here hx rfl (pc0 := 294) (pc' := 216) rfl (hb hby d1_294) (by decide) (by decide) k) ?_
                              show own_Go p e below G (s₁.setTop (mkF m 216 #[.val (.ref ba), .val (.int (1 : Int32)), .val (.int en), .val (.int i0), .val (.int (1 : Int32)), .val (.int ((B i0) &&& (255 : Int32))), .val (.int (3 : Int32)), .val (.int (128 : Int32)), .val (.int (191 : Int32)), .val (.int (3 : Int32)), .val (.int ((B (i0 + (2 : Int32))) &&& (255 : Int32)))] []))
                              refine own_st (fun t k => XS.iload X0.here hx rfl (hb hby d1_216) rfl  k) ?_
                              show own_Go p e below G (s₁.setTop (mkF m 218 #[.val (.ref ba), .val (.int (1 : Int32)), .val (.int en), .val (.int i0), .val (.int (1 : Int32)), .val (.int ((B i0) &&& (255 : Int32))), .val (.int (3 : Int32)), .val (.int (128 : Int32)), .val (.int (191 : Int32)), .val (.int (3 : Int32)), .val (.int ((B (i0 + (2 : Int32))) &&& (255 : Int32)))] [(.int (1 : Int32))]))
                              refine own_st (fun t k => XS.ifNo X0.here hx rfl (hb hby d1_218) rfl ((if0 _ _).trans (feq (by decide)).1) k) ?_
                              show own_Go p e below G (s₁.setTop (mkF m 221 #[.val (.ref ba), .val (.int (1 : Int32)), .val (.int en), .val (.int i0), .val (.int (1 : Int32)), .val (.int ((B i0) &&& (255 : Int32))), .val (.int (3 : Int32)), .val (.int (128 : Int32)), .val (.int (191 : Int32)), .val (.int (3 : Int32)), .val (.int ((B (i0 + (2 : Int32))) &&& (255 : Int32)))] []))
                              refine own_st (fun t k => XS.iload X0.here hx rfl (hb hby d1_221) rfl  k) ?_
                              show own_Go p e below G (s₁.setTop (mkF m 223 #[.val (.ref ba), .val (.int (1 : Int32)), .val (.int en), .val (.int i0), .val (.int (1 : Int32)), .val (.int ((B i0) &&& (255 : Int32))), .val (.int (3 : Int32)), .val (.int (128 : Int32)), .val (.int (191 : Int32)), .val (.int (3 : Int32)), .val (.int ((B (i0 + (2 : Int32))) &&& (255 : Int32)))] [(.int (3 : Int32))]))
                              refine own_st (fun t k => XS.iload X0.here hx rfl (hb hby d1_223) rfl  k) ?_
                              show own_Go p e below G (s₁.setTop (mkF m 225 #[.val (.ref ba), .val (.int (1 : Int32)), .val (.int en), .val (.int i0), .val (.int (1 : Int32)), .val (.int ((B i0) &&& (255 : Int32))), .val (.int (3 : Int32)), .val (.int (128 : Int32)), .val (.int (191 : Int32)), .val (.int (3 : Int32)), .val (.int ((B (i0 + (2 : Int32))) &&& (255 : Int32)))] [(.int (3 : Int32)), (.int (3 : Int32))]))
                              refine own_st (fun t k => XS.icmpYes X0.here hx rfl (pc0 := 225) (pc' := 297) rfl (hb hby d1_225) rfl (flt (by decide)).2.1 (by decide) (by decide) k) ?_
                              show own_Go p e below G (s₁.setTop (mkF m 297 #[.val (.ref ba), .val (.int (1 : Int32)), .val (.int en), .val (.int i0), .val (.int (1 : Int32)), .val (.int ((B i0) &&& (255 : Int32))), .val (.int (3 : Int32)), .val (.int (128 : Int32)), .val (.int (191 : Int32)), .val (.int (3 : Int32)), .val (.int ((B (i0 + (2 : Int32))) &&& (255 : Int32)))] []))
                              refine own_st (fun t k => XS.iloadN X0.here hx rfl (hb hby d1_297) rfl  k) ?_
                              show own_Go p e below G (s₁.setTop (mkF m 298 #[.val (.ref ba), .val (.int (1 : Int32)), .val (.int en), .val (.int i0), .val (.int (1 : Int32)), .val (.int ((B i0) &&& (255 : Int32))), .val (.int (3 : Int32)), .val (.int (128 : Int32)), .val (.int (191 : Int32)), .val (.int (3 : Int32)), .val (.int ((B (i0 + (2 : Int32))) &&& (255 : Int32)))] [(.int i0)]))
                              refine own_st (fun t k => XS.iload X0.here hx rfl (hb hby d1_298) rfl  k) ?_
                              show own_Go p e below G (s₁.setTop (mkF m 300 #[.val (.ref ba), .val (.int (1 : Int32)), .val (.int en), .val (.int i0), .val (.int (1 : Int32)), .val (.int ((B i0) &&& (255 : Int32))), .val (.int (3 : Int32)), .val (.int (128 : Int32)), .val (.int (191 : Int32)), .val (.int (3 : Int32)), .val (.int ((B (i0 + (2 : Int32))) &&& (255 : Int32)))] [(.int (3 : Int32)), (.int i0)]))
                              refine own_st (fun t k => XS.iadd X0.here hx rfl (hb hby d1_300) rfl k) ?_
                              show own_Go p e below G (s₁.setTop (mkF m 301 #[.val (.ref ba), .val (.int (1 : Int32)), .val (.int en), .val (.int i0), .val (.int (1 : Int32)), .val (.int ((B i0) &&& (255 : Int32))), .val (.int (3 : Int32)), .val (.int (128 : Int32)), .val (.int (191 : Int32)), .val (.int (3 : Int32)), .val (.int ((B (i0 + (2 : Int32))) &&& (255 : Int32)))] [(.int (i0 + (3 : Int32)))]))
                              refine own_st (fun t k => XS.istoreN X0.here hx rfl (hb hby d1_301) rfl (l' := #[.val (.ref ba), .val (.int (1 : Int32)), .val (.int en), .val (.int (i0 + (3 : Int32))), .val (.int (1 : Int32)), .val (.int ((B i0) &&& (255 : Int32))), .val (.int (3 : Int32)), .val (.int (128 : Int32)), .val (.int (191 : Int32)), .val (.int (3 : Int32)), .val (.int ((B (i0 + (2 : Int32))) &&& (255 : Int32)))]) rfl k) ?_
                              show own_Go p e below G (s₁.setTop (mkF m 302 #[.val (.ref ba), .val (.int (1 : Int32)), .val (.int en), .val (.int (i0 + (3 : Int32))), .val (.int (1 : Int32)), .val (.int ((B i0) &&& (255 : Int32))), .val (.int (3 : Int32)), .val (.int (128 : Int32)), .val (.int (191 : Int32)), .val (.int (3 : Int32)), .val (.int ((B (i0 + (2 : Int32))) &&& (255 : Int32)))] []))
                              refine own_st (fun t k => XS.goto X0.here hx rfl (pc0 := 302) (pc' := 5) rfl (hb hby d1_302) (by decide) (by decide) k) ?_
                              show own_Go p e below G (s₁.setTop (mkF m 5 #[.val (.ref ba), .val (.int (1 : Int32)), .val (.int en), .val (.int (i0 + (3 : Int32))), .val (.int (1 : Int32)), .val (.int ((B i0) &&& (255 : Int32))), .val (.int (3 : Int32)), .val (.int (128 : Int32)), .val (.int (191 : Int32)), .val (.int (3 : Int32)), .val (.int ((B (i0 + (2 : Int32))) &&& (255 : Int32)))] []))
                              have hn := own_in (len := (3 : Int32)) (j := ((3 : Int32) - 1)) hi0 c12_1 he.2 c203_56 (by decide) (by decide) (by decide)
                              have ha := own_add (i := i0) (j := (3 : Int32)) hi0 (Int.le_of_lt (Int.lt_of_lt_of_le (Int32.lt_iff_toInt_lt.mp c12_1) he.2)) (by decide) (by decide)
                              have hc := own_add (i := i0) (j := ((3 : Int32) - 1)) hi0 (Int.le_of_lt (Int.lt_of_lt_of_le (Int32.lt_iff_toInt_lt.mp c12_1) he.2)) (by decide) (by decide)
                              rw [hc] at hn
                              have z1 : (((3 : Int32) - 1) : Int32).toInt = 2 := by decide
                              have z2 : ((3 : Int32)).toInt = 3 := by decide
                              exact ih (i0 + (3 : Int32)) _ _ _ _ _ _ (One.val rfl) (One.val rfl) (One.val rfl) (One.val rfl) (One.val rfl) (One.val rfl) (by omega) (by omega) (by omega) (heq.trans (own_vrN c12_1 (show own_vl (B i0 &&& 255) (B (i0 + 1) &&& 255) (B (i0 + 2) &&& 255) (B (i0 + 3) &&& 255) (en - i0) = (3 : Int32) by unfold own_vl; rw [if_neg c39_3, if_neg c53_4, if_pos c61_5, if_neg c83_6, if_neg c94_40, if_neg c113_48, if_neg c203_56, if_neg c250_58, if_neg c257_59, if_neg c273_61, if_neg c281_62]) (by decide)))
            · skip
              refine own_st (fun t k => XS.icmpNo X0.here hx rfl (hb hby d1_61) rfl (flt c61_5).2.2.1 k) ?_
              show own_Go p e below G (s₁.setTop (mkF m 64 #[.val (.ref ba), .val (.int (1 : Int32)), .val (.int en), .val (.int i0), .val (.int (1 : Int32)), .val (.int ((B i0) &&& (255 : Int32))), s6, .val (.int (128 : Int32)), .val (.int (191 : Int32)), s9, s10] []))
              refine own_st (fun t k => XS.iconst X0.here hx rfl (hb hby d1_64) k) ?_
              show own_Go p e below G (s₁.setTop (mkF m 65 #[.val (.ref ba), .val (.int (1 : Int32)), .val (.int en), .val (.int i0), .val (.int (1 : Int32)), .val (.int ((B i0) &&& (255 : Int32))), s6, .val (.int (128 : Int32)), .val (.int (191 : Int32)), s9, s10] [(.int (2 : Int32))]))
              refine own_st (fun t k => XS.istore X0.here hx rfl (hb hby d1_65) rfl (l' := #[.val (.ref ba), .val (.int (1 : Int32)), .val (.int en), .val (.int i0), .val (.int (1 : Int32)), .val (.int ((B i0) &&& (255 : Int32))), .val (.int (2 : Int32)), .val (.int (128 : Int32)), .val (.int (191 : Int32)), s9, s10]) (XS.store1 rfl hs6 rfl) k) ?_
              show own_Go p e below G (s₁.setTop (mkF m 67 #[.val (.ref ba), .val (.int (1 : Int32)), .val (.int en), .val (.int i0), .val (.int (1 : Int32)), .val (.int ((B i0) &&& (255 : Int32))), .val (.int (2 : Int32)), .val (.int (128 : Int32)), .val (.int (191 : Int32)), s9, s10] []))
              refine own_st (fun t k => XS.goto X0.here hx rfl (pc0 := 67) (pc' := 193) rfl (hb hby d1_67) (by decide) (by decide) k) ?_
              show own_Go p e below G (s₁.setTop (mkF m 193 #[.val (.ref ba), .val (.int (1 : Int32)), .val (.int en), .val (.int i0), .val (.int (1 : Int32)), .val (.int ((B i0) &&& (255 : Int32))), .val (.int (2 : Int32)), .val (.int (128 : Int32)), .val (.int (191 : Int32)), s9, s10] []))
              refine own_st (fun t k => XS.iload X0.here hx rfl (hb hby d1_193) rfl  k) ?_
              show own_Go p e below G (s₁.setTop (mkF m 195 #[.val (.ref ba), .val (.int (1 : Int32)), .val (.int en), .val (.int i0), .val (.int (1 : Int32)), .val (.int ((B i0) &&& (255 : Int32))), .val (.int (2 : Int32)), .val (.int (128 : Int32)), .val (.int (191 : Int32)), s9, s10] [(.int (2 : Int32))]))
              refine own_st (fun t k => XS.ifNo X0.here hx rfl (hb hby d1_195) rfl ((if0 _ _).trans (tlt (by decide)).2.2.2) k) ?_
              show own_Go p e below G (s₁.setTop (mkF m 198 #[.val (.ref ba), .val (.int (1 : Int32)), .val (.int en), .val (.int i0), .val (.int (1 : Int32)), .val (.int ((B i0) &&& (255 : Int32))), .val (.int (2 : Int32)), .val (.int (128 : Int32)), .val (.int (191 : Int32)), s9, s10] []))
              refine own_st (fun t k => XS.iloadN X0.here hx rfl (hb hby d1_198) rfl  k) ?_
              show own_Go p e below G (s₁.setTop (mkF m 199 #[.val (.ref ba), .val (.int (1 : Int32)), .val (.int en), .val (.int i0), .val (.int (1 : Int32)), .val (.int ((B i0) &&& (255 : Int32))), .val (.int (2 : Int32)), .val (.int (128 : Int32)), .val (.int (191 : Int32)), s9, s10] [(.int en)]))
              refine own_st (fun t k => XS.iloadN X0.here hx rfl (hb hby d1_199) rfl  k) ?_
              show own_Go p e below G (s₁.setTop (mkF m 200 #[.val (.ref ba), .val (.int (1 : Int32)), .val (.int en), .val (.int i0), .val (.int (1 : Int32)), .val (.int ((B i0) &&& (255 : Int32))), .val (.int (2 : Int32)), .val (.int (128 : Int32)), .val (.int (191 : Int32)), s9, s10] [(.int i0), (.int en)]))
              refine own_st (fun t k => XS.isub X0.here hx rfl (hb hby d1_200) rfl k) ?_
              show own_Go p e below G (s₁.setTop (mkF m 201 #[.val (.ref ba), .val (.int (1 : Int32)), .val (.int en), .val (.int i0), .val (.int (1 : Int32)), .val (.int ((B i0) &&& (255 : Int32))), .val (.int (2 : Int32)), .val (.int (128 : Int32)), .val (.int (191 : Int32)), s9, s10] [(.int (en - i0))]))
              refine own_st (fun t k => XS.iload X0.here hx rfl (hb hby d1_201) rfl  k) ?_
              show own_Go p e below G (s₁.setTop (mkF m 203 #[.val (.ref ba), .val (.int (1 : Int32)), .val (.int en), .val (.int i0), .val (.int (1 : Int32)), .val (.int ((B i0) &&& (255 : Int32))), .val (.int (2 : Int32)), .val (.int (128 : Int32)), .val (.int (191 : Int32)), s9, s10] [(.int (2 : Int32)), (.int (en - i0))]))
              by_cases c203_63 : (en - i0) < (2 : Int32)
              · skip
                refine own_st (fun t k => XS.icmpYes X0.here hx rfl (pc0 := 203) (pc' := 210) rfl (hb hby d1_203) rfl (tlt c203_63).1 (by decide) (by decide) k) ?_
                show own_Go p e below G (s₁.setTop (mkF m 210 #[.val (.ref ba), .val (.int (1 : Int32)), .val (.int en), .val (.int i0), .val (.int (1 : Int32)), .val (.int ((B i0) &&& (255 : Int32))), .val (.int (2 : Int32)), .val (.int (128 : Int32)), .val (.int (191 : Int32)), s9, s10] []))
                refine own_st (fun t k => XS.iconst X0.here hx rfl (hb hby d1_210) k) ?_
                show own_Go p e below G (s₁.setTop (mkF m 211 #[.val (.ref ba), .val (.int (1 : Int32)), .val (.int en), .val (.int i0), .val (.int (1 : Int32)), .val (.int ((B i0) &&& (255 : Int32))), .val (.int (2 : Int32)), .val (.int (128 : Int32)), .val (.int (191 : Int32)), s9, s10] [(.int (0 : Int32))]))
                exact bad211 _ _ _ _ _ _ hs9 (show own_vl (B i0 &&& 255) (B (i0 + 1) &&& 255) (B (i0 + 2) &&& 255) (B (i0 + 3) &&& 255) (en - i0) = 0 by unfold own_vl; rw [if_neg c39_3, if_neg c53_4, if_neg c61_5, if_pos c203_63])
              · skip
                refine own_st (fun t k => XS.icmpNo X0.here hx rfl (hb hby d1_203) rfl (flt c203_63).1 k) ?_
                show own_Go p e below G (s₁.setTop (mkF m 206 #[.val (.ref ba), .val (.int (1 : Int32)), .val (.int en), .val (.int i0), .val (.int (1 : Int32)), .val (.int ((B i0) &&& (255 : Int32))), .val (.int (2 : Int32)), .val (.int (128 : Int32)), .val (.int (191 : Int32)), s9, s10] []))
                refine own_st (fun t k => XS.iconst X0.here hx rfl (hb hby d1_206) k) ?_
                show own_Go p e below G (s₁.setTop (mkF m 207 #[.val (.ref ba), .val (.int (1 : Int32)), .val (.int en), .val (.int i0), .val (.int (1 : Int32)), .val (.int ((B i0) &&& (255 : Int32))), .val (.int (2 : Int32)), .val (.int (128 : Int32)), .val (.int (191 : Int32)), s9, s10] [(.int (1 : Int32))]))
                refine own_st (fun t k => XS.goto X0.here hx rfl (pc0 := 207) (pc' := 211) rfl (hb hby d1_207) (by decide) (by decide) k) ?_
                show own_Go p e below G (s₁.setTop (mkF m 211 #[.val (.ref ba), .val (.int (1 : Int32)), .val (.int en), .val (.int i0), .val (.int (1 : Int32)), .val (.int ((B i0) &&& (255 : Int32))), .val (.int (2 : Int32)), .val (.int (128 : Int32)), .val (.int (191 : Int32)), s9, s10] [(.int (1 : Int32))]))
                refine own_st (fun t k => XS.istore X0.here hx rfl (hb hby d1_211) rfl (l' := #[.val (.ref ba), .val (.int (1 : Int32)), .val (.int en), .val (.int i0), .val (.int (1 : Int32)), .val (.int ((B i0) &&& (255 : Int32))), .val (.int (2 : Int32)), .val (.int (128 : Int32)), .val (.int (191 : Int32)), s9, s10]) rfl k) ?_
                show own_Go p e below G (s₁.setTop (mkF m 213 #[.val (.ref ba), .val (.int (1 : Int32)), .val (.int en), .val (.int i0), .val (.int (1 : Int32)), .val (.int ((B i0) &&& (255 : Int32))), .val (.int (2 : Int32)), .val (.int (128 : Int32)), .val (.int (191 : Int32)), s9, s10] []))
                refine own_st (fun t k => XS.iconst X0.here hx rfl (hb hby d1_213) k) ?_
                show own_Go p e below G (s₁.setTop (mkF m 214 #[.val (.ref ba), .val (.int (1 : Int32)), .val (.int en), .val (.int i0), .val (.int (1 : Int32)), .val (.int ((B i0) &&& (255 : Int32))), .val (.int (2 : Int32)), .val (.int (128 : Int32)), .val (.int (191 : Int32)), s9, s10] [(.int (1 : Int32))]))
                refine own_st (fun t k => XS.istore X0.here hx rfl (hb hby d1_214) rfl (l' := #[.val (.ref ba), .val (.int (1 : Int32)), .val (.int en), .val (.int i0), .val (.int (1 : Int32)), .val (.int ((B i0) &&& (255 : Int32))), .val (.int (2 : Int32)), .val (.int (128 : Int32)), .val (.int (191 : Int32)), .val (.int (1 : Int32)), s10]) (XS.store1 rfl hs9 rfl) k) ?_
                show own_Go p e below G (s₁.setTop (mkF m 216 #[.val (.ref ba), .val (.int (1 : Int32)), .val (.int en), .val (.int i0), .val (.int (1 : Int32)), .val (.int ((B i0) &&& (255 : Int32))), .val (.int (2 : Int32)), .val (.int (128 : Int32)), .val (.int (191 : Int32)), .val (.int (1 : Int32)), s10] []))
                refine own_st (fun t k => XS.iload X0.here hx rfl (hb hby d1_216) rfl  k) ?_
                show own_Go p e below G (s₁.setTop (mkF m 218 #[.val (.ref ba), .val (.int (1 : Int32)), .val (.int en), .val (.int i0), .val (.int (1 : Int32)), .val (.int ((B i0) &&& (255 : Int32))), .val (.int (2 : Int32)), .val (.int (128 : Int32)), .val (.int (191 : Int32)), .val (.int (1 : Int32)), s10] [(.int (1 : Int32))]))
                refine own_st (fun t k => XS.ifNo X0.here hx rfl (hb hby d1_218) rfl ((if0 _ _).trans (feq (by decide)).1) k) ?_
                show own_Go p e below G (s₁.setTop (mkF m 221 #[.val (.ref ba), .val (.int (1 : Int32)), .val (.int en), .val (.int i0), .val (.int (1 : Int32)), .val (.int ((B i0) &&& (255 : Int32))), .val (.int (2 : Int32)), .val (.int (128 : Int32)), .val (.int (191 : Int32)), .val (.int (1 : Int32)), s10] []))
                refine own_st (fun t k => XS.iload X0.here hx rfl (hb hby d1_221) rfl  k) ?_
                show own_Go p e below G (s₁.setTop (mkF m 223 #[.val (.ref ba), .val (.int (1 : Int32)), .val (.int en), .val (.int i0), .val (.int (1 : Int32)), .val (.int ((B i0) &&& (255 : Int32))), .val (.int (2 : Int32)), .val (.int (128 : Int32)), .val (.int (191 : Int32)), .val (.int (1 : Int32)), s10] [(.int (1 : Int32))]))
                refine own_st (fun t k => XS.iload X0.here hx rfl (hb hby d1_223) rfl  k) ?_
                show own_Go p e below G (s₁.setTop (mkF m 225 #[.val (.ref ba), .val (.int (1 : Int32)), .val (.int en), .val (.int i0), .val (.int (1 : Int32)), .val (.int ((B i0) &&& (255 : Int32))), .val (.int (2 : Int32)), .val (.int (128 : Int32)), .val (.int (191 : Int32)), .val (.int (1 : Int32)), s10] [(.int (2 : Int32)), (.int (1 : Int32))]))
                refine own_st (fun t k => XS.icmpNo X0.here hx rfl (hb hby d1_225) rfl (tlt (by decide)).2.1 k) ?_
                show own_Go p e below G (s₁.setTop (mkF m 228 #[.val (.ref ba), .val (.int (1 : Int32)), .val (.int en), .val (.int i0), .val (.int (1 : Int32)), .val (.int ((B i0) &&& (255 : Int32))), .val (.int (2 : Int32)), .val (.int (128 : Int32)), .val (.int (191 : Int32)), .val (.int (1 : Int32)), s10] []))
                refine own_st (fun t k => XS.aloadN X0.here hx rfl (hb hby d1_228) rfl rfl  k) ?_
                show own_Go p e below G (s₁.setTop (mkF m 229 #[.val (.ref ba), .val (.int (1 : Int32)), .val (.int en), .val (.int i0), .val (.int (1 : Int32)), .val (.int ((B i0) &&& (255 : Int32))), .val (.int (2 : Int32)), .val (.int (128 : Int32)), .val (.int (191 : Int32)), .val (.int (1 : Int32)), s10] [(.ref ba)]))
                refine own_st (fun t k => XS.iloadN X0.here hx rfl (hb hby d1_229) rfl  k) ?_
                show own_Go p e below G (s₁.setTop (mkF m 230 #[.val (.ref ba), .val (.int (1 : Int32)), .val (.int en), .val (.int i0), .val (.int (1 : Int32)), .val (.int ((B i0) &&& (255 : Int32))), .val (.int (2 : Int32)), .val (.int (128 : Int32)), .val (.int (191 : Int32)), .val (.int (1 : Int32)), s10] [(.int i0), (.ref ba)]))
                refine own_st (fun t k => XS.iload X0.here hx rfl (hb hby d1_230) rfl  k) ?_
                show own_Go p e below G (s₁.setTop (mkF m 232 #[.val (.ref ba), .val (.int (1 : Int32)), .val (.int en), .val (.int i0), .val (.int (1 : Int32)), .val (.int ((B i0) &&& (255 : Int32))), .val (.int (2 : Int32)), .val (.int (128 : Int32)), .val (.int (191 : Int32)), .val (.int (1 : Int32)), s10] [(.int (1 : Int32)), (.int i0), (.ref ba)]))
                refine own_st (fun t k => XS.iadd X0.here hx rfl (hb hby d1_232) rfl k) ?_
                show own_Go p e below G (s₁.setTop (mkF m 233 #[.val (.ref ba), .val (.int (1 : Int32)), .val (.int en), .val (.int i0), .val (.int (1 : Int32)), .val (.int ((B i0) &&& (255 : Int32))), .val (.int (2 : Int32)), .val (.int (128 : Int32)), .val (.int (191 : Int32)), .val (.int (1 : Int32)), s10] [(.int (i0 + (1 : Int32))), (.ref ba)]))
                have hb64 := own_bd (n := 6) (own_in hi0 c12_1 he.2 c203_63 (j := (1 : Int32)) (by decide) (by decide) (by decide)) (Int.le_trans he.2 (by decide))
                have hin64 := inb_of S0 hb64
                refine own_st (fun t k => X0.baloadBytes hx (j := (i0 + (1 : Int32))) (v := (.int (B (i0 + (1 : Int32))))) (by rw [e0]; exact Ar0.1) (State.isArrayOf_alike hZ.alike Ar0.2.1) Ar0.2.2 hin64 (hB _ hb64.1 hb64.2) (g := (mkF m 233 #[.val (.ref ba), .val (.int (1 : Int32)), .val (.int en), .val (.int i0), .val (.int (1 : Int32)), .val (.int ((B i0) &&& (255 : Int32))), .val (.int (2 : Int32)), .val (.int (128 : Int32)), .val (.int (191 : Int32)), .val (.int (1 : Int32)), s10] [(.int (i0 + (1 : Int32))), (.ref ba)])) rfl rfl (hb hby d1_233) t k) ?_
                show own_Go p e below G (s₁.setTop (mkF m 234 #[.val (.ref ba), .val (.int (1 : Int32)), .val (.int en), .val (.int i0), .val (.int (1 : Int32)), .val (.int ((B i0) &&& (255 : Int32))), .val (.int (2 : Int32)), .val (.int (128 : Int32)), .val (.int (191 : Int32)), .val (.int (1 : Int32)), s10] [(.int (B (i0 + (1 : Int32))))]))
                refine own_st (fun t k => XS.sipush X0.here hx rfl (hb hby d1_234) k) ?_
                show own_Go p e below G (s₁.setTop (mkF m 237 #[.val (.ref ba), .val (.int (1 : Int32)), .val (.int en), .val (.int i0), .val (.int (1 : Int32)), .val (.int ((B i0) &&& (255 : Int32))), .val (.int (2 : Int32)), .val (.int (128 : Int32)), .val (.int (191 : Int32)), .val (.int (1 : Int32)), s10] [(.int (255 : Int32)), (.int (B (i0 + (1 : Int32))))]))
                refine own_st (fun t k => XS.iand X0.here hx rfl (hb hby d1_237) rfl k) ?_
                show own_Go p e below G (s₁.setTop (mkF m 238 #[.val (.ref ba), .val (.int (1 : Int32)), .val (.int en), .val (.int i0), .val (.int (1 : Int32)), .val (.int ((B i0) &&& (255 : Int32))), .val (.int (2 : Int32)), .val (.int (128 : Int32)), .val (.int (191 : Int32)), .val (.int (1 : Int32)), s10] [(.int ((B (i0 + (1 : Int32))) &&& (255 : Int32)))]))
                refine own_st (fun t k => XS.istore X0.here hx rfl (hb hby d1_238) rfl (l' := #[.val (.ref ba), .val (.int (1 : Int32)), .val (.int en), .val (.int i0), .val (.int (1 : Int32)), .val (.int ((B i0) &&& (255 : Int32))), .val (.int (2 : Int32)), .val (.int (128 : Int32)), .val (.int (191 : Int32)), .val (.int (1 : Int32)), .val (.int ((B (i0 + (1 : Int32))) &&& (255 : Int32)))]) (XS.store1 rfl hs10 rfl) k) ?_
                show own_Go p e below G (s₁.setTop (mkF m 240 #[.val (.ref ba), .val (.int (1 : Int32)), .val (.int en), .val (.int i0), .val (.int (1 : Int32)), .val (.int ((B i0) &&& (255 : Int32))), .val (.int (2 : Int32)), .val (.int (128 : Int32)), .val (.int (191 : Int32)), .val (.int (1 : Int32)), .val (.int ((B (i0 + (1 : Int32))) &&& (255 : Int32)))] []))
                refine own_st (fun t k => XS.iload X0.here hx rfl (hb hby d1_240) rfl  k) ?_
                show own_Go p e below G (s₁.setTop (mkF m 242 #[.val (.ref ba), .val (.int (1 : Int32)), .val (.int en), .val (.int i0), .val (.int (1 : Int32)), .val (.int ((B i0) &&& (255 : Int32))), .val (.int (2 : Int32)), .val (.int (128 : Int32)), .val (.int (191 : Int32)), .val (.int (1 : Int32)), .val (.int ((B (i0 + (1 : Int32))) &&& (255 : Int32)))] [(.int (1 : Int32))]))
                refine own_st (fun t k => XS.iconst X0.here hx rfl (hb hby d1_242) k) ?_
                show own_Go p e below G (s₁.setTop (mkF m 243 #[.val (.ref ba), .val (.int (1 : Int32)), .val (.int en), .val (.int i0), .val (.int (1 : Int32)), .val (.int ((B i0) &&& (255 : Int32))), .val (.int (2 : Int32)), .val (.int (128 : Int32)), .val (.int (191 : Int32)), .val (.int (1 : Int32)), .val (.int ((B (i0 + (1 : Int32))) &&& (255 : Int32)))] [(.int (1 : Int32)), (.int (1 : Int32))]))
                refine own_st (fun t k => XS.icmpNo X0.here hx rfl (hb hby d1_243) rfl (teq (by decide)).2 k) ?_
                show own_Go p e below G (s₁.setTop (mkF m 246 #[.val (.ref ba), .val (.int (1 : Int32)), .val (.int en), .val (.int i0), .val (.int (1 : Int32)), .val (.int ((B i0) &&& (255 : Int32))), .val (.int (2 : Int32)), .val (.int (128 : Int32)), .val (.int (191 : Int32)), .val (.int (1 : Int32)), .val (.int ((B (i0 + (1 : Int32))) &&& (255 : Int32)))] []))
                refine own_st (fun t k => XS.iload X0.here hx rfl (hb hby d1_246) rfl  k) ?_
                show own_Go p e below G (s₁.setTop (mkF m 248 #[.val (.ref ba), .val (.int (1 : Int32)), .val (.int en), .val (.int i0), .val (.int (1 : Int32)), .val (.int ((B i0) &&& (255 : Int32))), .val (.int (2 : Int32)), .val (.int (128 : Int32)), .val (.int (191 : Int32)), .val (.int (1 : Int32)), .val (.int ((B (i0 + (1 : Int32))) &&& (255 : Int32)))] [(.int ((B (i0 + (1 : Int32))) &&& (255 : Int32)))]))
                refine own_st (fun t k => XS.iload X0.here hx rfl (hb hby d1_248) rfl  k) ?_
                show own_Go p e below G (s₁.setTop (mkF m 250 #[.val (.ref ba), .val (.int (1 : Int32)), .val (.int en), .val (.int i0), .val (.int (1 : Int32)), .val (.int ((B i0) &&& (255 : Int32))), .val (.int (2 : Int32)), .val (.int (128 : Int32)), .val (.int (191 : Int32)), .val (.int (1 : Int32)), .val (.int ((B (i0 + (1 : Int32))) &&& (255 : Int32)))] [(.int (128 : Int32)), (.int ((B (i0 + (1 : Int32))) &&& (255 : Int32)))]))
                by_cases c250_65 : ((B (i0 + (1 : Int32))) &&& (255 : Int32)) < (128 : Int32)
                · skip
                  refine own_st (fun t k => XS.icmpYes X0.here hx rfl (pc0 := 250) (pc' := 264) rfl (hb hby d1_250) rfl (tlt c250_65).1 (by decide) (by decide) k) ?_
                  show own_Go p e below G (s₁.setTop (mkF m 264 #[.val (.ref ba), .val (.int (1 : Int32)), .val (.int en), .val (.int i0), .val (.int (1 : Int32)), .val (.int ((B i0) &&& (255 : Int32))), .val (.int (2 : Int32)), .val (.int (128 : Int32)), .val (.int (191 : Int32)), .val (.int (1 : Int32)), .val (.int ((B (i0 + (1 : Int32))) &&& (255 : Int32)))] []))
                  refine own_st (fun t k => XS.iconst X0.here hx rfl (hb hby d1_264) k) ?_
                  show own_Go p e below G (s₁.setTop (mkF m 265 #[.val (.ref ba), .val (.int (1 : Int32)), .val (.int en), .val (.int i0), .val (.int (1 : Int32)), .val (.int ((B i0) &&& (255 : Int32))), .val (.int (2 : Int32)), .val (.int (128 : Int32)), .val (.int (191 : Int32)), .val (.int (1 : Int32)), .val (.int ((B (i0 + (1 : Int32))) &&& (255 : Int32)))] [(.int (0 : Int32))]))
                  refine own_st (fun t k => XS.goto X0.here hx rfl (pc0 := 265) (pc' := 289) rfl (hb hby d1_265) (by decide) (by decide) k) ?_
                  show own_Go p e below G (s₁.setTop (mkF m 289 #[.val (.ref ba), .val (.int (1 : Int32)), .val (.int en), .val (.int i0), .val (.int (1 : Int32)), .val (.int ((B i0) &&& (255 : Int32))), .val (.int (2 : Int32)), .val (.int (128 : Int32)), .val (.int (191 : Int32)), .val (.int (1 : Int32)), .val (.int ((B (i0 + (1 : Int32))) &&& (255 : Int32)))] [(.int (0 : Int32))]))
                  exact bad289 _ _ _ _ _ _ (show own_vl (B i0 &&& 255) (B (i0 + 1) &&& 255) (B (i0 + 2) &&& 255) (B (i0 + 3) &&& 255) (en - i0) = 0 by unfold own_vl; rw [if_neg c39_3, if_neg c53_4, if_neg c61_5, if_neg c203_63, if_pos c250_65])
                · skip
                  refine own_st (fun t k => XS.icmpNo X0.here hx rfl (hb hby d1_250) rfl (flt c250_65).1 k) ?_
                  show own_Go p e below G (s₁.setTop (mkF m 253 #[.val (.ref ba), .val (.int (1 : Int32)), .val (.int en), .val (.int i0), .val (.int (1 : Int32)), .val (.int ((B i0) &&& (255 : Int32))), .val (.int (2 : Int32)), .val (.int (128 : Int32)), .val (.int (191 : Int32)), .val (.int (1 : Int32)), .val (.int ((B (i0 + (1 : Int32))) &&& (255 : Int32)))] []))
                  refine own_st (fun t k => XS.iload X0.here hx rfl (hb hby d1_253) rfl  k) ?_
                  show own_Go p e below G (s₁.setTop (mkF m 255 #[.val (.ref ba), .val (.int (1 : Int32)), .val (.int en), .val (.int i0), .val (.int (1 : Int32)), .val (.int ((B i0) &&& (255 : Int32))), .val (.int (2 : Int32)), .val (.int (128 : Int32)), .val (.int (191 : Int32)), .val (.int (1 : Int32)), .val (.int ((B (i0 + (1 : Int32))) &&& (255 : Int32)))] [(.int ((B (i0 + (1 : Int32))) &&& (255 : Int32)))]))
                  refine own_st (fun t k => XS.iload X0.here hx rfl (hb hby d1_255) rfl  k) ?_
                  show own_Go p e below G (s₁.setTop (mkF m 257 #[.val (.ref ba), .val (.int (1 : Int32)), .val (.int en), .val (.int i0), .val (.int (1 : Int32)), .val (.int ((B i0) &&& (255 : Int32))), .val (.int (2 : Int32)), .val (.int (128 : Int32)), .val (.int (191 : Int32)), .val (.int (1 : Int32)), .val (.int ((B (i0 + (1 : Int32))) &&& (255 : Int32)))] [(.int (191 : Int32)), (.int ((B (i0 + (1 : Int32))) &&& (255 : Int32)))]))
                  by_cases c257_66 : (191 : Int32) < ((B (i0 + (1 : Int32))) &&& (255 : Int32))
                  · skip
                    refine own_st (fun t k => XS.icmpYes X0.here hx rfl (pc0 := 257) (pc' := 264) rfl (hb hby d1_257) rfl (tlt c257_66).2.2.1 (by decide) (by decide) k) ?_
                    show own_Go p e below G (s₁.setTop (mkF m 264 #[.val (.ref ba), .val (.int (1 : Int32)), .val (.int en), .val (.int i0), .val (.int (1 : Int32)), .val (.int ((B i0) &&& (255 : Int32))), .val (.int (2 : Int32)), .val (.int (128 : Int32)), .val (.int (191 : Int32)), .val (.int (1 : Int32)), .val (.int ((B (i0 + (1 : Int32))) &&& (255 : Int32)))] []))
                    refine own_st (fun t k => XS.iconst X0.here hx rfl (hb hby d1_264) k) ?_
                    show own_Go p e below G (s₁.setTop (mkF m 265 #[.val (.ref ba), .val (.int (1 : Int32)), .val (.int en), .val (.int i0), .val (.int (1 : Int32)), .val (.int ((B i0) &&& (255 : Int32))), .val (.int (2 : Int32)), .val (.int (128 : Int32)), .val (.int (191 : Int32)), .val (.int (1 : Int32)), .val (.int ((B (i0 + (1 : Int32))) &&& (255 : Int32)))] [(.int (0 : Int32))]))
                    refine own_st (fun t k => XS.goto X0.here hx rfl (pc0 := 265) (pc' := 289) rfl (hb hby d1_265) (by decide) (by decide) k) ?_
                    show own_Go p e below G (s₁.setTop (mkF m 289 #[.val (.ref ba), .val (.int (1 : Int32)), .val (.int en), .val (.int i0), .val (.int (1 : Int32)), .val (.int ((B i0) &&& (255 : Int32))), .val (.int (2 : Int32)), .val (.int (128 : Int32)), .val (.int (191 : Int32)), .val (.int (1 : Int32)), .val (.int ((B (i0 + (1 : Int32))) &&& (255 : Int32)))] [(.int (0 : Int32))]))
                    exact bad289 _ _ _ _ _ _ (show own_vl (B i0 &&& 255) (B (i0 + 1) &&& 255) (B (i0 + 2) &&& 255) (B (i0 + 3) &&& 255) (en - i0) = 0 by unfold own_vl; rw [if_neg c39_3, if_neg c53_4, if_neg c61_5, if_neg c203_63, if_neg c250_65, if_pos c257_66])
                  · skip
                    refine own_st (fun t k => XS.icmpNo X0.here hx rfl (hb hby d1_257) rfl (flt c257_66).2.2.1 k) ?_
                    show own_Go p e below G (s₁.setTop (mkF m 260 #[.val (.ref ba), .val (.int (1 : Int32)), .val (.int en), .val (.int i0), .val (.int (1 : Int32)), .val (.int ((B i0) &&& (255 : Int32))), .val (.int (2 : Int32)), .val (.int (128 : Int32)), .val (.int (191 : Int32)), .val (.int (1 : Int32)), .val (.int ((B (i0 + (1 : Int32))) &&& (255 : Int32)))] []))
                    refine own_st (fun t k => XS.iconst X0.here hx rfl (hb hby d1_260) k) ?_
                    show own_Go p e below G (s₁.setTop (mkF m 261 #[.val (.ref ba), .val (.int (1 : Int32)), .val (.int en), .val (.int i0), .val (.int (1 : Int32)), .val (.int ((B i0) &&& (255 : Int32))), .val (.int (2 : Int32)), .val (.int (128 : Int32)), .val (.int (191 : Int32)), .val (.int (1 : Int32)), .val (.int ((B (i0 + (1 : Int32))) &&& (255 : Int32)))] [(.int (1 : Int32))]))
                    refine own_st (fun t k => XS.goto X0.here hx rfl (pc0 := 261) (pc' := 289) rfl (hb hby d1_261) (by decide) (by decide) k) ?_
                    show own_Go p e below G (s₁.setTop (mkF m 289 #[.val (.ref ba), .val (.int (1 : Int32)), .val (.int en), .val (.int i0), .val (.int (1 : Int32)), .val (.int ((B i0) &&& (255 : Int32))), .val (.int (2 : Int32)), .val (.int (128 : Int32)), .val (.int (191 : Int32)), .val (.int (1 : Int32)), .val (.int ((B (i0 + (1 : Int32))) &&& (255 : Int32)))] [(.int (1 : Int32))]))
                    refine own_st (fun t k => XS.istore X0.here hx rfl (hb hby d1_289) rfl (l' := #[.val (.ref ba), .val (.int (1 : Int32)), .val (.int en), .val (.int i0), .val (.int (1 : Int32)), .val (.int ((B i0) &&& (255 : Int32))), .val (.int (2 : Int32)), .val (.int (128 : Int32)), .val (.int (191 : Int32)), .val (.int (1 : Int32)), .val (.int ((B (i0 + (1 : Int32))) &&& (255 : Int32)))]) rfl k) ?_
                    show own_Go p e below G (s₁.setTop (mkF m 291 #[.val (.ref ba), .val (.int (1 : Int32)), .val (.int en), .val (.int i0), .val (.int (1 : Int32)), .val (.int ((B i0) &&& (255 : Int32))), .val (.int (2 : Int32)), .val (.int (128 : Int32)), .val (.int (191 : Int32)), .val (.int (1 : Int32)), .val (.int ((B (i0 + (1 : Int32))) &&& (255 : Int32)))] []))
                    refine own_st (fun t k => XS.iinc X0.here hx rfl (hb hby d1_291) rfl (l' := #[.val (.ref ba), .val (.int (1 : Int32)), .val (.int en), .val (.int i0), .val (.int (1 : Int32)), .val (.int ((B i0) &&& (255 : Int32))), .val (.int (2 : Int32)), .val (.int (128 : Int32)), .val (.int (191 : Int32)), .val (.int (2 : Int32)), .val (.int ((B (i0 + (1 : Int32))) &&& (255 : Int32)))]) rfl k) ?_
                    show own_Go p e below G (s₁.setTop (mkF m 294 #[.val (.ref ba), .val (.int (1 : Int32)), .val (.int en), .val (.int i0), .val (.int (1 : Int32)), .val (.int ((B i0) &&& (255 : Int32))), .val (.int (2 : Int32)), .val (.int (128 : Int32)), .val (.int (191 : Int32)), .val (.int (2 : Int32)), .val (.int ((B (i0 + (1 : Int32))) &&& (255 : Int32)))] []))
                    refine own_st (fun t k => XS.goto X0.here hx rfl (pc0 := 294) (pc' := 216) rfl (hb hby d1_294) (by decide) (by decide) k) ?_
                    show own_Go p e below G (s₁.setTop (mkF m 216 #[.val (.ref ba), .val (.int (1 : Int32)), .val (.int en), .val (.int i0), .val (.int (1 : Int32)), .val (.int ((B i0) &&& (255 : Int32))), .val (.int (2 : Int32)), .val (.int (128 : Int32)), .val (.int (191 : Int32)), .val (.int (2 : Int32)), .val (.int ((B (i0 + (1 : Int32))) &&& (255 : Int32)))] []))
                    refine own_st (fun t k => XS.iload X0.here hx rfl (hb hby d1_216) rfl  k) ?_
                    show own_Go p e below G (s₁.setTop (mkF m 218 #[.val (.ref ba), .val (.int (1 : Int32)), .val (.int en), .val (.int i0), .val (.int (1 : Int32)), .val (.int ((B i0) &&& (255 : Int32))), .val (.int (2 : Int32)), .val (.int (128 : Int32)), .val (.int (191 : Int32)), .val (.int (2 : Int32)), .val (.int ((B (i0 + (1 : Int32))) &&& (255 : Int32)))] [(.int (1 : Int32))]))
                    refine own_st (fun t k => XS.ifNo X0.here hx rfl (hb hby d1_218) rfl ((if0 _ _).trans (feq (by decide)).1) k) ?_
                    show own_Go p e below G (s₁.setTop (mkF m 221 #[.val (.ref ba), .val (.int (1 : Int32)), .val (.int en), .val (.int i0), .val (.int (1 : Int32)), .val (.int ((B i0) &&& (255 : Int32))), .val (.int (2 : Int32)), .val (.int (128 : Int32)), .val (.int (191 : Int32)), .val (.int (2 : Int32)), .val (.int ((B (i0 + (1 : Int32))) &&& (255 : Int32)))] []))
                    refine own_st (fun t k => XS.iload X0.here hx rfl (hb hby d1_221) rfl  k) ?_
                    show own_Go p e below G (s₁.setTop (mkF m 223 #[.val (.ref ba), .val (.int (1 : Int32)), .val (.int en), .val (.int i0), .val (.int (1 : Int32)), .val (.int ((B i0) &&& (255 : Int32))), .val (.int (2 : Int32)), .val (.int (128 : Int32)), .val (.int (191 : Int32)), .val (.int (2 : Int32)), .val (.int ((B (i0 + (1 : Int32))) &&& (255 : Int32)))] [(.int (2 : Int32))]))
                    refine own_st (fun t k => XS.iload X0.here hx rfl (hb hby d1_223) rfl  k) ?_
                    show own_Go p e below G (s₁.setTop (mkF m 225 #[.val (.ref ba), .val (.int (1 : Int32)), .val (.int en), .val (.int i0), .val (.int (1 : Int32)), .val (.int ((B i0) &&& (255 : Int32))), .val (.int (2 : Int32)), .val (.int (128 : Int32)), .val (.int (191 : Int32)), .val (.int (2 : Int32)), .val (.int ((B (i0 + (1 : Int32))) &&& (255 : Int32)))] [(.int (2 : Int32)), (.int (2 : Int32))]))
                    refine own_st (fun t k => XS.icmpYes X0.here hx rfl (pc0 := 225) (pc' := 297) rfl (hb hby d1_225) rfl (flt (by decide)).2.1 (by decide) (by decide) k) ?_
                    show own_Go p e below G (s₁.setTop (mkF m 297 #[.val (.ref ba), .val (.int (1 : Int32)), .val (.int en), .val (.int i0), .val (.int (1 : Int32)), .val (.int ((B i0) &&& (255 : Int32))), .val (.int (2 : Int32)), .val (.int (128 : Int32)), .val (.int (191 : Int32)), .val (.int (2 : Int32)), .val (.int ((B (i0 + (1 : Int32))) &&& (255 : Int32)))] []))
                    refine own_st (fun t k => XS.iloadN X0.here hx rfl (hb hby d1_297) rfl  k) ?_
                    show own_Go p e below G (s₁.setTop (mkF m 298 #[.val (.ref ba), .val (.int (1 : Int32)), .val (.int en), .val (.int i0), .val (.int (1 : Int32)), .val (.int ((B i0) &&& (255 : Int32))), .val (.int (2 : Int32)), .val (.int (128 : Int32)), .val (.int (191 : Int32)), .val (.int (2 : Int32)), .val (.int ((B (i0 + (1 : Int32))) &&& (255 : Int32)))] [(.int i0)]))
                    refine own_st (fun t k => XS.iload X0.here hx rfl (hb hby d1_298) rfl  k) ?_
                    show own_Go p e below G (s₁.setTop (mkF m 300 #[.val (.ref ba), .val (.int (1 : Int32)), .val (.int en), .val (.int i0), .val (.int (1 : Int32)), .val (.int ((B i0) &&& (255 : Int32))), .val (.int (2 : Int32)), .val (.int (128 : Int32)), .val (.int (191 : Int32)), .val (.int (2 : Int32)), .val (.int ((B (i0 + (1 : Int32))) &&& (255 : Int32)))] [(.int (2 : Int32)), (.int i0)]))
                    refine own_st (fun t k => XS.iadd X0.here hx rfl (hb hby d1_300) rfl k) ?_
                    show own_Go p e below G (s₁.setTop (mkF m 301 #[.val (.ref ba), .val (.int (1 : Int32)), .val (.int en), .val (.int i0), .val (.int (1 : Int32)), .val (.int ((B i0) &&& (255 : Int32))), .val (.int (2 : Int32)), .val (.int (128 : Int32)), .val (.int (191 : Int32)), .val (.int (2 : Int32)), .val (.int ((B (i0 + (1 : Int32))) &&& (255 : Int32)))] [(.int (i0 + (2 : Int32)))]))
                    refine own_st (fun t k => XS.istoreN X0.here hx rfl (hb hby d1_301) rfl (l' := #[.val (.ref ba), .val (.int (1 : Int32)), .val (.int en), .val (.int (i0 + (2 : Int32))), .val (.int (1 : Int32)), .val (.int ((B i0) &&& (255 : Int32))), .val (.int (2 : Int32)), .val (.int (128 : Int32)), .val (.int (191 : Int32)), .val (.int (2 : Int32)), .val (.int ((B (i0 + (1 : Int32))) &&& (255 : Int32)))]) rfl k) ?_
                    show own_Go p e below G (s₁.setTop (mkF m 302 #[.val (.ref ba), .val (.int (1 : Int32)), .val (.int en), .val (.int (i0 + (2 : Int32))), .val (.int (1 : Int32)), .val (.int ((B i0) &&& (255 : Int32))), .val (.int (2 : Int32)), .val (.int (128 : Int32)), .val (.int (191 : Int32)), .val (.int (2 : Int32)), .val (.int ((B (i0 + (1 : Int32))) &&& (255 : Int32)))] []))
                    refine own_st (fun t k => XS.goto X0.here hx rfl (pc0 := 302) (pc' := 5) rfl (hb hby d1_302) (by decide) (by decide) k) ?_
                    show own_Go p e below G (s₁.setTop (mkF m 5 #[.val (.ref ba), .val (.int (1 : Int32)), .val (.int en), .val (.int (i0 + (2 : Int32))), .val (.int (1 : Int32)), .val (.int ((B i0) &&& (255 : Int32))), .val (.int (2 : Int32)), .val (.int (128 : Int32)), .val (.int (191 : Int32)), .val (.int (2 : Int32)), .val (.int ((B (i0 + (1 : Int32))) &&& (255 : Int32)))] []))
                    have hn := own_in (len := (2 : Int32)) (j := ((2 : Int32) - 1)) hi0 c12_1 he.2 c203_63 (by decide) (by decide) (by decide)
                    have ha := own_add (i := i0) (j := (2 : Int32)) hi0 (Int.le_of_lt (Int.lt_of_lt_of_le (Int32.lt_iff_toInt_lt.mp c12_1) he.2)) (by decide) (by decide)
                    have hc := own_add (i := i0) (j := ((2 : Int32) - 1)) hi0 (Int.le_of_lt (Int.lt_of_lt_of_le (Int32.lt_iff_toInt_lt.mp c12_1) he.2)) (by decide) (by decide)
                    rw [hc] at hn
                    have z1 : (((2 : Int32) - 1) : Int32).toInt = 1 := by decide
                    have z2 : ((2 : Int32)).toInt = 2 := by decide
                    exact ih (i0 + (2 : Int32)) _ _ _ _ _ _ (One.val rfl) (One.val rfl) (One.val rfl) (One.val rfl) (One.val rfl) (One.val rfl) (by omega) (by omega) (by omega) (heq.trans (own_vrN c12_1 (show own_vl (B i0 &&& 255) (B (i0 + 1) &&& 255) (B (i0 + 2) &&& 255) (B (i0 + 3) &&& 255) (en - i0) = (2 : Int32) by unfold own_vl; rw [if_neg c39_3, if_neg c53_4, if_neg c61_5, if_neg c203_63, if_neg c250_65, if_neg c257_66]) (by decide)))
      · skip
        refine own_st (fun t k => XS.icmpYes X0.here hx rfl (pc0 := 12) (pc' := 305) rfl (hb hby d1_12) rfl (flt c12_1).2.1 (by decide) (by decide) k) ?_
        show own_Go p e below G (s₁.setTop (mkF m 305 #[.val (.ref ba), .val (.int (1 : Int32)), .val (.int en), .val (.int i0), .val (.int (1 : Int32)), s5, s6, s7, s8, s9, s10] []))
        refine own_st (fun t k => XS.iload X0.here hx rfl (hb hby d1_305) rfl  k) ?_
        show own_Go p e below G (s₁.setTop (mkF m 307 #[.val (.ref ba), .val (.int (1 : Int32)), .val (.int en), .val (.int i0), .val (.int (1 : Int32)), s5, s6, s7, s8, s9, s10] [(.int (1 : Int32))]))
        rw [hG]
        exact own_retZ X0 hx hlk (t := .boolean) hret (by simp) (hb hby d1_307) ⟨congrArg (fun z => some (Value.int z)) (show (1 : Int32) = own_vr B en 4 1 from (heq.trans (own_vrE c12_1 _)).symm), rfl, e0⟩ (by decide) (by decide)
  exact loop 4 1 _ _ _ _ _ _ One.u One.u One.u One.u One.u One.u (by decide) (by have := he.1; exact this) (by have z : (1 : Int32).toInt = 1 := rfl; rw [z]; have := he.2; omega) rfl
theorem d2_0 : decode method_4_code 0 = .ok (.aload_n 0, 1) := by decide +kernel
theorem d2_1 : decode method_4_code 1 = .ok (.iload_n 1, 1) := by decide +kernel
theorem d2_2 : decode method_4_code 2 = .ok (.iaload, 1) := by decide +kernel
theorem d2_3 : decode method_4_code 3 = .ok (.istore_n 3, 1) := by decide +kernel
theorem d2_4 : decode method_4_code 4 = .ok (.iload_n 3, 1) := by decide +kernel
theorem d2_5 : decode method_4_code 5 = .ok (.sipush 128, 3) := by decide +kernel
theorem d2_8 : decode method_4_code 8 = .ok (.iand, 1) := by decide +kernel
theorem d2_9 : decode method_4_code 9 = .ok (.ifCond .ne 5, 3) := by decide +kernel
theorem d2_12 : decode method_4_code 12 = .ok (.iconst 1, 1) := by decide +kernel
theorem d2_13 : decode method_4_code 13 = .ok (.ireturn, 1) := by decide +kernel
theorem d2_14 : decode method_4_code 14 = .ok (.iload_n 3, 1) := by decide +kernel
theorem d2_15 : decode method_4_code 15 = .ok (.sipush 224, 3) := by decide +kernel
theorem d2_18 : decode method_4_code 18 = .ok (.iand, 1) := by decide +kernel
theorem d2_19 : decode method_4_code 19 = .ok (.sipush 192, 3) := by decide +kernel
theorem d2_22 : decode method_4_code 22 = .ok (.if_icmp .ne 9, 3) := by decide +kernel
theorem d2_25 : decode method_4_code 25 = .ok (.iconst 2, 1) := by decide +kernel
theorem d2_26 : decode method_4_code 26 = .ok (.istore 4, 2) := by decide +kernel
theorem d2_28 : decode method_4_code 28 = .ok (.goto 39, 3) := by decide +kernel
theorem d2_31 : decode method_4_code 31 = .ok (.iload_n 3, 1) := by decide +kernel
theorem d2_32 : decode method_4_code 32 = .ok (.sipush 240, 3) := by decide +kernel
theorem d2_35 : decode method_4_code 35 = .ok (.iand, 1) := by decide +kernel
theorem d2_36 : decode method_4_code 36 = .ok (.sipush 224, 3) := by decide +kernel
theorem d2_39 : decode method_4_code 39 = .ok (.if_icmp .ne 9, 3) := by decide +kernel
theorem d2_42 : decode method_4_code 42 = .ok (.iconst 3, 1) := by decide +kernel
theorem d2_43 : decode method_4_code 43 = .ok (.istore 4, 2) := by decide +kernel
theorem d2_45 : decode method_4_code 45 = .ok (.goto 22, 3) := by decide +kernel
theorem d2_48 : decode method_4_code 48 = .ok (.iload_n 3, 1) := by decide +kernel
theorem d2_49 : decode method_4_code 49 = .ok (.sipush 248, 3) := by decide +kernel
theorem d2_52 : decode method_4_code 52 = .ok (.iand, 1) := by decide +kernel
theorem d2_53 : decode method_4_code 53 = .ok (.sipush 240, 3) := by decide +kernel
theorem d2_56 : decode method_4_code 56 = .ok (.if_icmp .ne 9, 3) := by decide +kernel
theorem d2_59 : decode method_4_code 59 = .ok (.iconst 4, 1) := by decide +kernel
theorem d2_60 : decode method_4_code 60 = .ok (.istore 4, 2) := by decide +kernel
theorem d2_62 : decode method_4_code 62 = .ok (.goto 5, 3) := by decide +kernel
theorem d2_65 : decode method_4_code 65 = .ok (.iconst 0, 1) := by decide +kernel
theorem d2_66 : decode method_4_code 66 = .ok (.ireturn, 1) := by decide +kernel
theorem d2_67 : decode method_4_code 67 = .ok (.iload_n 2, 1) := by decide +kernel
theorem d2_68 : decode method_4_code 68 = .ok (.iload_n 1, 1) := by decide +kernel
theorem d2_69 : decode method_4_code 69 = .ok (.isub, 1) := by decide +kernel
theorem d2_70 : decode method_4_code 70 = .ok (.iload 4, 2) := by decide +kernel
theorem d2_72 : decode method_4_code 72 = .ok (.if_icmp .ge 5, 3) := by decide +kernel
theorem d2_75 : decode method_4_code 75 = .ok (.iconst 0, 1) := by decide +kernel
theorem d2_76 : decode method_4_code 76 = .ok (.ireturn, 1) := by decide +kernel
theorem d2_77 : decode method_4_code 77 = .ok (.aload_n 0, 1) := by decide +kernel
theorem d2_78 : decode method_4_code 78 = .ok (.iload_n 1, 1) := by decide +kernel
theorem d2_79 : decode method_4_code 79 = .ok (.iconst 1, 1) := by decide +kernel
theorem d2_80 : decode method_4_code 80 = .ok (.iadd, 1) := by decide +kernel
theorem d2_81 : decode method_4_code 81 = .ok (.iaload, 1) := by decide +kernel
theorem d2_82 : decode method_4_code 82 = .ok (.istore 5, 2) := by decide +kernel
theorem d2_84 : decode method_4_code 84 = .ok (.iload 5, 2) := by decide +kernel
theorem d2_86 : decode method_4_code 86 = .ok (.sipush 192, 3) := by decide +kernel
theorem d2_89 : decode method_4_code 89 = .ok (.iand, 1) := by decide +kernel
theorem d2_90 : decode method_4_code 90 = .ok (.sipush 128, 3) := by decide +kernel
theorem d2_93 : decode method_4_code 93 = .ok (.if_icmp .eq 5, 3) := by decide +kernel
theorem d2_96 : decode method_4_code 96 = .ok (.iconst 0, 1) := by decide +kernel
theorem d2_97 : decode method_4_code 97 = .ok (.ireturn, 1) := by decide +kernel
theorem d2_98 : decode method_4_code 98 = .ok (.iload 4, 2) := by decide +kernel
theorem d2_100 : decode method_4_code 100 = .ok (.iconst 2, 1) := by decide +kernel
theorem d2_101 : decode method_4_code 101 = .ok (.if_icmp .ne 32, 3) := by decide +kernel
theorem d2_104 : decode method_4_code 104 = .ok (.iload_n 3, 1) := by decide +kernel
theorem d2_105 : decode method_4_code 105 = .ok (.bipush 31, 2) := by decide +kernel
theorem d2_107 : decode method_4_code 107 = .ok (.iand, 1) := by decide +kernel
theorem d2_108 : decode method_4_code 108 = .ok (.bipush 6, 2) := by decide +kernel
theorem d2_110 : decode method_4_code 110 = .ok (.ishl, 1) := by decide +kernel
theorem d2_111 : decode method_4_code 111 = .ok (.iload 5, 2) := by decide +kernel
theorem d2_113 : decode method_4_code 113 = .ok (.bipush 63, 2) := by decide +kernel
theorem d2_115 : decode method_4_code 115 = .ok (.iand, 1) := by decide +kernel
theorem d2_116 : decode method_4_code 116 = .ok (.ior, 1) := by decide +kernel
theorem d2_117 : decode method_4_code 117 = .ok (.istore 6, 2) := by decide +kernel
theorem d2_119 : decode method_4_code 119 = .ok (.iload 6, 2) := by decide +kernel
theorem d2_121 : decode method_4_code 121 = .ok (.sipush 128, 3) := by decide +kernel
theorem d2_124 : decode method_4_code 124 = .ok (.if_icmp .lt 7, 3) := by decide +kernel
theorem d2_127 : decode method_4_code 127 = .ok (.iconst 2, 1) := by decide +kernel
theorem d2_128 : decode method_4_code 128 = .ok (.goto 4, 3) := by decide +kernel
theorem d2_131 : decode method_4_code 131 = .ok (.iconst 0, 1) := by decide +kernel
theorem d2_132 : decode method_4_code 132 = .ok (.ireturn, 1) := by decide +kernel
theorem d2_133 : decode method_4_code 133 = .ok (.aload_n 0, 1) := by decide +kernel
theorem d2_134 : decode method_4_code 134 = .ok (.iload_n 1, 1) := by decide +kernel
theorem d2_135 : decode method_4_code 135 = .ok (.iconst 2, 1) := by decide +kernel
theorem d2_136 : decode method_4_code 136 = .ok (.iadd, 1) := by decide +kernel
theorem d2_137 : decode method_4_code 137 = .ok (.iaload, 1) := by decide +kernel
theorem d2_138 : decode method_4_code 138 = .ok (.istore 6, 2) := by decide +kernel
theorem d2_140 : decode method_4_code 140 = .ok (.iload 6, 2) := by decide +kernel
theorem d2_142 : decode method_4_code 142 = .ok (.sipush 192, 3) := by decide +kernel
theorem d2_145 : decode method_4_code 145 = .ok (.iand, 1) := by decide +kernel
theorem d2_146 : decode method_4_code 146 = .ok (.sipush 128, 3) := by decide +kernel
theorem d2_149 : decode method_4_code 149 = .ok (.if_icmp .eq 5, 3) := by decide +kernel
theorem d2_152 : decode method_4_code 152 = .ok (.iconst 0, 1) := by decide +kernel
theorem d2_153 : decode method_4_code 153 = .ok (.ireturn, 1) := by decide +kernel
theorem d2_154 : decode method_4_code 154 = .ok (.iload 4, 2) := by decide +kernel
theorem d2_156 : decode method_4_code 156 = .ok (.iconst 3, 1) := by decide +kernel
theorem d2_157 : decode method_4_code 157 = .ok (.if_icmp .ne 55, 3) := by decide +kernel
theorem d2_160 : decode method_4_code 160 = .ok (.iload_n 3, 1) := by decide +kernel
theorem d2_161 : decode method_4_code 161 = .ok (.bipush 15, 2) := by decide +kernel
theorem d2_163 : decode method_4_code 163 = .ok (.iand, 1) := by decide +kernel
theorem d2_164 : decode method_4_code 164 = .ok (.bipush 12, 2) := by decide +kernel
theorem d2_166 : decode method_4_code 166 = .ok (.ishl, 1) := by decide +kernel
theorem d2_167 : decode method_4_code 167 = .ok (.iload 5, 2) := by decide +kernel
theorem d2_169 : decode method_4_code 169 = .ok (.bipush 63, 2) := by decide +kernel
theorem d2_171 : decode method_4_code 171 = .ok (.iand, 1) := by decide +kernel
theorem d2_172 : decode method_4_code 172 = .ok (.bipush 6, 2) := by decide +kernel
theorem d2_174 : decode method_4_code 174 = .ok (.ishl, 1) := by decide +kernel
theorem d2_175 : decode method_4_code 175 = .ok (.ior, 1) := by decide +kernel
theorem d2_176 : decode method_4_code 176 = .ok (.iload 6, 2) := by decide +kernel
theorem d2_178 : decode method_4_code 178 = .ok (.bipush 63, 2) := by decide +kernel
theorem d2_180 : decode method_4_code 180 = .ok (.iand, 1) := by decide +kernel
theorem d2_181 : decode method_4_code 181 = .ok (.ior, 1) := by decide +kernel
theorem d2_182 : decode method_4_code 182 = .ok (.istore 7, 2) := by decide +kernel
theorem d2_184 : decode method_4_code 184 = .ok (.iload 7, 2) := by decide +kernel
theorem d2_186 : decode method_4_code 186 = .ok (.sipush 2048, 3) := by decide +kernel
theorem d2_189 : decode method_4_code 189 = .ok (.if_icmp .lt 21, 3) := by decide +kernel
theorem d2_192 : decode method_4_code 192 = .ok (.iload 7, 2) := by decide +kernel
theorem d2_194 : decode method_4_code 194 = .ok (.ldc 24, 2) := by decide +kernel
theorem d2_196 : decode method_4_code 196 = .ok (.if_icmp .lt 10, 3) := by decide +kernel
theorem d2_199 : decode method_4_code 199 = .ok (.iload 7, 2) := by decide +kernel
theorem d2_201 : decode method_4_code 201 = .ok (.ldc 25, 2) := by decide +kernel
theorem d2_203 : decode method_4_code 203 = .ok (.if_icmp .le 7, 3) := by decide +kernel
theorem d2_206 : decode method_4_code 206 = .ok (.iconst 3, 1) := by decide +kernel
theorem d2_207 : decode method_4_code 207 = .ok (.goto 4, 3) := by decide +kernel
theorem d2_210 : decode method_4_code 210 = .ok (.iconst 0, 1) := by decide +kernel
theorem d2_211 : decode method_4_code 211 = .ok (.ireturn, 1) := by decide +kernel
theorem d2_212 : decode method_4_code 212 = .ok (.aload_n 0, 1) := by decide +kernel
theorem d2_213 : decode method_4_code 213 = .ok (.iload_n 1, 1) := by decide +kernel
theorem d2_214 : decode method_4_code 214 = .ok (.iconst 3, 1) := by decide +kernel
theorem d2_215 : decode method_4_code 215 = .ok (.iadd, 1) := by decide +kernel
theorem d2_216 : decode method_4_code 216 = .ok (.iaload, 1) := by decide +kernel
theorem d2_217 : decode method_4_code 217 = .ok (.istore 7, 2) := by decide +kernel
theorem d2_219 : decode method_4_code 219 = .ok (.iload 7, 2) := by decide +kernel
theorem d2_221 : decode method_4_code 221 = .ok (.sipush 192, 3) := by decide +kernel
theorem d2_224 : decode method_4_code 224 = .ok (.iand, 1) := by decide +kernel
theorem d2_225 : decode method_4_code 225 = .ok (.sipush 128, 3) := by decide +kernel
theorem d2_228 : decode method_4_code 228 = .ok (.if_icmp .eq 5, 3) := by decide +kernel
theorem d2_231 : decode method_4_code 231 = .ok (.iconst 0, 1) := by decide +kernel
theorem d2_232 : decode method_4_code 232 = .ok (.ireturn, 1) := by decide +kernel
theorem d2_233 : decode method_4_code 233 = .ok (.iload_n 3, 1) := by decide +kernel
theorem d2_234 : decode method_4_code 234 = .ok (.bipush 7, 2) := by decide +kernel
theorem d2_236 : decode method_4_code 236 = .ok (.iand, 1) := by decide +kernel
theorem d2_237 : decode method_4_code 237 = .ok (.bipush 18, 2) := by decide +kernel
theorem d2_239 : decode method_4_code 239 = .ok (.ishl, 1) := by decide +kernel
theorem d2_240 : decode method_4_code 240 = .ok (.iload 5, 2) := by decide +kernel
theorem d2_242 : decode method_4_code 242 = .ok (.bipush 63, 2) := by decide +kernel
theorem d2_244 : decode method_4_code 244 = .ok (.iand, 1) := by decide +kernel
theorem d2_245 : decode method_4_code 245 = .ok (.bipush 12, 2) := by decide +kernel
theorem d2_247 : decode method_4_code 247 = .ok (.ishl, 1) := by decide +kernel
theorem d2_248 : decode method_4_code 248 = .ok (.ior, 1) := by decide +kernel
theorem d2_249 : decode method_4_code 249 = .ok (.iload 6, 2) := by decide +kernel
theorem d2_251 : decode method_4_code 251 = .ok (.bipush 63, 2) := by decide +kernel
theorem d2_253 : decode method_4_code 253 = .ok (.iand, 1) := by decide +kernel
theorem d2_254 : decode method_4_code 254 = .ok (.bipush 6, 2) := by decide +kernel
theorem d2_256 : decode method_4_code 256 = .ok (.ishl, 1) := by decide +kernel
theorem d2_257 : decode method_4_code 257 = .ok (.ior, 1) := by decide +kernel
theorem d2_258 : decode method_4_code 258 = .ok (.iload 7, 2) := by decide +kernel
theorem d2_260 : decode method_4_code 260 = .ok (.bipush 63, 2) := by decide +kernel
theorem d2_262 : decode method_4_code 262 = .ok (.iand, 1) := by decide +kernel
theorem d2_263 : decode method_4_code 263 = .ok (.ior, 1) := by decide +kernel
theorem d2_264 : decode method_4_code 264 = .ok (.istore 8, 2) := by decide +kernel
theorem d2_266 : decode method_4_code 266 = .ok (.iload 8, 2) := by decide +kernel
theorem d2_268 : decode method_4_code 268 = .ok (.ldc 26, 2) := by decide +kernel
theorem d2_270 : decode method_4_code 270 = .ok (.if_icmp .lt 14, 3) := by decide +kernel
theorem d2_273 : decode method_4_code 273 = .ok (.iload 8, 2) := by decide +kernel
theorem d2_275 : decode method_4_code 275 = .ok (.ldc 27, 2) := by decide +kernel
theorem d2_277 : decode method_4_code 277 = .ok (.if_icmp .gt 7, 3) := by decide +kernel
theorem d2_280 : decode method_4_code 280 = .ok (.iconst 4, 1) := by decide +kernel
theorem d2_281 : decode method_4_code 281 = .ok (.goto 4, 3) := by decide +kernel
theorem d2_284 : decode method_4_code 284 = .ok (.iconst 0, 1) := by decide +kernel
theorem d2_285 : decode method_4_code 285 = .ok (.ireturn, 1) := by decide +kernel
theorem pn_rm2 : plainFor (⟨"com/example/tidewater_cube/tidewatercube/source/Utf8IsValidPinLaw", "charLen", "([III)I"⟩ : MethodName) = true := by decide +kernel
theorem ef_rm2 (m : MethodId) (x0 : Addr) (x1 : Int32) (x2 : Int32) : entryFrame m #[(.ref x0), (.int x1), (.int x2)] 9 = mkF m 0 #[.val (.ref x0), .val (.int x1), .val (.int x2), .unset, .unset, .unset, .unset, .unset, .unset] [] := by first | (simp [entryFrame, mkF, argsToLocals, Value.category]; done) | rfl
set_option maxRecDepth 65536 in
set_option maxHeartbeats 40000000 in
theorem rm2 (l : Launch) (Z : State) (a0 : Array Value) (hw : ∀ d ∈ tables_1, d.before a0 Z = true) (wa : Addr) (i0 n0 : Int32) (cl0 : Cell) (wf : Int32 → Int32) (h0 : Heap) (hn0 : 0 ≤ n0.toInt ∧ n0.toInt ≤ 4) (Ar0 : Arr Z h0 wa cl0 .int) (S0 : cl0.slots.size = (4 : Int32).toNatClampNeg) (hW : ∀ j : Int32, ¬ j < 0 → j < 4 → cl0.slots[j.toNatClampNeg]? = some (.int (wf j))) (hi0 : 0 ≤ i0.toInt) (hin0 : i0 < n0) :
    own_Met l Z (⟨"com/example/tidewater_cube/tidewatercube/source/Utf8IsValidPinLaw", "charLen", "([III)I"⟩ : MethodName) method_4_code 9 (some .int) [] ({ frames := 0, cells := 0, slots := 0, locals := 0 } : Room) #[(.ref wa), (.int i0), (.int n0)] h0 (fun v h L => v = some (.int (own_cl (wf i0) (wf (i0 + 1)) (wf (i0 + 2)) (wf (i0 + 3)) (n0 - i0))) ∧ L = [] ∧ h = h0) := by
  refine own_body pn_rm2 ?_
  intro p e s m below meth c s₁ hx hby hml hown hnm hret hlk hZ X0 e0 G hG
  replace hml : c.maxLocals = 9 := hml
  replace hown : s.vm.findClass "com/example/tidewater_cube/tidewatercube/source/Utf8IsValidPinLaw" = some m.cls := hown
  rw [ef_rm2]
  show own_Go p e below G (s₁.setTop (mkF m 0 #[.val (.ref wa), .val (.int i0), .val (.int n0), .unset, .unset, .unset, .unset, .unset, .unset] []))
  refine own_st (fun t k => XS.aloadN X0.here hx rfl (hb hby d2_0) rfl rfl  k) ?_
  show own_Go p e below G (s₁.setTop (mkF m 1 #[.val (.ref wa), .val (.int i0), .val (.int n0), .unset, .unset, .unset, .unset, .unset, .unset] [(.ref wa)]))
  refine own_st (fun t k => XS.iloadN X0.here hx rfl (hb hby d2_1) rfl  k) ?_
  show own_Go p e below G (s₁.setTop (mkF m 2 #[.val (.ref wa), .val (.int i0), .val (.int n0), .unset, .unset, .unset, .unset, .unset, .unset] [(.int i0), (.ref wa)]))
  have hb1 := own_bd (n := 4) (⟨hi0, (Int32.lt_iff_toInt_lt.mp hin0)⟩) (Int.le_trans hn0.2 (by decide))
  have hin1 := inb_of S0 hb1
  refine own_st (fun t k => X0.iaload hx (j := i0) (v := (.int (wf i0))) (by rw [e0]; exact Ar0.1) (State.isArrayOf_alike hZ.alike Ar0.2.1) Ar0.2.2 hin1 (hW _ hb1.1 hb1.2) (g := (mkF m 2 #[.val (.ref wa), .val (.int i0), .val (.int n0), .unset, .unset, .unset, .unset, .unset, .unset] [(.int i0), (.ref wa)])) rfl rfl (hb hby d2_2) t k) ?_
  show own_Go p e below G (s₁.setTop (mkF m 3 #[.val (.ref wa), .val (.int i0), .val (.int n0), .unset, .unset, .unset, .unset, .unset, .unset] [(.int (wf i0))]))
  refine own_st (fun t k => XS.istoreN X0.here hx rfl (hb hby d2_3) rfl (l' := #[.val (.ref wa), .val (.int i0), .val (.int n0), .val (.int (wf i0)), .unset, .unset, .unset, .unset, .unset]) rfl k) ?_
  show own_Go p e below G (s₁.setTop (mkF m 4 #[.val (.ref wa), .val (.int i0), .val (.int n0), .val (.int (wf i0)), .unset, .unset, .unset, .unset, .unset] []))
  refine own_st (fun t k => XS.iloadN X0.here hx rfl (hb hby d2_4) rfl  k) ?_
  show own_Go p e below G (s₁.setTop (mkF m 5 #[.val (.ref wa), .val (.int i0), .val (.int n0), .val (.int (wf i0)), .unset, .unset, .unset, .unset, .unset] [(.int (wf i0))]))
  refine own_st (fun t k => XS.sipush X0.here hx rfl (hb hby d2_5) k) ?_
  show own_Go p e below G (s₁.setTop (mkF m 8 #[.val (.ref wa), .val (.int i0), .val (.int n0), .val (.int (wf i0)), .unset, .unset, .unset, .unset, .unset] [(.int (128 : Int32)), (.int (wf i0))]))
  refine own_st (fun t k => XS.iand X0.here hx rfl (hb hby d2_8) rfl k) ?_
  show own_Go p e below G (s₁.setTop (mkF m 9 #[.val (.ref wa), .val (.int i0), .val (.int n0), .val (.int (wf i0)), .unset, .unset, .unset, .unset, .unset] [(.int ((wf i0) &&& (128 : Int32)))]))
  by_cases c9_2 : ((wf i0) &&& (128 : Int32)) = (0 : Int32)
  · skip
    refine own_st (fun t k => XS.ifNo X0.here hx rfl (hb hby d2_9) rfl ((if0 _ _).trans (teq c9_2).2) k) ?_
    show own_Go p e below G (s₁.setTop (mkF m 12 #[.val (.ref wa), .val (.int i0), .val (.int n0), .val (.int (wf i0)), .unset, .unset, .unset, .unset, .unset] []))
    refine own_st (fun t k => XS.iconst X0.here hx rfl (hb hby d2_12) k) ?_
    show own_Go p e below G (s₁.setTop (mkF m 13 #[.val (.ref wa), .val (.int i0), .val (.int n0), .val (.int (wf i0)), .unset, .unset, .unset, .unset, .unset] [(.int (1 : Int32))]))
    rw [hG]
    exact own_retI X0 hx hlk hret (hb hby d2_13) ⟨congrArg (fun z => some (Value.int z)) (show (1 : Int32) = own_cl (wf i0) (wf (i0 + 1)) (wf (i0 + 2)) (wf (i0 + 3)) (n0 - i0) by unfold own_cl; rw [if_pos c9_2]), rfl, e0⟩ (by decide) (by decide)
  · skip
    refine own_st (fun t k => XS.ifYes X0.here hx rfl (pc0 := 9) (pc' := 14) rfl (hb hby d2_9) rfl ((if0 _ _).trans (feq c9_2).2) (by decide) (by decide) k) ?_
    show own_Go p e below G (s₁.setTop (mkF m 14 #[.val (.ref wa), .val (.int i0), .val (.int n0), .val (.int (wf i0)), .unset, .unset, .unset, .unset, .unset] []))
    refine own_st (fun t k => XS.iloadN X0.here hx rfl (hb hby d2_14) rfl  k) ?_
    show own_Go p e below G (s₁.setTop (mkF m 15 #[.val (.ref wa), .val (.int i0), .val (.int n0), .val (.int (wf i0)), .unset, .unset, .unset, .unset, .unset] [(.int (wf i0))]))
    refine own_st (fun t k => XS.sipush X0.here hx rfl (hb hby d2_15) k) ?_
    show own_Go p e below G (s₁.setTop (mkF m 18 #[.val (.ref wa), .val (.int i0), .val (.int n0), .val (.int (wf i0)), .unset, .unset, .unset, .unset, .unset] [(.int (224 : Int32)), (.int (wf i0))]))
    refine own_st (fun t k => XS.iand X0.here hx rfl (hb hby d2_18) rfl k) ?_
    show own_Go p e below G (s₁.setTop (mkF m 19 #[.val (.ref wa), .val (.int i0), .val (.int n0), .val (.int (wf i0)), .unset, .unset, .unset, .unset, .unset] [(.int ((wf i0) &&& (224 : Int32)))]))
    refine own_st (fun t k => XS.sipush X0.here hx rfl (hb hby d2_19) k) ?_
    show own_Go p e below G (s₁.setTop (mkF m 22 #[.val (.ref wa), .val (.int i0), .val (.int n0), .val (.int (wf i0)), .unset, .unset, .unset, .unset, .unset] [(.int (192 : Int32)), (.int ((wf i0) &&& (224 : Int32)))]))
    by_cases c22_3 : ((wf i0) &&& (224 : Int32)) = (192 : Int32)
    · skip
      refine own_st (fun t k => XS.icmpNo X0.here hx rfl (hb hby d2_22) rfl (teq c22_3).2 k) ?_
      show own_Go p e below G (s₁.setTop (mkF m 25 #[.val (.ref wa), .val (.int i0), .val (.int n0), .val (.int (wf i0)), .unset, .unset, .unset, .unset, .unset] []))
      refine own_st (fun t k => XS.iconst X0.here hx rfl (hb hby d2_25) k) ?_
      show own_Go p e below G (s₁.setTop (mkF m 26 #[.val (.ref wa), .val (.int i0), .val (.int n0), .val (.int (wf i0)), .unset, .unset, .unset, .unset, .unset] [(.int (2 : Int32))]))
      refine own_st (fun t k => XS.istore X0.here hx rfl (hb hby d2_26) rfl (l' := #[.val (.ref wa), .val (.int i0), .val (.int n0), .val (.int (wf i0)), .val (.int (2 : Int32)), .unset, .unset, .unset, .unset]) rfl k) ?_
      show own_Go p e below G (s₁.setTop (mkF m 28 #[.val (.ref wa), .val (.int i0), .val (.int n0), .val (.int (wf i0)), .val (.int (2 : Int32)), .unset, .unset, .unset, .unset] []))
      refine own_st (fun t k => XS.goto X0.here hx rfl (pc0 := 28) (pc' := 67) rfl (hb hby d2_28) (by decide) (by decide) k) ?_
      show own_Go p e below G (s₁.setTop (mkF m 67 #[.val (.ref wa), .val (.int i0), .val (.int n0), .val (.int (wf i0)), .val (.int (2 : Int32)), .unset, .unset, .unset, .unset] []))
      refine own_st (fun t k => XS.iloadN X0.here hx rfl (hb hby d2_67) rfl  k) ?_
      show own_Go p e below G (s₁.setTop (mkF m 68 #[.val (.ref wa), .val (.int i0), .val (.int n0), .val (.int (wf i0)), .val (.int (2 : Int32)), .unset, .unset, .unset, .unset] [(.int n0)]))
      refine own_st (fun t k => XS.iloadN X0.here hx rfl (hb hby d2_68) rfl  k) ?_
      show own_Go p e below G (s₁.setTop (mkF m 69 #[.val (.ref wa), .val (.int i0), .val (.int n0), .val (.int (wf i0)), .val (.int (2 : Int32)), .unset, .unset, .unset, .unset] [(.int i0), (.int n0)]))
      refine own_st (fun t k => XS.isub X0.here hx rfl (hb hby d2_69) rfl k) ?_
      show own_Go p e below G (s₁.setTop (mkF m 70 #[.val (.ref wa), .val (.int i0), .val (.int n0), .val (.int (wf i0)), .val (.int (2 : Int32)), .unset, .unset, .unset, .unset] [(.int (n0 - i0))]))
      refine own_st (fun t k => XS.iload X0.here hx rfl (hb hby d2_70) rfl  k) ?_
      show own_Go p e below G (s₁.setTop (mkF m 72 #[.val (.ref wa), .val (.int i0), .val (.int n0), .val (.int (wf i0)), .val (.int (2 : Int32)), .unset, .unset, .unset, .unset] [(.int (2 : Int32)), (.int (n0 - i0))]))
      by_cases c72_4 : (n0 - i0) < (2 : Int32)
      · skip
        refine own_st (fun t k => XS.icmpNo X0.here hx rfl (hb hby d2_72) rfl (tlt c72_4).2.1 k) ?_
        show own_Go p e below G (s₁.setTop (mkF m 75 #[.val (.ref wa), .val (.int i0), .val (.int n0), .val (.int (wf i0)), .val (.int (2 : Int32)), .unset, .unset, .unset, .unset] []))
        refine own_st (fun t k => XS.iconst X0.here hx rfl (hb hby d2_75) k) ?_
        show own_Go p e below G (s₁.setTop (mkF m 76 #[.val (.ref wa), .val (.int i0), .val (.int n0), .val (.int (wf i0)), .val (.int (2 : Int32)), .unset, .unset, .unset, .unset] [(.int (0 : Int32))]))
        rw [hG]
        exact own_retI X0 hx hlk hret (hb hby d2_76) ⟨congrArg (fun z => some (Value.int z)) (show (0 : Int32) = own_cl (wf i0) (wf (i0 + 1)) (wf (i0 + 2)) (wf (i0 + 3)) (n0 - i0) by unfold own_cl; rw [if_neg c9_2, if_pos c22_3, if_pos c72_4]), rfl, e0⟩ (by decide) (by decide)
      · skip
        refine own_st (fun t k => XS.icmpYes X0.here hx rfl (pc0 := 72) (pc' := 77) rfl (hb hby d2_72) rfl (flt c72_4).2.1 (by decide) (by decide) k) ?_
        show own_Go p e below G (s₁.setTop (mkF m 77 #[.val (.ref wa), .val (.int i0), .val (.int n0), .val (.int (wf i0)), .val (.int (2 : Int32)), .unset, .unset, .unset, .unset] []))
        refine own_st (fun t k => XS.aloadN X0.here hx rfl (hb hby d2_77) rfl rfl  k) ?_
        show own_Go p e below G (s₁.setTop (mkF m 78 #[.val (.ref wa), .val (.int i0), .val (.int n0), .val (.int (wf i0)), .val (.int (2 : Int32)), .unset, .unset, .unset, .unset] [(.ref wa)]))
        refine own_st (fun t k => XS.iloadN X0.here hx rfl (hb hby d2_78) rfl  k) ?_
        show own_Go p e below G (s₁.setTop (mkF m 79 #[.val (.ref wa), .val (.int i0), .val (.int n0), .val (.int (wf i0)), .val (.int (2 : Int32)), .unset, .unset, .unset, .unset] [(.int i0), (.ref wa)]))
        refine own_st (fun t k => XS.iconst X0.here hx rfl (hb hby d2_79) k) ?_
        show own_Go p e below G (s₁.setTop (mkF m 80 #[.val (.ref wa), .val (.int i0), .val (.int n0), .val (.int (wf i0)), .val (.int (2 : Int32)), .unset, .unset, .unset, .unset] [(.int (1 : Int32)), (.int i0), (.ref wa)]))
        refine own_st (fun t k => XS.iadd X0.here hx rfl (hb hby d2_80) rfl k) ?_
        show own_Go p e below G (s₁.setTop (mkF m 81 #[.val (.ref wa), .val (.int i0), .val (.int n0), .val (.int (wf i0)), .val (.int (2 : Int32)), .unset, .unset, .unset, .unset] [(.int (i0 + (1 : Int32))), (.ref wa)]))
        have hb5 := own_bd (n := 4) (own_in hi0 hin0 (Int.le_trans hn0.2 (by decide)) c72_4 (j := (1 : Int32)) (by decide) (by decide) (by decide)) (Int.le_trans hn0.2 (by decide))
        have hin5 := inb_of S0 hb5
        refine own_st (fun t k => X0.iaload hx (j := (i0 + (1 : Int32))) (v := (.int (wf (i0 + (1 : Int32))))) (by rw [e0]; exact Ar0.1) (State.isArrayOf_alike hZ.alike Ar0.2.1) Ar0.2.2 hin5 (hW _ hb5.1 hb5.2) (g := (mkF m 81 #[.val (.ref wa), .val (.int i0), .val (.int n0), .val (.int (wf i0)), .val (.int (2 : Int32)), .unset, .unset, .unset, .unset] [(.int (i0 + (1 : Int32))), (.ref wa)])) rfl rfl (hb hby d2_81) t k) ?_
        show own_Go p e below G (s₁.setTop (mkF m 82 #[.val (.ref wa), .val (.int i0), .val (.int n0), .val (.int (wf i0)), .val (.int (2 : Int32)), .unset, .unset, .unset, .unset] [(.int (wf (i0 + (1 : Int32))))]))
        refine own_st (fun t k => XS.istore X0.here hx rfl (hb hby d2_82) rfl (l' := #[.val (.ref wa), .val (.int i0), .val (.int n0), .val (.int (wf i0)), .val (.int (2 : Int32)), .val (.int (wf (i0 + (1 : Int32)))), .unset, .unset, .unset]) rfl k) ?_
        show own_Go p e below G (s₁.setTop (mkF m 84 #[.val (.ref wa), .val (.int i0), .val (.int n0), .val (.int (wf i0)), .val (.int (2 : Int32)), .val (.int (wf (i0 + (1 : Int32)))), .unset, .unset, .unset] []))
        refine own_st (fun t k => XS.iload X0.here hx rfl (hb hby d2_84) rfl  k) ?_
        show own_Go p e below G (s₁.setTop (mkF m 86 #[.val (.ref wa), .val (.int i0), .val (.int n0), .val (.int (wf i0)), .val (.int (2 : Int32)), .val (.int (wf (i0 + (1 : Int32)))), .unset, .unset, .unset] [(.int (wf (i0 + (1 : Int32))))]))
        refine own_st (fun t k => XS.sipush X0.here hx rfl (hb hby d2_86) k) ?_
        show own_Go p e below G (s₁.setTop (mkF m 89 #[.val (.ref wa), .val (.int i0), .val (.int n0), .val (.int (wf i0)), .val (.int (2 : Int32)), .val (.int (wf (i0 + (1 : Int32)))), .unset, .unset, .unset] [(.int (192 : Int32)), (.int (wf (i0 + (1 : Int32))))]))
        refine own_st (fun t k => XS.iand X0.here hx rfl (hb hby d2_89) rfl k) ?_
        show own_Go p e below G (s₁.setTop (mkF m 90 #[.val (.ref wa), .val (.int i0), .val (.int n0), .val (.int (wf i0)), .val (.int (2 : Int32)), .val (.int (wf (i0 + (1 : Int32)))), .unset, .unset, .unset] [(.int ((wf (i0 + (1 : Int32))) &&& (192 : Int32)))]))
        refine own_st (fun t k => XS.sipush X0.here hx rfl (hb hby d2_90) k) ?_
        show own_Go p e below G (s₁.setTop (mkF m 93 #[.val (.ref wa), .val (.int i0), .val (.int n0), .val (.int (wf i0)), .val (.int (2 : Int32)), .val (.int (wf (i0 + (1 : Int32)))), .unset, .unset, .unset] [(.int (128 : Int32)), (.int ((wf (i0 + (1 : Int32))) &&& (192 : Int32)))]))
        by_cases c93_6 : ((wf (i0 + (1 : Int32))) &&& (192 : Int32)) = (128 : Int32)
        · skip
          refine own_st (fun t k => XS.icmpYes X0.here hx rfl (pc0 := 93) (pc' := 98) rfl (hb hby d2_93) rfl (teq c93_6).1 (by decide) (by decide) k) ?_
          show own_Go p e below G (s₁.setTop (mkF m 98 #[.val (.ref wa), .val (.int i0), .val (.int n0), .val (.int (wf i0)), .val (.int (2 : Int32)), .val (.int (wf (i0 + (1 : Int32)))), .unset, .unset, .unset] []))
          refine own_st (fun t k => XS.iload X0.here hx rfl (hb hby d2_98) rfl  k) ?_
          show own_Go p e below G (s₁.setTop (mkF m 100 #[.val (.ref wa), .val (.int i0), .val (.int n0), .val (.int (wf i0)), .val (.int (2 : Int32)), .val (.int (wf (i0 + (1 : Int32)))), .unset, .unset, .unset] [(.int (2 : Int32))]))
          refine own_st (fun t k => XS.iconst X0.here hx rfl (hb hby d2_100) k) ?_
          show own_Go p e below G (s₁.setTop (mkF m 101 #[.val (.ref wa), .val (.int i0), .val (.int n0), .val (.int (wf i0)), .val (.int (2 : Int32)), .val (.int (wf (i0 + (1 : Int32)))), .unset, .unset, .unset] [(.int (2 : Int32)), (.int (2 : Int32))]))
          refine own_st (fun t k => XS.icmpNo X0.here hx rfl (hb hby d2_101) rfl (teq (by decide)).2 k) ?_
          show own_Go p e below G (s₁.setTop (mkF m 104 #[.val (.ref wa), .val (.int i0), .val (.int n0), .val (.int (wf i0)), .val (.int (2 : Int32)), .val (.int (wf (i0 + (1 : Int32)))), .unset, .unset, .unset] []))
          refine own_st (fun t k => XS.iloadN X0.here hx rfl (hb hby d2_104) rfl  k) ?_
          show own_Go p e below G (s₁.setTop (mkF m 105 #[.val (.ref wa), .val (.int i0), .val (.int n0), .val (.int (wf i0)), .val (.int (2 : Int32)), .val (.int (wf (i0 + (1 : Int32)))), .unset, .unset, .unset] [(.int (wf i0))]))
          refine own_st (fun t k => XS.bipush X0.here hx rfl (hb hby d2_105) k) ?_
          show own_Go p e below G (s₁.setTop (mkF m 107 #[.val (.ref wa), .val (.int i0), .val (.int n0), .val (.int (wf i0)), .val (.int (2 : Int32)), .val (.int (wf (i0 + (1 : Int32)))), .unset, .unset, .unset] [(.int (31 : Int32)), (.int (wf i0))]))
          refine own_st (fun t k => XS.iand X0.here hx rfl (hb hby d2_107) rfl k) ?_
          show own_Go p e below G (s₁.setTop (mkF m 108 #[.val (.ref wa), .val (.int i0), .val (.int n0), .val (.int (wf i0)), .val (.int (2 : Int32)), .val (.int (wf (i0 + (1 : Int32)))), .unset, .unset, .unset] [(.int ((wf i0) &&& (31 : Int32)))]))
          refine own_st (fun t k => XS.bipush X0.here hx rfl (hb hby d2_108) k) ?_
          show own_Go p e below G (s₁.setTop (mkF m 110 #[.val (.ref wa), .val (.int i0), .val (.int n0), .val (.int (wf i0)), .val (.int (2 : Int32)), .val (.int (wf (i0 + (1 : Int32)))), .unset, .unset, .unset] [(.int (6 : Int32)), (.int ((wf i0) &&& (31 : Int32)))]))
          refine own_st (fun t k => XS.ishl X0.here hx rfl (hb hby d2_110) rfl k) ?_
          show own_Go p e below G (s₁.setTop (mkF m 111 #[.val (.ref wa), .val (.int i0), .val (.int n0), .val (.int (wf i0)), .val (.int (2 : Int32)), .val (.int (wf (i0 + (1 : Int32)))), .unset, .unset, .unset] [(.int (((wf i0) &&& (31 : Int32)) <<< ((6 : Int32) &&& 31)))]))
          refine own_st (fun t k => XS.iload X0.here hx rfl (hb hby d2_111) rfl  k) ?_
          show own_Go p e below G (s₁.setTop (mkF m 113 #[.val (.ref wa), .val (.int i0), .val (.int n0), .val (.int (wf i0)), .val (.int (2 : Int32)), .val (.int (wf (i0 + (1 : Int32)))), .unset, .unset, .unset] [(.int (wf (i0 + (1 : Int32)))), (.int (((wf i0) &&& (31 : Int32)) <<< ((6 : Int32) &&& 31)))]))
          refine own_st (fun t k => XS.bipush X0.here hx rfl (hb hby d2_113) k) ?_
          show own_Go p e below G (s₁.setTop (mkF m 115 #[.val (.ref wa), .val (.int i0), .val (.int n0), .val (.int (wf i0)), .val (.int (2 : Int32)), .val (.int (wf (i0 + (1 : Int32)))), .unset, .unset, .unset] [(.int (63 : Int32)), (.int (wf (i0 + (1 : Int32)))), (.int (((wf i0) &&& (31 : Int32)) <<< ((6 : Int32) &&& 31)))]))
          refine own_st (fun t k => XS.iand X0.here hx rfl (hb hby d2_115) rfl k) ?_
          show own_Go p e below G (s₁.setTop (mkF m 116 #[.val (.ref wa), .val (.int i0), .val (.int n0), .val (.int (wf i0)), .val (.int (2 : Int32)), .val (.int (wf (i0 + (1 : Int32)))), .unset, .unset, .unset] [(.int ((wf (i0 + (1 : Int32))) &&& (63 : Int32))), (.int (((wf i0) &&& (31 : Int32)) <<< ((6 : Int32) &&& 31)))]))
          refine own_st (fun t k => XS.ior X0.here hx rfl (hb hby d2_116) rfl k) ?_
          show own_Go p e below G (s₁.setTop (mkF m 117 #[.val (.ref wa), .val (.int i0), .val (.int n0), .val (.int (wf i0)), .val (.int (2 : Int32)), .val (.int (wf (i0 + (1 : Int32)))), .unset, .unset, .unset] [(.int ((((wf i0) &&& (31 : Int32)) <<< ((6 : Int32) &&& 31)) ||| ((wf (i0 + (1 : Int32))) &&& (63 : Int32))))]))
          refine own_st (fun t k => XS.istore X0.here hx rfl (hb hby d2_117) rfl (l' := #[.val (.ref wa), .val (.int i0), .val (.int n0), .val (.int (wf i0)), .val (.int (2 : Int32)), .val (.int (wf (i0 + (1 : Int32)))), .val (.int ((((wf i0) &&& (31 : Int32)) <<< ((6 : Int32) &&& 31)) ||| ((wf (i0 + (1 : Int32))) &&& (63 : Int32)))), .unset, .unset]) rfl k) ?_
          show own_Go p e below G (s₁.setTop (mkF m 119 #[.val (.ref wa), .val (.int i0), .val (.int n0), .val (.int (wf i0)), .val (.int (2 : Int32)), .val (.int (wf (i0 + (1 : Int32)))), .val (.int ((((wf i0) &&& (31 : Int32)) <<< ((6 : Int32) &&& 31)) ||| ((wf (i0 + (1 : Int32))) &&& (63 : Int32)))), .unset, .unset] []))
          refine own_st (fun t k => XS.iload X0.here hx rfl (hb hby d2_119) rfl  k) ?_
          show own_Go p e below G (s₁.setTop (mkF m 121 #[.val (.ref wa), .val (.int i0), .val (.int n0), .val (.int (wf i0)), .val (.int (2 : Int32)), .val (.int (wf (i0 + (1 : Int32)))), .val (.int ((((wf i0) &&& (31 : Int32)) <<< ((6 : Int32) &&& 31)) ||| ((wf (i0 + (1 : Int32))) &&& (63 : Int32)))), .unset, .unset] [(.int ((((wf i0) &&& (31 : Int32)) <<< ((6 : Int32) &&& 31)) ||| ((wf (i0 + (1 : Int32))) &&& (63 : Int32))))]))
          refine own_st (fun t k => XS.sipush X0.here hx rfl (hb hby d2_121) k) ?_
          show own_Go p e below G (s₁.setTop (mkF m 124 #[.val (.ref wa), .val (.int i0), .val (.int n0), .val (.int (wf i0)), .val (.int (2 : Int32)), .val (.int (wf (i0 + (1 : Int32)))), .val (.int ((((wf i0) &&& (31 : Int32)) <<< ((6 : Int32) &&& 31)) ||| ((wf (i0 + (1 : Int32))) &&& (63 : Int32)))), .unset, .unset] [(.int (128 : Int32)), (.int ((((wf i0) &&& (31 : Int32)) <<< ((6 : Int32) &&& 31)) ||| ((wf (i0 + (1 : Int32))) &&& (63 : Int32))))]))
          by_cases c124_7 : ((((wf i0) &&& (31 : Int32)) <<< ((6 : Int32) &&& 31)) ||| ((wf (i0 + (1 : Int32))) &&& (63 : Int32))) < (128 : Int32)
          · skip
            refine own_st (fun t k => XS.icmpYes X0.here hx rfl (pc0 := 124) (pc' := 131) rfl (hb hby d2_124) rfl (tlt c124_7).1 (by decide) (by decide) k) ?_
            show own_Go p e below G (s₁.setTop (mkF m 131 #[.val (.ref wa), .val (.int i0), .val (.int n0), .val (.int (wf i0)), .val (.int (2 : Int32)), .val (.int (wf (i0 + (1 : Int32)))), .val (.int ((((wf i0) &&& (31 : Int32)) <<< ((6 : Int32) &&& 31)) ||| ((wf (i0 + (1 : Int32))) &&& (63 : Int32)))), .unset, .unset] []))
            refine own_st (fun t k => XS.iconst X0.here hx rfl (hb hby d2_131) k) ?_
            show own_Go p e below G (s₁.setTop (mkF m 132 #[.val (.ref wa), .val (.int i0), .val (.int n0), .val (.int (wf i0)), .val (.int (2 : Int32)), .val (.int (wf (i0 + (1 : Int32)))), .val (.int ((((wf i0) &&& (31 : Int32)) <<< ((6 : Int32) &&& 31)) ||| ((wf (i0 + (1 : Int32))) &&& (63 : Int32)))), .unset, .unset] [(.int (0 : Int32))]))
            rw [hG]
            exact own_retI X0 hx hlk hret (hb hby d2_132) ⟨congrArg (fun z => some (Value.int z)) (show (0 : Int32) = own_cl (wf i0) (wf (i0 + 1)) (wf (i0 + 2)) (wf (i0 + 3)) (n0 - i0) by unfold own_cl; rw [if_neg c9_2, if_pos c22_3, if_neg c72_4, if_pos c93_6, if_pos c124_7]), rfl, e0⟩ (by decide) (by decide)
          · skip
            refine own_st (fun t k => XS.icmpNo X0.here hx rfl (hb hby d2_124) rfl (flt c124_7).1 k) ?_
            show own_Go p e below G (s₁.setTop (mkF m 127 #[.val (.ref wa), .val (.int i0), .val (.int n0), .val (.int (wf i0)), .val (.int (2 : Int32)), .val (.int (wf (i0 + (1 : Int32)))), .val (.int ((((wf i0) &&& (31 : Int32)) <<< ((6 : Int32) &&& 31)) ||| ((wf (i0 + (1 : Int32))) &&& (63 : Int32)))), .unset, .unset] []))
            refine own_st (fun t k => XS.iconst X0.here hx rfl (hb hby d2_127) k) ?_
            show own_Go p e below G (s₁.setTop (mkF m 128 #[.val (.ref wa), .val (.int i0), .val (.int n0), .val (.int (wf i0)), .val (.int (2 : Int32)), .val (.int (wf (i0 + (1 : Int32)))), .val (.int ((((wf i0) &&& (31 : Int32)) <<< ((6 : Int32) &&& 31)) ||| ((wf (i0 + (1 : Int32))) &&& (63 : Int32)))), .unset, .unset] [(.int (2 : Int32))]))
            refine own_st (fun t k => XS.goto X0.here hx rfl (pc0 := 128) (pc' := 132) rfl (hb hby d2_128) (by decide) (by decide) k) ?_
            show own_Go p e below G (s₁.setTop (mkF m 132 #[.val (.ref wa), .val (.int i0), .val (.int n0), .val (.int (wf i0)), .val (.int (2 : Int32)), .val (.int (wf (i0 + (1 : Int32)))), .val (.int ((((wf i0) &&& (31 : Int32)) <<< ((6 : Int32) &&& 31)) ||| ((wf (i0 + (1 : Int32))) &&& (63 : Int32)))), .unset, .unset] [(.int (2 : Int32))]))
            rw [hG]
            exact own_retI X0 hx hlk hret (hb hby d2_132) ⟨congrArg (fun z => some (Value.int z)) (show (2 : Int32) = own_cl (wf i0) (wf (i0 + 1)) (wf (i0 + 2)) (wf (i0 + 3)) (n0 - i0) by unfold own_cl; rw [if_neg c9_2, if_pos c22_3, if_neg c72_4, if_pos c93_6, if_neg c124_7]), rfl, e0⟩ (by decide) (by decide)
        · skip
          refine own_st (fun t k => XS.icmpNo X0.here hx rfl (hb hby d2_93) rfl (feq c93_6).1 k) ?_
          show own_Go p e below G (s₁.setTop (mkF m 96 #[.val (.ref wa), .val (.int i0), .val (.int n0), .val (.int (wf i0)), .val (.int (2 : Int32)), .val (.int (wf (i0 + (1 : Int32)))), .unset, .unset, .unset] []))
          refine own_st (fun t k => XS.iconst X0.here hx rfl (hb hby d2_96) k) ?_
          show own_Go p e below G (s₁.setTop (mkF m 97 #[.val (.ref wa), .val (.int i0), .val (.int n0), .val (.int (wf i0)), .val (.int (2 : Int32)), .val (.int (wf (i0 + (1 : Int32)))), .unset, .unset, .unset] [(.int (0 : Int32))]))
          rw [hG]
          exact own_retI X0 hx hlk hret (hb hby d2_97) ⟨congrArg (fun z => some (Value.int z)) (show (0 : Int32) = own_cl (wf i0) (wf (i0 + 1)) (wf (i0 + 2)) (wf (i0 + 3)) (n0 - i0) by unfold own_cl; rw [if_neg c9_2, if_pos c22_3, if_neg c72_4, if_neg c93_6]), rfl, e0⟩ (by decide) (by decide)
    · skip
      refine own_st (fun t k => XS.icmpYes X0.here hx rfl (pc0 := 22) (pc' := 31) rfl (hb hby d2_22) rfl (feq c22_3).2 (by decide) (by decide) k) ?_
      show own_Go p e below G (s₁.setTop (mkF m 31 #[.val (.ref wa), .val (.int i0), .val (.int n0), .val (.int (wf i0)), .unset, .unset, .unset, .unset, .unset] []))
      refine own_st (fun t k => XS.iloadN X0.here hx rfl (hb hby d2_31) rfl  k) ?_
      show own_Go p e below G (s₁.setTop (mkF m 32 #[.val (.ref wa), .val (.int i0), .val (.int n0), .val (.int (wf i0)), .unset, .unset, .unset, .unset, .unset] [(.int (wf i0))]))
      refine own_st (fun t k => XS.sipush X0.here hx rfl (hb hby d2_32) k) ?_
      show own_Go p e below G (s₁.setTop (mkF m 35 #[.val (.ref wa), .val (.int i0), .val (.int n0), .val (.int (wf i0)), .unset, .unset, .unset, .unset, .unset] [(.int (240 : Int32)), (.int (wf i0))]))
      refine own_st (fun t k => XS.iand X0.here hx rfl (hb hby d2_35) rfl k) ?_
      show own_Go p e below G (s₁.setTop (mkF m 36 #[.val (.ref wa), .val (.int i0), .val (.int n0), .val (.int (wf i0)), .unset, .unset, .unset, .unset, .unset] [(.int ((wf i0) &&& (240 : Int32)))]))
      refine own_st (fun t k => XS.sipush X0.here hx rfl (hb hby d2_36) k) ?_
      show own_Go p e below G (s₁.setTop (mkF m 39 #[.val (.ref wa), .val (.int i0), .val (.int n0), .val (.int (wf i0)), .unset, .unset, .unset, .unset, .unset] [(.int (224 : Int32)), (.int ((wf i0) &&& (240 : Int32)))]))
      by_cases c39_8 : ((wf i0) &&& (240 : Int32)) = (224 : Int32)
      · skip
        refine own_st (fun t k => XS.icmpNo X0.here hx rfl (hb hby d2_39) rfl (teq c39_8).2 k) ?_
        show own_Go p e below G (s₁.setTop (mkF m 42 #[.val (.ref wa), .val (.int i0), .val (.int n0), .val (.int (wf i0)), .unset, .unset, .unset, .unset, .unset] []))
        refine own_st (fun t k => XS.iconst X0.here hx rfl (hb hby d2_42) k) ?_
        show own_Go p e below G (s₁.setTop (mkF m 43 #[.val (.ref wa), .val (.int i0), .val (.int n0), .val (.int (wf i0)), .unset, .unset, .unset, .unset, .unset] [(.int (3 : Int32))]))
        refine own_st (fun t k => XS.istore X0.here hx rfl (hb hby d2_43) rfl (l' := #[.val (.ref wa), .val (.int i0), .val (.int n0), .val (.int (wf i0)), .val (.int (3 : Int32)), .unset, .unset, .unset, .unset]) rfl k) ?_
        show own_Go p e below G (s₁.setTop (mkF m 45 #[.val (.ref wa), .val (.int i0), .val (.int n0), .val (.int (wf i0)), .val (.int (3 : Int32)), .unset, .unset, .unset, .unset] []))
        refine own_st (fun t k => XS.goto X0.here hx rfl (pc0 := 45) (pc' := 67) rfl (hb hby d2_45) (by decide) (by decide) k) ?_
        show own_Go p e below G (s₁.setTop (mkF m 67 #[.val (.ref wa), .val (.int i0), .val (.int n0), .val (.int (wf i0)), .val (.int (3 : Int32)), .unset, .unset, .unset, .unset] []))
        refine own_st (fun t k => XS.iloadN X0.here hx rfl (hb hby d2_67) rfl  k) ?_
        show own_Go p e below G (s₁.setTop (mkF m 68 #[.val (.ref wa), .val (.int i0), .val (.int n0), .val (.int (wf i0)), .val (.int (3 : Int32)), .unset, .unset, .unset, .unset] [(.int n0)]))
        refine own_st (fun t k => XS.iloadN X0.here hx rfl (hb hby d2_68) rfl  k) ?_
        show own_Go p e below G (s₁.setTop (mkF m 69 #[.val (.ref wa), .val (.int i0), .val (.int n0), .val (.int (wf i0)), .val (.int (3 : Int32)), .unset, .unset, .unset, .unset] [(.int i0), (.int n0)]))
        refine own_st (fun t k => XS.isub X0.here hx rfl (hb hby d2_69) rfl k) ?_
        show own_Go p e below G (s₁.setTop (mkF m 70 #[.val (.ref wa), .val (.int i0), .val (.int n0), .val (.int (wf i0)), .val (.int (3 : Int32)), .unset, .unset, .unset, .unset] [(.int (n0 - i0))]))
        refine own_st (fun t k => XS.iload X0.here hx rfl (hb hby d2_70) rfl  k) ?_
        show own_Go p e below G (s₁.setTop (mkF m 72 #[.val (.ref wa), .val (.int i0), .val (.int n0), .val (.int (wf i0)), .val (.int (3 : Int32)), .unset, .unset, .unset, .unset] [(.int (3 : Int32)), (.int (n0 - i0))]))
        by_cases c72_9 : (n0 - i0) < (3 : Int32)
        · skip
          refine own_st (fun t k => XS.icmpNo X0.here hx rfl (hb hby d2_72) rfl (tlt c72_9).2.1 k) ?_
          show own_Go p e below G (s₁.setTop (mkF m 75 #[.val (.ref wa), .val (.int i0), .val (.int n0), .val (.int (wf i0)), .val (.int (3 : Int32)), .unset, .unset, .unset, .unset] []))
          refine own_st (fun t k => XS.iconst X0.here hx rfl (hb hby d2_75) k) ?_
          show own_Go p e below G (s₁.setTop (mkF m 76 #[.val (.ref wa), .val (.int i0), .val (.int n0), .val (.int (wf i0)), .val (.int (3 : Int32)), .unset, .unset, .unset, .unset] [(.int (0 : Int32))]))
          rw [hG]
          exact own_retI X0 hx hlk hret (hb hby d2_76) ⟨congrArg (fun z => some (Value.int z)) (show (0 : Int32) = own_cl (wf i0) (wf (i0 + 1)) (wf (i0 + 2)) (wf (i0 + 3)) (n0 - i0) by unfold own_cl; rw [if_neg c9_2, if_neg c22_3, if_pos c39_8, if_pos c72_9]), rfl, e0⟩ (by decide) (by decide)
        · skip
          refine own_st (fun t k => XS.icmpYes X0.here hx rfl (pc0 := 72) (pc' := 77) rfl (hb hby d2_72) rfl (flt c72_9).2.1 (by decide) (by decide) k) ?_
          show own_Go p e below G (s₁.setTop (mkF m 77 #[.val (.ref wa), .val (.int i0), .val (.int n0), .val (.int (wf i0)), .val (.int (3 : Int32)), .unset, .unset, .unset, .unset] []))
          refine own_st (fun t k => XS.aloadN X0.here hx rfl (hb hby d2_77) rfl rfl  k) ?_
          show own_Go p e below G (s₁.setTop (mkF m 78 #[.val (.ref wa), .val (.int i0), .val (.int n0), .val (.int (wf i0)), .val (.int (3 : Int32)), .unset, .unset, .unset, .unset] [(.ref wa)]))
          refine own_st (fun t k => XS.iloadN X0.here hx rfl (hb hby d2_78) rfl  k) ?_
          show own_Go p e below G (s₁.setTop (mkF m 79 #[.val (.ref wa), .val (.int i0), .val (.int n0), .val (.int (wf i0)), .val (.int (3 : Int32)), .unset, .unset, .unset, .unset] [(.int i0), (.ref wa)]))
          refine own_st (fun t k => XS.iconst X0.here hx rfl (hb hby d2_79) k) ?_
          show own_Go p e below G (s₁.setTop (mkF m 80 #[.val (.ref wa), .val (.int i0), .val (.int n0), .val (.int (wf i0)), .val (.int (3 : Int32)), .unset, .unset, .unset, .unset] [(.int (1 : Int32)), (.int i0), (.ref wa)]))
          refine own_st (fun t k => XS.iadd X0.here hx rfl (hb hby d2_80) rfl k) ?_
          show own_Go p e below G (s₁.setTop (mkF m 81 #[.val (.ref wa), .val (.int i0), .val (.int n0), .val (.int (wf i0)), .val (.int (3 : Int32)), .unset, .unset, .unset, .unset] [(.int (i0 + (1 : Int32))), (.ref wa)]))
          have hb10 := own_bd (n := 4) (own_in hi0 hin0 (Int.le_trans hn0.2 (by decide)) c72_9 (j := (1 : Int32)) (by decide) (by decide) (by decide)) (Int.le_trans hn0.2 (by decide))
          have hin10 := inb_of S0 hb10
          refine own_st (fun t k => X0.iaload hx (j := (i0 + (1 : Int32))) (v := (.int (wf (i0 + (1 : Int32))))) (by rw [e0]; exact Ar0.1) (State.isArrayOf_alike hZ.alike Ar0.2.1) Ar0.2.2 hin10 (hW _ hb10.1 hb10.2) (g := (mkF m 81 #[.val (.ref wa), .val (.int i0), .val (.int n0), .val (.int (wf i0)), .val (.int (3 : Int32)), .unset, .unset, .unset, .unset] [(.int (i0 + (1 : Int32))), (.ref wa)])) rfl rfl (hb hby d2_81) t k) ?_
          show own_Go p e below G (s₁.setTop (mkF m 82 #[.val (.ref wa), .val (.int i0), .val (.int n0), .val (.int (wf i0)), .val (.int (3 : Int32)), .unset, .unset, .unset, .unset] [(.int (wf (i0 + (1 : Int32))))]))
          refine own_st (fun t k => XS.istore X0.here hx rfl (hb hby d2_82) rfl (l' := #[.val (.ref wa), .val (.int i0), .val (.int n0), .val (.int (wf i0)), .val (.int (3 : Int32)), .val (.int (wf (i0 + (1 : Int32)))), .unset, .unset, .unset]) rfl k) ?_
          show own_Go p e below G (s₁.setTop (mkF m 84 #[.val (.ref wa), .val (.int i0), .val (.int n0), .val (.int (wf i0)), .val (.int (3 : Int32)), .val (.int (wf (i0 + (1 : Int32)))), .unset, .unset, .unset] []))
          refine own_st (fun t k => XS.iload X0.here hx rfl (hb hby d2_84) rfl  k) ?_
          show own_Go p e below G (s₁.setTop (mkF m 86 #[.val (.ref wa), .val (.int i0), .val (.int n0), .val (.int (wf i0)), .val (.int (3 : Int32)), .val (.int (wf (i0 + (1 : Int32)))), .unset, .unset, .unset] [(.int (wf (i0 + (1 : Int32))))]))
          refine own_st (fun t k => XS.sipush X0.here hx rfl (hb hby d2_86) k) ?_
          show own_Go p e below G (s₁.setTop (mkF m 89 #[.val (.ref wa), .val (.int i0), .val (.int n0), .val (.int (wf i0)), .val (.int (3 : Int32)), .val (.int (wf (i0 + (1 : Int32)))), .unset, .unset, .unset] [(.int (192 : Int32)), (.int (wf (i0 + (1 : Int32))))]))
          refine own_st (fun t k => XS.iand X0.here hx rfl (hb hby d2_89) rfl k) ?_
          show own_Go p e below G (s₁.setTop (mkF m 90 #[.val (.ref wa), .val (.int i0), .val (.int n0), .val (.int (wf i0)), .val (.int (3 : Int32)), .val (.int (wf (i0 + (1 : Int32)))), .unset, .unset, .unset] [(.int ((wf (i0 + (1 : Int32))) &&& (192 : Int32)))]))
          refine own_st (fun t k => XS.sipush X0.here hx rfl (hb hby d2_90) k) ?_
          show own_Go p e below G (s₁.setTop (mkF m 93 #[.val (.ref wa), .val (.int i0), .val (.int n0), .val (.int (wf i0)), .val (.int (3 : Int32)), .val (.int (wf (i0 + (1 : Int32)))), .unset, .unset, .unset] [(.int (128 : Int32)), (.int ((wf (i0 + (1 : Int32))) &&& (192 : Int32)))]))
          by_cases c93_11 : ((wf (i0 + (1 : Int32))) &&& (192 : Int32)) = (128 : Int32)
          · skip
            refine own_st (fun t k => XS.icmpYes X0.here hx rfl (pc0 := 93) (pc' := 98) rfl (hb hby d2_93) rfl (teq c93_11).1 (by decide) (by decide) k) ?_
            show own_Go p e below G (s₁.setTop (mkF m 98 #[.val (.ref wa), .val (.int i0), .val (.int n0), .val (.int (wf i0)), .val (.int (3 : Int32)), .val (.int (wf (i0 + (1 : Int32)))), .unset, .unset, .unset] []))
            refine own_st (fun t k => XS.iload X0.here hx rfl (hb hby d2_98) rfl  k) ?_
            show own_Go p e below G (s₁.setTop (mkF m 100 #[.val (.ref wa), .val (.int i0), .val (.int n0), .val (.int (wf i0)), .val (.int (3 : Int32)), .val (.int (wf (i0 + (1 : Int32)))), .unset, .unset, .unset] [(.int (3 : Int32))]))
            refine own_st (fun t k => XS.iconst X0.here hx rfl (hb hby d2_100) k) ?_
            show own_Go p e below G (s₁.setTop (mkF m 101 #[.val (.ref wa), .val (.int i0), .val (.int n0), .val (.int (wf i0)), .val (.int (3 : Int32)), .val (.int (wf (i0 + (1 : Int32)))), .unset, .unset, .unset] [(.int (2 : Int32)), (.int (3 : Int32))]))
            refine own_st (fun t k => XS.icmpYes X0.here hx rfl (pc0 := 101) (pc' := 133) rfl (hb hby d2_101) rfl (feq (by decide)).2 (by decide) (by decide) k) ?_
            show own_Go p e below G (s₁.setTop (mkF m 133 #[.val (.ref wa), .val (.int i0), .val (.int n0), .val (.int (wf i0)), .val (.int (3 : Int32)), .val (.int (wf (i0 + (1 : Int32)))), .unset, .unset, .unset] []))
            refine own_st (fun t k => XS.aloadN X0.here hx rfl (hb hby d2_133) rfl rfl  k) ?_
            show own_Go p e below G (s₁.setTop (mkF m 134 #[.val (.ref wa), .val (.int i0), .val (.int n0), .val (.int (wf i0)), .val (.int (3 : Int32)), .val (.int (wf (i0 + (1 : Int32)))), .unset, .unset, .unset] [(.ref wa)]))
            refine own_st (fun t k => XS.iloadN X0.here hx rfl (hb hby d2_134) rfl  k) ?_
            show own_Go p e below G (s₁.setTop (mkF m 135 #[.val (.ref wa), .val (.int i0), .val (.int n0), .val (.int (wf i0)), .val (.int (3 : Int32)), .val (.int (wf (i0 + (1 : Int32)))), .unset, .unset, .unset] [(.int i0), (.ref wa)]))
            refine own_st (fun t k => XS.iconst X0.here hx rfl (hb hby d2_135) k) ?_
            show own_Go p e below G (s₁.setTop (mkF m 136 #[.val (.ref wa), .val (.int i0), .val (.int n0), .val (.int (wf i0)), .val (.int (3 : Int32)), .val (.int (wf (i0 + (1 : Int32)))), .unset, .unset, .unset] [(.int (2 : Int32)), (.int i0), (.ref wa)]))
            refine own_st (fun t k => XS.iadd X0.here hx rfl (hb hby d2_136) rfl k) ?_
            show own_Go p e below G (s₁.setTop (mkF m 137 #[.val (.ref wa), .val (.int i0), .val (.int n0), .val (.int (wf i0)), .val (.int (3 : Int32)), .val (.int (wf (i0 + (1 : Int32)))), .unset, .unset, .unset] [(.int (i0 + (2 : Int32))), (.ref wa)]))
            have hb12 := own_bd (n := 4) (own_in hi0 hin0 (Int.le_trans hn0.2 (by decide)) c72_9 (j := (2 : Int32)) (by decide) (by decide) (by decide)) (Int.le_trans hn0.2 (by decide))
            have hin12 := inb_of S0 hb12
            refine own_st (fun t k => X0.iaload hx (j := (i0 + (2 : Int32))) (v := (.int (wf (i0 + (2 : Int32))))) (by rw [e0]; exact Ar0.1) (State.isArrayOf_alike hZ.alike Ar0.2.1) Ar0.2.2 hin12 (hW _ hb12.1 hb12.2) (g := (mkF m 137 #[.val (.ref wa), .val (.int i0), .val (.int n0), .val (.int (wf i0)), .val (.int (3 : Int32)), .val (.int (wf (i0 + (1 : Int32)))), .unset, .unset, .unset] [(.int (i0 + (2 : Int32))), (.ref wa)])) rfl rfl (hb hby d2_137) t k) ?_
            show own_Go p e below G (s₁.setTop (mkF m 138 #[.val (.ref wa), .val (.int i0), .val (.int n0), .val (.int (wf i0)), .val (.int (3 : Int32)), .val (.int (wf (i0 + (1 : Int32)))), .unset, .unset, .unset] [(.int (wf (i0 + (2 : Int32))))]))
            refine own_st (fun t k => XS.istore X0.here hx rfl (hb hby d2_138) rfl (l' := #[.val (.ref wa), .val (.int i0), .val (.int n0), .val (.int (wf i0)), .val (.int (3 : Int32)), .val (.int (wf (i0 + (1 : Int32)))), .val (.int (wf (i0 + (2 : Int32)))), .unset, .unset]) rfl k) ?_
            show own_Go p e below G (s₁.setTop (mkF m 140 #[.val (.ref wa), .val (.int i0), .val (.int n0), .val (.int (wf i0)), .val (.int (3 : Int32)), .val (.int (wf (i0 + (1 : Int32)))), .val (.int (wf (i0 + (2 : Int32)))), .unset, .unset] []))
            refine own_st (fun t k => XS.iload X0.here hx rfl (hb hby d2_140) rfl  k) ?_
            show own_Go p e below G (s₁.setTop (mkF m 142 #[.val (.ref wa), .val (.int i0), .val (.int n0), .val (.int (wf i0)), .val (.int (3 : Int32)), .val (.int (wf (i0 + (1 : Int32)))), .val (.int (wf (i0 + (2 : Int32)))), .unset, .unset] [(.int (wf (i0 + (2 : Int32))))]))
            refine own_st (fun t k => XS.sipush X0.here hx rfl (hb hby d2_142) k) ?_
            show own_Go p e below G (s₁.setTop (mkF m 145 #[.val (.ref wa), .val (.int i0), .val (.int n0), .val (.int (wf i0)), .val (.int (3 : Int32)), .val (.int (wf (i0 + (1 : Int32)))), .val (.int (wf (i0 + (2 : Int32)))), .unset, .unset] [(.int (192 : Int32)), (.int (wf (i0 + (2 : Int32))))]))
            refine own_st (fun t k => XS.iand X0.here hx rfl (hb hby d2_145) rfl k) ?_
            show own_Go p e below G (s₁.setTop (mkF m 146 #[.val (.ref wa), .val (.int i0), .val (.int n0), .val (.int (wf i0)), .val (.int (3 : Int32)), .val (.int (wf (i0 + (1 : Int32)))), .val (.int (wf (i0 + (2 : Int32)))), .unset, .unset] [(.int ((wf (i0 + (2 : Int32))) &&& (192 : Int32)))]))
            refine own_st (fun t k => XS.sipush X0.here hx rfl (hb hby d2_146) k) ?_
            show own_Go p e below G (s₁.setTop (mkF m 149 #[.val (.ref wa), .val (.int i0), .val (.int n0), .val (.int (wf i0)), .val (.int (3 : Int32)), .val (.int (wf (i0 + (1 : Int32)))), .val (.int (wf (i0 + (2 : Int32)))), .unset, .unset] [(.int (128 : Int32)), (.int ((wf (i0 + (2 : Int32))) &&& (192 : Int32)))]))
            by_cases c149_13 : ((wf (i0 + (2 : Int32))) &&& (192 : Int32)) = (128 : Int32)
            · skip
              refine own_st (fun t k => XS.icmpYes X0.here hx rfl (pc0 := 149) (pc' := 154) rfl (hb hby d2_149) rfl (teq c149_13).1 (by decide) (by decide) k) ?_
              show own_Go p e below G (s₁.setTop (mkF m 154 #[.val (.ref wa), .val (.int i0), .val (.int n0), .val (.int (wf i0)), .val (.int (3 : Int32)), .val (.int (wf (i0 + (1 : Int32)))), .val (.int (wf (i0 + (2 : Int32)))), .unset, .unset] []))
              refine own_st (fun t k => XS.iload X0.here hx rfl (hb hby d2_154) rfl  k) ?_
              show own_Go p e below G (s₁.setTop (mkF m 156 #[.val (.ref wa), .val (.int i0), .val (.int n0), .val (.int (wf i0)), .val (.int (3 : Int32)), .val (.int (wf (i0 + (1 : Int32)))), .val (.int (wf (i0 + (2 : Int32)))), .unset, .unset] [(.int (3 : Int32))]))
              refine own_st (fun t k => XS.iconst X0.here hx rfl (hb hby d2_156) k) ?_
              show own_Go p e below G (s₁.setTop (mkF m 157 #[.val (.ref wa), .val (.int i0), .val (.int n0), .val (.int (wf i0)), .val (.int (3 : Int32)), .val (.int (wf (i0 + (1 : Int32)))), .val (.int (wf (i0 + (2 : Int32)))), .unset, .unset] [(.int (3 : Int32)), (.int (3 : Int32))]))
              refine own_st (fun t k => XS.icmpNo X0.here hx rfl (hb hby d2_157) rfl (teq (by decide)).2 k) ?_
              show own_Go p e below G (s₁.setTop (mkF m 160 #[.val (.ref wa), .val (.int i0), .val (.int n0), .val (.int (wf i0)), .val (.int (3 : Int32)), .val (.int (wf (i0 + (1 : Int32)))), .val (.int (wf (i0 + (2 : Int32)))), .unset, .unset] []))
              refine own_st (fun t k => XS.iloadN X0.here hx rfl (hb hby d2_160) rfl  k) ?_
              show own_Go p e below G (s₁.setTop (mkF m 161 #[.val (.ref wa), .val (.int i0), .val (.int n0), .val (.int (wf i0)), .val (.int (3 : Int32)), .val (.int (wf (i0 + (1 : Int32)))), .val (.int (wf (i0 + (2 : Int32)))), .unset, .unset] [(.int (wf i0))]))
              refine own_st (fun t k => XS.bipush X0.here hx rfl (hb hby d2_161) k) ?_
              show own_Go p e below G (s₁.setTop (mkF m 163 #[.val (.ref wa), .val (.int i0), .val (.int n0), .val (.int (wf i0)), .val (.int (3 : Int32)), .val (.int (wf (i0 + (1 : Int32)))), .val (.int (wf (i0 + (2 : Int32)))), .unset, .unset] [(.int (15 : Int32)), (.int (wf i0))]))
              refine own_st (fun t k => XS.iand X0.here hx rfl (hb hby d2_163) rfl k) ?_
              show own_Go p e below G (s₁.setTop (mkF m 164 #[.val (.ref wa), .val (.int i0), .val (.int n0), .val (.int (wf i0)), .val (.int (3 : Int32)), .val (.int (wf (i0 + (1 : Int32)))), .val (.int (wf (i0 + (2 : Int32)))), .unset, .unset] [(.int ((wf i0) &&& (15 : Int32)))]))
              refine own_st (fun t k => XS.bipush X0.here hx rfl (hb hby d2_164) k) ?_
              show own_Go p e below G (s₁.setTop (mkF m 166 #[.val (.ref wa), .val (.int i0), .val (.int n0), .val (.int (wf i0)), .val (.int (3 : Int32)), .val (.int (wf (i0 + (1 : Int32)))), .val (.int (wf (i0 + (2 : Int32)))), .unset, .unset] [(.int (12 : Int32)), (.int ((wf i0) &&& (15 : Int32)))]))
              refine own_st (fun t k => XS.ishl X0.here hx rfl (hb hby d2_166) rfl k) ?_
              show own_Go p e below G (s₁.setTop (mkF m 167 #[.val (.ref wa), .val (.int i0), .val (.int n0), .val (.int (wf i0)), .val (.int (3 : Int32)), .val (.int (wf (i0 + (1 : Int32)))), .val (.int (wf (i0 + (2 : Int32)))), .unset, .unset] [(.int (((wf i0) &&& (15 : Int32)) <<< ((12 : Int32) &&& 31)))]))
              refine own_st (fun t k => XS.iload X0.here hx rfl (hb hby d2_167) rfl  k) ?_
              show own_Go p e below G (s₁.setTop (mkF m 169 #[.val (.ref wa), .val (.int i0), .val (.int n0), .val (.int (wf i0)), .val (.int (3 : Int32)), .val (.int (wf (i0 + (1 : Int32)))), .val (.int (wf (i0 + (2 : Int32)))), .unset, .unset] [(.int (wf (i0 + (1 : Int32)))), (.int (((wf i0) &&& (15 : Int32)) <<< ((12 : Int32) &&& 31)))]))
              refine own_st (fun t k => XS.bipush X0.here hx rfl (hb hby d2_169) k) ?_
              show own_Go p e below G (s₁.setTop (mkF m 171 #[.val (.ref wa), .val (.int i0), .val (.int n0), .val (.int (wf i0)), .val (.int (3 : Int32)), .val (.int (wf (i0 + (1 : Int32)))), .val (.int (wf (i0 + (2 : Int32)))), .unset, .unset] [(.int (63 : Int32)), (.int (wf (i0 + (1 : Int32)))), (.int (((wf i0) &&& (15 : Int32)) <<< ((12 : Int32) &&& 31)))]))
              refine own_st (fun t k => XS.iand X0.here hx rfl (hb hby d2_171) rfl k) ?_
              show own_Go p e below G (s₁.setTop (mkF m 172 #[.val (.ref wa), .val (.int i0), .val (.int n0), .val (.int (wf i0)), .val (.int (3 : Int32)), .val (.int (wf (i0 + (1 : Int32)))), .val (.int (wf (i0 + (2 : Int32)))), .unset, .unset] [(.int ((wf (i0 + (1 : Int32))) &&& (63 : Int32))), (.int (((wf i0) &&& (15 : Int32)) <<< ((12 : Int32) &&& 31)))]))
              refine own_st (fun t k => XS.bipush X0.here hx rfl (hb hby d2_172) k) ?_
              show own_Go p e below G (s₁.setTop (mkF m 174 #[.val (.ref wa), .val (.int i0), .val (.int n0), .val (.int (wf i0)), .val (.int (3 : Int32)), .val (.int (wf (i0 + (1 : Int32)))), .val (.int (wf (i0 + (2 : Int32)))), .unset, .unset] [(.int (6 : Int32)), (.int ((wf (i0 + (1 : Int32))) &&& (63 : Int32))), (.int (((wf i0) &&& (15 : Int32)) <<< ((12 : Int32) &&& 31)))]))
              refine own_st (fun t k => XS.ishl X0.here hx rfl (hb hby d2_174) rfl k) ?_
              show own_Go p e below G (s₁.setTop (mkF m 175 #[.val (.ref wa), .val (.int i0), .val (.int n0), .val (.int (wf i0)), .val (.int (3 : Int32)), .val (.int (wf (i0 + (1 : Int32)))), .val (.int (wf (i0 + (2 : Int32)))), .unset, .unset] [(.int (((wf (i0 + (1 : Int32))) &&& (63 : Int32)) <<< ((6 : Int32) &&& 31))), (.int (((wf i0) &&& (15 : Int32)) <<< ((12 : Int32) &&& 31)))]))
              refine own_st (fun t k => XS.ior X0.here hx rfl (hb hby d2_175) rfl k) ?_
              show own_Go p e below G (s₁.setTop (mkF m 176 #[.val (.ref wa), .val (.int i0), .val (.int n0), .val (.int (wf i0)), .val (.int (3 : Int32)), .val (.int (wf (i0 + (1 : Int32)))), .val (.int (wf (i0 + (2 : Int32)))), .unset, .unset] [(.int ((((wf i0) &&& (15 : Int32)) <<< ((12 : Int32) &&& 31)) ||| (((wf (i0 + (1 : Int32))) &&& (63 : Int32)) <<< ((6 : Int32) &&& 31))))]))
              refine own_st (fun t k => XS.iload X0.here hx rfl (hb hby d2_176) rfl  k) ?_
              show own_Go p e below G (s₁.setTop (mkF m 178 #[.val (.ref wa), .val (.int i0), .val (.int n0), .val (.int (wf i0)), .val (.int (3 : Int32)), .val (.int (wf (i0 + (1 : Int32)))), .val (.int (wf (i0 + (2 : Int32)))), .unset, .unset] [(.int (wf (i0 + (2 : Int32)))), (.int ((((wf i0) &&& (15 : Int32)) <<< ((12 : Int32) &&& 31)) ||| (((wf (i0 + (1 : Int32))) &&& (63 : Int32)) <<< ((6 : Int32) &&& 31))))]))
              refine own_st (fun t k => XS.bipush X0.here hx rfl (hb hby d2_178) k) ?_
              show own_Go p e below G (s₁.setTop (mkF m 180 #[.val (.ref wa), .val (.int i0), .val (.int n0), .val (.int (wf i0)), .val (.int (3 : Int32)), .val (.int (wf (i0 + (1 : Int32)))), .val (.int (wf (i0 + (2 : Int32)))), .unset, .unset] [(.int (63 : Int32)), (.int (wf (i0 + (2 : Int32)))), (.int ((((wf i0) &&& (15 : Int32)) <<< ((12 : Int32) &&& 31)) ||| (((wf (i0 + (1 : Int32))) &&& (63 : Int32)) <<< ((6 : Int32) &&& 31))))]))
              refine own_st (fun t k => XS.iand X0.here hx rfl (hb hby d2_180) rfl k) ?_
              show own_Go p e below G (s₁.setTop (mkF m 181 #[.val (.ref wa), .val (.int i0), .val (.int n0), .val (.int (wf i0)), .val (.int (3 : Int32)), .val (.int (wf (i0 + (1 : Int32)))), .val (.int (wf (i0 + (2 : Int32)))), .unset, .unset] [(.int ((wf (i0 + (2 : Int32))) &&& (63 : Int32))), (.int ((((wf i0) &&& (15 : Int32)) <<< ((12 : Int32) &&& 31)) ||| (((wf (i0 + (1 : Int32))) &&& (63 : Int32)) <<< ((6 : Int32) &&& 31))))]))
              refine own_st (fun t k => XS.ior X0.here hx rfl (hb hby d2_181) rfl k) ?_
              show own_Go p e below G (s₁.setTop (mkF m 182 #[.val (.ref wa), .val (.int i0), .val (.int n0), .val (.int (wf i0)), .val (.int (3 : Int32)), .val (.int (wf (i0 + (1 : Int32)))), .val (.int (wf (i0 + (2 : Int32)))), .unset, .unset] [(.int (((((wf i0) &&& (15 : Int32)) <<< ((12 : Int32) &&& 31)) ||| (((wf (i0 + (1 : Int32))) &&& (63 : Int32)) <<< ((6 : Int32) &&& 31))) ||| ((wf (i0 + (2 : Int32))) &&& (63 : Int32))))]))
              refine own_st (fun t k => XS.istore X0.here hx rfl (hb hby d2_182) rfl (l' := #[.val (.ref wa), .val (.int i0), .val (.int n0), .val (.int (wf i0)), .val (.int (3 : Int32)), .val (.int (wf (i0 + (1 : Int32)))), .val (.int (wf (i0 + (2 : Int32)))), .val (.int (((((wf i0) &&& (15 : Int32)) <<< ((12 : Int32) &&& 31)) ||| (((wf (i0 + (1 : Int32))) &&& (63 : Int32)) <<< ((6 : Int32) &&& 31))) ||| ((wf (i0 + (2 : Int32))) &&& (63 : Int32)))), .unset]) rfl k) ?_
              show own_Go p e below G (s₁.setTop (mkF m 184 #[.val (.ref wa), .val (.int i0), .val (.int n0), .val (.int (wf i0)), .val (.int (3 : Int32)), .val (.int (wf (i0 + (1 : Int32)))), .val (.int (wf (i0 + (2 : Int32)))), .val (.int (((((wf i0) &&& (15 : Int32)) <<< ((12 : Int32) &&& 31)) ||| (((wf (i0 + (1 : Int32))) &&& (63 : Int32)) <<< ((6 : Int32) &&& 31))) ||| ((wf (i0 + (2 : Int32))) &&& (63 : Int32)))), .unset] []))
              refine own_st (fun t k => XS.iload X0.here hx rfl (hb hby d2_184) rfl  k) ?_
              show own_Go p e below G (s₁.setTop (mkF m 186 #[.val (.ref wa), .val (.int i0), .val (.int n0), .val (.int (wf i0)), .val (.int (3 : Int32)), .val (.int (wf (i0 + (1 : Int32)))), .val (.int (wf (i0 + (2 : Int32)))), .val (.int (((((wf i0) &&& (15 : Int32)) <<< ((12 : Int32) &&& 31)) ||| (((wf (i0 + (1 : Int32))) &&& (63 : Int32)) <<< ((6 : Int32) &&& 31))) ||| ((wf (i0 + (2 : Int32))) &&& (63 : Int32)))), .unset] [(.int (((((wf i0) &&& (15 : Int32)) <<< ((12 : Int32) &&& 31)) ||| (((wf (i0 + (1 : Int32))) &&& (63 : Int32)) <<< ((6 : Int32) &&& 31))) ||| ((wf (i0 + (2 : Int32))) &&& (63 : Int32))))]))
              refine own_st (fun t k => XS.sipush X0.here hx rfl (hb hby d2_186) k) ?_
              show own_Go p e below G (s₁.setTop (mkF m 189 #[.val (.ref wa), .val (.int i0), .val (.int n0), .val (.int (wf i0)), .val (.int (3 : Int32)), .val (.int (wf (i0 + (1 : Int32)))), .val (.int (wf (i0 + (2 : Int32)))), .val (.int (((((wf i0) &&& (15 : Int32)) <<< ((12 : Int32) &&& 31)) ||| (((wf (i0 + (1 : Int32))) &&& (63 : Int32)) <<< ((6 : Int32) &&& 31))) ||| ((wf (i0 + (2 : Int32))) &&& (63 : Int32)))), .unset] [(.int (2048 : Int32)), (.int (((((wf i0) &&& (15 : Int32)) <<< ((12 : Int32) &&& 31)) ||| (((wf (i0 + (1 : Int32))) &&& (63 : Int32)) <<< ((6 : Int32) &&& 31))) ||| ((wf (i0 + (2 : Int32))) &&& (63 : Int32))))]))
              by_cases c189_14 : (((((wf i0) &&& (15 : Int32)) <<< ((12 : Int32) &&& 31)) ||| (((wf (i0 + (1 : Int32))) &&& (63 : Int32)) <<< ((6 : Int32) &&& 31))) ||| ((wf (i0 + (2 : Int32))) &&& (63 : Int32))) < (2048 : Int32)
              · skip
                refine own_st (fun t k => XS.icmpYes X0.here hx rfl (pc0 := 189) (pc' := 210) rfl (hb hby d2_189) rfl (tlt c189_14).1 (by decide) (by decide) k) ?_
                show own_Go p e below G (s₁.setTop (mkF m 210 #[.val (.ref wa), .val (.int i0), .val (.int n0), .val (.int (wf i0)), .val (.int (3 : Int32)), .val (.int (wf (i0 + (1 : Int32)))), .val (.int (wf (i0 + (2 : Int32)))), .val (.int (((((wf i0) &&& (15 : Int32)) <<< ((12 : Int32) &&& 31)) ||| (((wf (i0 + (1 : Int32))) &&& (63 : Int32)) <<< ((6 : Int32) &&& 31))) ||| ((wf (i0 + (2 : Int32))) &&& (63 : Int32)))), .unset] []))
                refine own_st (fun t k => XS.iconst X0.here hx rfl (hb hby d2_210) k) ?_
                show own_Go p e below G (s₁.setTop (mkF m 211 #[.val (.ref wa), .val (.int i0), .val (.int n0), .val (.int (wf i0)), .val (.int (3 : Int32)), .val (.int (wf (i0 + (1 : Int32)))), .val (.int (wf (i0 + (2 : Int32)))), .val (.int (((((wf i0) &&& (15 : Int32)) <<< ((12 : Int32) &&& 31)) ||| (((wf (i0 + (1 : Int32))) &&& (63 : Int32)) <<< ((6 : Int32) &&& 31))) ||| ((wf (i0 + (2 : Int32))) &&& (63 : Int32)))), .unset] [(.int (0 : Int32))]))
                rw [hG]
                exact own_retI X0 hx hlk hret (hb hby d2_211) ⟨congrArg (fun z => some (Value.int z)) (show (0 : Int32) = own_cl (wf i0) (wf (i0 + 1)) (wf (i0 + 2)) (wf (i0 + 3)) (n0 - i0) by unfold own_cl; rw [if_neg c9_2, if_neg c22_3, if_pos c39_8, if_neg c72_9, if_pos c93_11, if_pos c149_13, if_pos c189_14]), rfl, e0⟩ (by decide) (by decide)
              · skip
                refine own_st (fun t k => XS.icmpNo X0.here hx rfl (hb hby d2_189) rfl (flt c189_14).1 k) ?_
                show own_Go p e below G (s₁.setTop (mkF m 192 #[.val (.ref wa), .val (.int i0), .val (.int n0), .val (.int (wf i0)), .val (.int (3 : Int32)), .val (.int (wf (i0 + (1 : Int32)))), .val (.int (wf (i0 + (2 : Int32)))), .val (.int (((((wf i0) &&& (15 : Int32)) <<< ((12 : Int32) &&& 31)) ||| (((wf (i0 + (1 : Int32))) &&& (63 : Int32)) <<< ((6 : Int32) &&& 31))) ||| ((wf (i0 + (2 : Int32))) &&& (63 : Int32)))), .unset] []))
                refine own_st (fun t k => XS.iload X0.here hx rfl (hb hby d2_192) rfl  k) ?_
                show own_Go p e below G (s₁.setTop (mkF m 194 #[.val (.ref wa), .val (.int i0), .val (.int n0), .val (.int (wf i0)), .val (.int (3 : Int32)), .val (.int (wf (i0 + (1 : Int32)))), .val (.int (wf (i0 + (2 : Int32)))), .val (.int (((((wf i0) &&& (15 : Int32)) <<< ((12 : Int32) &&& 31)) ||| (((wf (i0 + (1 : Int32))) &&& (63 : Int32)) <<< ((6 : Int32) &&& 31))) ||| ((wf (i0 + (2 : Int32))) &&& (63 : Int32)))), .unset] [(.int (((((wf i0) &&& (15 : Int32)) <<< ((12 : Int32) &&& 31)) ||| (((wf (i0 + (1 : Int32))) &&& (63 : Int32)) <<< ((6 : Int32) &&& 31))) ||| ((wf (i0 + (2 : Int32))) &&& (63 : Int32))))]))
                refine own_st (fun t k => X0.ldcInt hx hown (mvT hZ (hw _ (List.mem_of_getElem? (i := 14) rfl))) (g := (mkF m 194 #[.val (.ref wa), .val (.int i0), .val (.int n0), .val (.int (wf i0)), .val (.int (3 : Int32)), .val (.int (wf (i0 + (1 : Int32)))), .val (.int (wf (i0 + (2 : Int32)))), .val (.int (((((wf i0) &&& (15 : Int32)) <<< ((12 : Int32) &&& 31)) ||| (((wf (i0 + (1 : Int32))) &&& (63 : Int32)) <<< ((6 : Int32) &&& 31))) ||| ((wf (i0 + (2 : Int32))) &&& (63 : Int32)))), .unset] [(.int (((((wf i0) &&& (15 : Int32)) <<< ((12 : Int32) &&& 31)) ||| (((wf (i0 + (1 : Int32))) &&& (63 : Int32)) <<< ((6 : Int32) &&& 31))) ||| ((wf (i0 + (2 : Int32))) &&& (63 : Int32))))])) rfl (hb hby d2_194) t k) ?_
                show own_Go p e below G (s₁.setTop (mkF m 196 #[.val (.ref wa), .val (.int i0), .val (.int n0), .val (.int (wf i0)), .val (.int (3 : Int32)), .val (.int (wf (i0 + (1 : Int32)))), .val (.int (wf (i0 + (2 : Int32)))), .val (.int (((((wf i0) &&& (15 : Int32)) <<< ((12 : Int32) &&& 31)) ||| (((wf (i0 + (1 : Int32))) &&& (63 : Int32)) <<< ((6 : Int32) &&& 31))) ||| ((wf (i0 + (2 : Int32))) &&& (63 : Int32)))), .unset] [(.int (55296 : Int32)), (.int (((((wf i0) &&& (15 : Int32)) <<< ((12 : Int32) &&& 31)) ||| (((wf (i0 + (1 : Int32))) &&& (63 : Int32)) <<< ((6 : Int32) &&& 31))) ||| ((wf (i0 + (2 : Int32))) &&& (63 : Int32))))]))
                by_cases c196_15 : (((((wf i0) &&& (15 : Int32)) <<< ((12 : Int32) &&& 31)) ||| (((wf (i0 + (1 : Int32))) &&& (63 : Int32)) <<< ((6 : Int32) &&& 31))) ||| ((wf (i0 + (2 : Int32))) &&& (63 : Int32))) < (55296 : Int32)
                · skip
                  refine own_st (fun t k => XS.icmpYes X0.here hx rfl (pc0 := 196) (pc' := 206) rfl (hb hby d2_196) rfl (tlt c196_15).1 (by decide) (by decide) k) ?_
                  show own_Go p e below G (s₁.setTop (mkF m 206 #[.val (.ref wa), .val (.int i0), .val (.int n0), .val (.int (wf i0)), .val (.int (3 : Int32)), .val (.int (wf (i0 + (1 : Int32)))), .val (.int (wf (i0 + (2 : Int32)))), .val (.int (((((wf i0) &&& (15 : Int32)) <<< ((12 : Int32) &&& 31)) ||| (((wf (i0 + (1 : Int32))) &&& (63 : Int32)) <<< ((6 : Int32) &&& 31))) ||| ((wf (i0 + (2 : Int32))) &&& (63 : Int32)))), .unset] []))
                  refine own_st (fun t k => XS.iconst X0.here hx rfl (hb hby d2_206) k) ?_
                  show own_Go p e below G (s₁.setTop (mkF m 207 #[.val (.ref wa), .val (.int i0), .val (.int n0), .val (.int (wf i0)), .val (.int (3 : Int32)), .val (.int (wf (i0 + (1 : Int32)))), .val (.int (wf (i0 + (2 : Int32)))), .val (.int (((((wf i0) &&& (15 : Int32)) <<< ((12 : Int32) &&& 31)) ||| (((wf (i0 + (1 : Int32))) &&& (63 : Int32)) <<< ((6 : Int32) &&& 31))) ||| ((wf (i0 + (2 : Int32))) &&& (63 : Int32)))), .unset] [(.int (3 : Int32))]))
                  refine own_st (fun t k => XS.goto X0.here hx rfl (pc0 := 207) (pc' := 211) rfl (hb hby d2_207) (by decide) (by decide) k) ?_
                  show own_Go p e below G (s₁.setTop (mkF m 211 #[.val (.ref wa), .val (.int i0), .val (.int n0), .val (.int (wf i0)), .val (.int (3 : Int32)), .val (.int (wf (i0 + (1 : Int32)))), .val (.int (wf (i0 + (2 : Int32)))), .val (.int (((((wf i0) &&& (15 : Int32)) <<< ((12 : Int32) &&& 31)) ||| (((wf (i0 + (1 : Int32))) &&& (63 : Int32)) <<< ((6 : Int32) &&& 31))) ||| ((wf (i0 + (2 : Int32))) &&& (63 : Int32)))), .unset] [(.int (3 : Int32))]))
                  rw [hG]
                  exact own_retI X0 hx hlk hret (hb hby d2_211) ⟨congrArg (fun z => some (Value.int z)) (show (3 : Int32) = own_cl (wf i0) (wf (i0 + 1)) (wf (i0 + 2)) (wf (i0 + 3)) (n0 - i0) by unfold own_cl; rw [if_neg c9_2, if_neg c22_3, if_pos c39_8, if_neg c72_9, if_pos c93_11, if_pos c149_13, if_neg c189_14, if_pos c196_15]), rfl, e0⟩ (by decide) (by decide)
                · skip
                  refine own_st (fun t k => XS.icmpNo X0.here hx rfl (hb hby d2_196) rfl (flt c196_15).1 k) ?_
                  show own_Go p e below G (s₁.setTop (mkF m 199 #[.val (.ref wa), .val (.int i0), .val (.int n0), .val (.int (wf i0)), .val (.int (3 : Int32)), .val (.int (wf (i0 + (1 : Int32)))), .val (.int (wf (i0 + (2 : Int32)))), .val (.int (((((wf i0) &&& (15 : Int32)) <<< ((12 : Int32) &&& 31)) ||| (((wf (i0 + (1 : Int32))) &&& (63 : Int32)) <<< ((6 : Int32) &&& 31))) ||| ((wf (i0 + (2 : Int32))) &&& (63 : Int32)))), .unset] []))
                  refine own_st (fun t k => XS.iload X0.here hx rfl (hb hby d2_199) rfl  k) ?_
                  show own_Go p e below G (s₁.setTop (mkF m 201 #[.val (.ref wa), .val (.int i0), .val (.int n0), .val (.int (wf i0)), .val (.int (3 : Int32)), .val (.int (wf (i0 + (1 : Int32)))), .val (.int (wf (i0 + (2 : Int32)))), .val (.int (((((wf i0) &&& (15 : Int32)) <<< ((12 : Int32) &&& 31)) ||| (((wf (i0 + (1 : Int32))) &&& (63 : Int32)) <<< ((6 : Int32) &&& 31))) ||| ((wf (i0 + (2 : Int32))) &&& (63 : Int32)))), .unset] [(.int (((((wf i0) &&& (15 : Int32)) <<< ((12 : Int32) &&& 31)) ||| (((wf (i0 + (1 : Int32))) &&& (63 : Int32)) <<< ((6 : Int32) &&& 31))) ||| ((wf (i0 + (2 : Int32))) &&& (63 : Int32))))]))
                  refine own_st (fun t k => X0.ldcInt hx hown (mvT hZ (hw _ (List.mem_of_getElem? (i := 15) rfl))) (g := (mkF m 201 #[.val (.ref wa), .val (.int i0), .val (.int n0), .val (.int (wf i0)), .val (.int (3 : Int32)), .val (.int (wf (i0 + (1 : Int32)))), .val (.int (wf (i0 + (2 : Int32)))), .val (.int (((((wf i0) &&& (15 : Int32)) <<< ((12 : Int32) &&& 31)) ||| (((wf (i0 + (1 : Int32))) &&& (63 : Int32)) <<< ((6 : Int32) &&& 31))) ||| ((wf (i0 + (2 : Int32))) &&& (63 : Int32)))), .unset] [(.int (((((wf i0) &&& (15 : Int32)) <<< ((12 : Int32) &&& 31)) ||| (((wf (i0 + (1 : Int32))) &&& (63 : Int32)) <<< ((6 : Int32) &&& 31))) ||| ((wf (i0 + (2 : Int32))) &&& (63 : Int32))))])) rfl (hb hby d2_201) t k) ?_
                  show own_Go p e below G (s₁.setTop (mkF m 203 #[.val (.ref wa), .val (.int i0), .val (.int n0), .val (.int (wf i0)), .val (.int (3 : Int32)), .val (.int (wf (i0 + (1 : Int32)))), .val (.int (wf (i0 + (2 : Int32)))), .val (.int (((((wf i0) &&& (15 : Int32)) <<< ((12 : Int32) &&& 31)) ||| (((wf (i0 + (1 : Int32))) &&& (63 : Int32)) <<< ((6 : Int32) &&& 31))) ||| ((wf (i0 + (2 : Int32))) &&& (63 : Int32)))), .unset] [(.int (57343 : Int32)), (.int (((((wf i0) &&& (15 : Int32)) <<< ((12 : Int32) &&& 31)) ||| (((wf (i0 + (1 : Int32))) &&& (63 : Int32)) <<< ((6 : Int32) &&& 31))) ||| ((wf (i0 + (2 : Int32))) &&& (63 : Int32))))]))
                  by_cases c203_16 : (57343 : Int32) < (((((wf i0) &&& (15 : Int32)) <<< ((12 : Int32) &&& 31)) ||| (((wf (i0 + (1 : Int32))) &&& (63 : Int32)) <<< ((6 : Int32) &&& 31))) ||| ((wf (i0 + (2 : Int32))) &&& (63 : Int32)))
                  · skip
                    refine own_st (fun t k => XS.icmpNo X0.here hx rfl (hb hby d2_203) rfl (tlt c203_16).2.2.2 k) ?_
                    show own_Go p e below G (s₁.setTop (mkF m 206 #[.val (.ref wa), .val (.int i0), .val (.int n0), .val (.int (wf i0)), .val (.int (3 : Int32)), .val (.int (wf (i0 + (1 : Int32)))), .val (.int (wf (i0 + (2 : Int32)))), .val (.int (((((wf i0) &&& (15 : Int32)) <<< ((12 : Int32) &&& 31)) ||| (((wf (i0 + (1 : Int32))) &&& (63 : Int32)) <<< ((6 : Int32) &&& 31))) ||| ((wf (i0 + (2 : Int32))) &&& (63 : Int32)))), .unset] []))
                    refine own_st (fun t k => XS.iconst X0.here hx rfl (hb hby d2_206) k) ?_
                    show own_Go p e below G (s₁.setTop (mkF m 207 #[.val (.ref wa), .val (.int i0), .val (.int n0), .val (.int (wf i0)), .val (.int (3 : Int32)), .val (.int (wf (i0 + (1 : Int32)))), .val (.int (wf (i0 + (2 : Int32)))), .val (.int (((((wf i0) &&& (15 : Int32)) <<< ((12 : Int32) &&& 31)) ||| (((wf (i0 + (1 : Int32))) &&& (63 : Int32)) <<< ((6 : Int32) &&& 31))) ||| ((wf (i0 + (2 : Int32))) &&& (63 : Int32)))), .unset] [(.int (3 : Int32))]))
                    refine own_st (fun t k => XS.goto X0.here hx rfl (pc0 := 207) (pc' := 211) rfl (hb hby d2_207) (by decide) (by decide) k) ?_
                    show own_Go p e below G (s₁.setTop (mkF m 211 #[.val (.ref wa), .val (.int i0), .val (.int n0), .val (.int (wf i0)), .val (.int (3 : Int32)), .val (.int (wf (i0 + (1 : Int32)))), .val (.int (wf (i0 + (2 : Int32)))), .val (.int (((((wf i0) &&& (15 : Int32)) <<< ((12 : Int32) &&& 31)) ||| (((wf (i0 + (1 : Int32))) &&& (63 : Int32)) <<< ((6 : Int32) &&& 31))) ||| ((wf (i0 + (2 : Int32))) &&& (63 : Int32)))), .unset] [(.int (3 : Int32))]))
                    rw [hG]
                    exact own_retI X0 hx hlk hret (hb hby d2_211) ⟨congrArg (fun z => some (Value.int z)) (show (3 : Int32) = own_cl (wf i0) (wf (i0 + 1)) (wf (i0 + 2)) (wf (i0 + 3)) (n0 - i0) by unfold own_cl; rw [if_neg c9_2, if_neg c22_3, if_pos c39_8, if_neg c72_9, if_pos c93_11, if_pos c149_13, if_neg c189_14, if_neg c196_15, if_pos c203_16]), rfl, e0⟩ (by decide) (by decide)
                  · skip
                    refine own_st (fun t k => XS.icmpYes X0.here hx rfl (pc0 := 203) (pc' := 210) rfl (hb hby d2_203) rfl (flt c203_16).2.2.2 (by decide) (by decide) k) ?_
                    show own_Go p e below G (s₁.setTop (mkF m 210 #[.val (.ref wa), .val (.int i0), .val (.int n0), .val (.int (wf i0)), .val (.int (3 : Int32)), .val (.int (wf (i0 + (1 : Int32)))), .val (.int (wf (i0 + (2 : Int32)))), .val (.int (((((wf i0) &&& (15 : Int32)) <<< ((12 : Int32) &&& 31)) ||| (((wf (i0 + (1 : Int32))) &&& (63 : Int32)) <<< ((6 : Int32) &&& 31))) ||| ((wf (i0 + (2 : Int32))) &&& (63 : Int32)))), .unset] []))
                    refine own_st (fun t k => XS.iconst X0.here hx rfl (hb hby d2_210) k) ?_
                    show own_Go p e below G (s₁.setTop (mkF m 211 #[.val (.ref wa), .val (.int i0), .val (.int n0), .val (.int (wf i0)), .val (.int (3 : Int32)), .val (.int (wf (i0 + (1 : Int32)))), .val (.int (wf (i0 + (2 : Int32)))), .val (.int (((((wf i0) &&& (15 : Int32)) <<< ((12 : Int32) &&& 31)) ||| (((wf (i0 + (1 : Int32))) &&& (63 : Int32)) <<< ((6 : Int32) &&& 31))) ||| ((wf (i0 + (2 : Int32))) &&& (63 : Int32)))), .unset] [(.int (0 : Int32))]))
                    rw [hG]
                    exact own_retI X0 hx hlk hret (hb hby d2_211) ⟨congrArg (fun z => some (Value.int z)) (show (0 : Int32) = own_cl (wf i0) (wf (i0 + 1)) (wf (i0 + 2)) (wf (i0 + 3)) (n0 - i0) by unfold own_cl; rw [if_neg c9_2, if_neg c22_3, if_pos c39_8, if_neg c72_9, if_pos c93_11, if_pos c149_13, if_neg c189_14, if_neg c196_15, if_neg c203_16]), rfl, e0⟩ (by decide) (by decide)
            · skip
              refine own_st (fun t k => XS.icmpNo X0.here hx rfl (hb hby d2_149) rfl (feq c149_13).1 k) ?_
              show own_Go p e below G (s₁.setTop (mkF m 152 #[.val (.ref wa), .val (.int i0), .val (.int n0), .val (.int (wf i0)), .val (.int (3 : Int32)), .val (.int (wf (i0 + (1 : Int32)))), .val (.int (wf (i0 + (2 : Int32)))), .unset, .unset] []))
              refine own_st (fun t k => XS.iconst X0.here hx rfl (hb hby d2_152) k) ?_
              show own_Go p e below G (s₁.setTop (mkF m 153 #[.val (.ref wa), .val (.int i0), .val (.int n0), .val (.int (wf i0)), .val (.int (3 : Int32)), .val (.int (wf (i0 + (1 : Int32)))), .val (.int (wf (i0 + (2 : Int32)))), .unset, .unset] [(.int (0 : Int32))]))
              rw [hG]
              exact own_retI X0 hx hlk hret (hb hby d2_153) ⟨congrArg (fun z => some (Value.int z)) (show (0 : Int32) = own_cl (wf i0) (wf (i0 + 1)) (wf (i0 + 2)) (wf (i0 + 3)) (n0 - i0) by unfold own_cl; rw [if_neg c9_2, if_neg c22_3, if_pos c39_8, if_neg c72_9, if_pos c93_11, if_neg c149_13]), rfl, e0⟩ (by decide) (by decide)
          · skip
            refine own_st (fun t k => XS.icmpNo X0.here hx rfl (hb hby d2_93) rfl (feq c93_11).1 k) ?_
            show own_Go p e below G (s₁.setTop (mkF m 96 #[.val (.ref wa), .val (.int i0), .val (.int n0), .val (.int (wf i0)), .val (.int (3 : Int32)), .val (.int (wf (i0 + (1 : Int32)))), .unset, .unset, .unset] []))
            refine own_st (fun t k => XS.iconst X0.here hx rfl (hb hby d2_96) k) ?_
            show own_Go p e below G (s₁.setTop (mkF m 97 #[.val (.ref wa), .val (.int i0), .val (.int n0), .val (.int (wf i0)), .val (.int (3 : Int32)), .val (.int (wf (i0 + (1 : Int32)))), .unset, .unset, .unset] [(.int (0 : Int32))]))
            rw [hG]
            exact own_retI X0 hx hlk hret (hb hby d2_97) ⟨congrArg (fun z => some (Value.int z)) (show (0 : Int32) = own_cl (wf i0) (wf (i0 + 1)) (wf (i0 + 2)) (wf (i0 + 3)) (n0 - i0) by unfold own_cl; rw [if_neg c9_2, if_neg c22_3, if_pos c39_8, if_neg c72_9, if_neg c93_11]), rfl, e0⟩ (by decide) (by decide)
      · skip
        refine own_st (fun t k => XS.icmpYes X0.here hx rfl (pc0 := 39) (pc' := 48) rfl (hb hby d2_39) rfl (feq c39_8).2 (by decide) (by decide) k) ?_
        show own_Go p e below G (s₁.setTop (mkF m 48 #[.val (.ref wa), .val (.int i0), .val (.int n0), .val (.int (wf i0)), .unset, .unset, .unset, .unset, .unset] []))
        refine own_st (fun t k => XS.iloadN X0.here hx rfl (hb hby d2_48) rfl  k) ?_
        show own_Go p e below G (s₁.setTop (mkF m 49 #[.val (.ref wa), .val (.int i0), .val (.int n0), .val (.int (wf i0)), .unset, .unset, .unset, .unset, .unset] [(.int (wf i0))]))
        refine own_st (fun t k => XS.sipush X0.here hx rfl (hb hby d2_49) k) ?_
        show own_Go p e below G (s₁.setTop (mkF m 52 #[.val (.ref wa), .val (.int i0), .val (.int n0), .val (.int (wf i0)), .unset, .unset, .unset, .unset, .unset] [(.int (248 : Int32)), (.int (wf i0))]))
        refine own_st (fun t k => XS.iand X0.here hx rfl (hb hby d2_52) rfl k) ?_
        show own_Go p e below G (s₁.setTop (mkF m 53 #[.val (.ref wa), .val (.int i0), .val (.int n0), .val (.int (wf i0)), .unset, .unset, .unset, .unset, .unset] [(.int ((wf i0) &&& (248 : Int32)))]))
        refine own_st (fun t k => XS.sipush X0.here hx rfl (hb hby d2_53) k) ?_
        show own_Go p e below G (s₁.setTop (mkF m 56 #[.val (.ref wa), .val (.int i0), .val (.int n0), .val (.int (wf i0)), .unset, .unset, .unset, .unset, .unset] [(.int (240 : Int32)), (.int ((wf i0) &&& (248 : Int32)))]))
        by_cases c56_17 : ((wf i0) &&& (248 : Int32)) = (240 : Int32)
        · skip
          refine own_st (fun t k => XS.icmpNo X0.here hx rfl (hb hby d2_56) rfl (teq c56_17).2 k) ?_
          show own_Go p e below G (s₁.setTop (mkF m 59 #[.val (.ref wa), .val (.int i0), .val (.int n0), .val (.int (wf i0)), .unset, .unset, .unset, .unset, .unset] []))
          refine own_st (fun t k => XS.iconst X0.here hx rfl (hb hby d2_59) k) ?_
          show own_Go p e below G (s₁.setTop (mkF m 60 #[.val (.ref wa), .val (.int i0), .val (.int n0), .val (.int (wf i0)), .unset, .unset, .unset, .unset, .unset] [(.int (4 : Int32))]))
          refine own_st (fun t k => XS.istore X0.here hx rfl (hb hby d2_60) rfl (l' := #[.val (.ref wa), .val (.int i0), .val (.int n0), .val (.int (wf i0)), .val (.int (4 : Int32)), .unset, .unset, .unset, .unset]) rfl k) ?_
          show own_Go p e below G (s₁.setTop (mkF m 62 #[.val (.ref wa), .val (.int i0), .val (.int n0), .val (.int (wf i0)), .val (.int (4 : Int32)), .unset, .unset, .unset, .unset] []))
          refine own_st (fun t k => XS.goto X0.here hx rfl (pc0 := 62) (pc' := 67) rfl (hb hby d2_62) (by decide) (by decide) k) ?_
          show own_Go p e below G (s₁.setTop (mkF m 67 #[.val (.ref wa), .val (.int i0), .val (.int n0), .val (.int (wf i0)), .val (.int (4 : Int32)), .unset, .unset, .unset, .unset] []))
          refine own_st (fun t k => XS.iloadN X0.here hx rfl (hb hby d2_67) rfl  k) ?_
          show own_Go p e below G (s₁.setTop (mkF m 68 #[.val (.ref wa), .val (.int i0), .val (.int n0), .val (.int (wf i0)), .val (.int (4 : Int32)), .unset, .unset, .unset, .unset] [(.int n0)]))
          refine own_st (fun t k => XS.iloadN X0.here hx rfl (hb hby d2_68) rfl  k) ?_
          show own_Go p e below G (s₁.setTop (mkF m 69 #[.val (.ref wa), .val (.int i0), .val (.int n0), .val (.int (wf i0)), .val (.int (4 : Int32)), .unset, .unset, .unset, .unset] [(.int i0), (.int n0)]))
          refine own_st (fun t k => XS.isub X0.here hx rfl (hb hby d2_69) rfl k) ?_
          show own_Go p e below G (s₁.setTop (mkF m 70 #[.val (.ref wa), .val (.int i0), .val (.int n0), .val (.int (wf i0)), .val (.int (4 : Int32)), .unset, .unset, .unset, .unset] [(.int (n0 - i0))]))
          refine own_st (fun t k => XS.iload X0.here hx rfl (hb hby d2_70) rfl  k) ?_
          show own_Go p e below G (s₁.setTop (mkF m 72 #[.val (.ref wa), .val (.int i0), .val (.int n0), .val (.int (wf i0)), .val (.int (4 : Int32)), .unset, .unset, .unset, .unset] [(.int (4 : Int32)), (.int (n0 - i0))]))
          by_cases c72_18 : (n0 - i0) < (4 : Int32)
          · skip
            refine own_st (fun t k => XS.icmpNo X0.here hx rfl (hb hby d2_72) rfl (tlt c72_18).2.1 k) ?_
            show own_Go p e below G (s₁.setTop (mkF m 75 #[.val (.ref wa), .val (.int i0), .val (.int n0), .val (.int (wf i0)), .val (.int (4 : Int32)), .unset, .unset, .unset, .unset] []))
            refine own_st (fun t k => XS.iconst X0.here hx rfl (hb hby d2_75) k) ?_
            show own_Go p e below G (s₁.setTop (mkF m 76 #[.val (.ref wa), .val (.int i0), .val (.int n0), .val (.int (wf i0)), .val (.int (4 : Int32)), .unset, .unset, .unset, .unset] [(.int (0 : Int32))]))
            rw [hG]
            exact own_retI X0 hx hlk hret (hb hby d2_76) ⟨congrArg (fun z => some (Value.int z)) (show (0 : Int32) = own_cl (wf i0) (wf (i0 + 1)) (wf (i0 + 2)) (wf (i0 + 3)) (n0 - i0) by unfold own_cl; rw [if_neg c9_2, if_neg c22_3, if_neg c39_8, if_pos c56_17, if_pos c72_18]), rfl, e0⟩ (by decide) (by decide)
          · skip
            refine own_st (fun t k => XS.icmpYes X0.here hx rfl (pc0 := 72) (pc' := 77) rfl (hb hby d2_72) rfl (flt c72_18).2.1 (by decide) (by decide) k) ?_
            show own_Go p e below G (s₁.setTop (mkF m 77 #[.val (.ref wa), .val (.int i0), .val (.int n0), .val (.int (wf i0)), .val (.int (4 : Int32)), .unset, .unset, .unset, .unset] []))
            refine own_st (fun t k => XS.aloadN X0.here hx rfl (hb hby d2_77) rfl rfl  k) ?_
            show own_Go p e below G (s₁.setTop (mkF m 78 #[.val (.ref wa), .val (.int i0), .val (.int n0), .val (.int (wf i0)), .val (.int (4 : Int32)), .unset, .unset, .unset, .unset] [(.ref wa)]))
            refine own_st (fun t k => XS.iloadN X0.here hx rfl (hb hby d2_78) rfl  k) ?_
            show own_Go p e below G (s₁.setTop (mkF m 79 #[.val (.ref wa), .val (.int i0), .val (.int n0), .val (.int (wf i0)), .val (.int (4 : Int32)), .unset, .unset, .unset, .unset] [(.int i0), (.ref wa)]))
            refine own_st (fun t k => XS.iconst X0.here hx rfl (hb hby d2_79) k) ?_
            show own_Go p e below G (s₁.setTop (mkF m 80 #[.val (.ref wa), .val (.int i0), .val (.int n0), .val (.int (wf i0)), .val (.int (4 : Int32)), .unset, .unset, .unset, .unset] [(.int (1 : Int32)), (.int i0), (.ref wa)]))
            refine own_st (fun t k => XS.iadd X0.here hx rfl (hb hby d2_80) rfl k) ?_
            show own_Go p e below G (s₁.setTop (mkF m 81 #[.val (.ref wa), .val (.int i0), .val (.int n0), .val (.int (wf i0)), .val (.int (4 : Int32)), .unset, .unset, .unset, .unset] [(.int (i0 + (1 : Int32))), (.ref wa)]))
            have hb19 := own_bd (n := 4) (own_in hi0 hin0 (Int.le_trans hn0.2 (by decide)) c72_18 (j := (1 : Int32)) (by decide) (by decide) (by decide)) (Int.le_trans hn0.2 (by decide))
            have hin19 := inb_of S0 hb19
            refine own_st (fun t k => X0.iaload hx (j := (i0 + (1 : Int32))) (v := (.int (wf (i0 + (1 : Int32))))) (by rw [e0]; exact Ar0.1) (State.isArrayOf_alike hZ.alike Ar0.2.1) Ar0.2.2 hin19 (hW _ hb19.1 hb19.2) (g := (mkF m 81 #[.val (.ref wa), .val (.int i0), .val (.int n0), .val (.int (wf i0)), .val (.int (4 : Int32)), .unset, .unset, .unset, .unset] [(.int (i0 + (1 : Int32))), (.ref wa)])) rfl rfl (hb hby d2_81) t k) ?_
            show own_Go p e below G (s₁.setTop (mkF m 82 #[.val (.ref wa), .val (.int i0), .val (.int n0), .val (.int (wf i0)), .val (.int (4 : Int32)), .unset, .unset, .unset, .unset] [(.int (wf (i0 + (1 : Int32))))]))
            refine own_st (fun t k => XS.istore X0.here hx rfl (hb hby d2_82) rfl (l' := #[.val (.ref wa), .val (.int i0), .val (.int n0), .val (.int (wf i0)), .val (.int (4 : Int32)), .val (.int (wf (i0 + (1 : Int32)))), .unset, .unset, .unset]) rfl k) ?_
            show own_Go p e below G (s₁.setTop (mkF m 84 #[.val (.ref wa), .val (.int i0), .val (.int n0), .val (.int (wf i0)), .val (.int (4 : Int32)), .val (.int (wf (i0 + (1 : Int32)))), .unset, .unset, .unset] []))
            refine own_st (fun t k => XS.iload X0.here hx rfl (hb hby d2_84) rfl  k) ?_
            show own_Go p e below G (s₁.setTop (mkF m 86 #[.val (.ref wa), .val (.int i0), .val (.int n0), .val (.int (wf i0)), .val (.int (4 : Int32)), .val (.int (wf (i0 + (1 : Int32)))), .unset, .unset, .unset] [(.int (wf (i0 + (1 : Int32))))]))
            refine own_st (fun t k => XS.sipush X0.here hx rfl (hb hby d2_86) k) ?_
            show own_Go p e below G (s₁.setTop (mkF m 89 #[.val (.ref wa), .val (.int i0), .val (.int n0), .val (.int (wf i0)), .val (.int (4 : Int32)), .val (.int (wf (i0 + (1 : Int32)))), .unset, .unset, .unset] [(.int (192 : Int32)), (.int (wf (i0 + (1 : Int32))))]))
            refine own_st (fun t k => XS.iand X0.here hx rfl (hb hby d2_89) rfl k) ?_
            show own_Go p e below G (s₁.setTop (mkF m 90 #[.val (.ref wa), .val (.int i0), .val (.int n0), .val (.int (wf i0)), .val (.int (4 : Int32)), .val (.int (wf (i0 + (1 : Int32)))), .unset, .unset, .unset] [(.int ((wf (i0 + (1 : Int32))) &&& (192 : Int32)))]))
            refine own_st (fun t k => XS.sipush X0.here hx rfl (hb hby d2_90) k) ?_
            show own_Go p e below G (s₁.setTop (mkF m 93 #[.val (.ref wa), .val (.int i0), .val (.int n0), .val (.int (wf i0)), .val (.int (4 : Int32)), .val (.int (wf (i0 + (1 : Int32)))), .unset, .unset, .unset] [(.int (128 : Int32)), (.int ((wf (i0 + (1 : Int32))) &&& (192 : Int32)))]))
            by_cases c93_20 : ((wf (i0 + (1 : Int32))) &&& (192 : Int32)) = (128 : Int32)
            · skip
              refine own_st (fun t k => XS.icmpYes X0.here hx rfl (pc0 := 93) (pc' := 98) rfl (hb hby d2_93) rfl (teq c93_20).1 (by decide) (by decide) k) ?_
              show own_Go p e below G (s₁.setTop (mkF m 98 #[.val (.ref wa), .val (.int i0), .val (.int n0), .val (.int (wf i0)), .val (.int (4 : Int32)), .val (.int (wf (i0 + (1 : Int32)))), .unset, .unset, .unset] []))
              refine own_st (fun t k => XS.iload X0.here hx rfl (hb hby d2_98) rfl  k) ?_
              show own_Go p e below G (s₁.setTop (mkF m 100 #[.val (.ref wa), .val (.int i0), .val (.int n0), .val (.int (wf i0)), .val (.int (4 : Int32)), .val (.int (wf (i0 + (1 : Int32)))), .unset, .unset, .unset] [(.int (4 : Int32))]))
              refine own_st (fun t k => XS.iconst X0.here hx rfl (hb hby d2_100) k) ?_
              show own_Go p e below G (s₁.setTop (mkF m 101 #[.val (.ref wa), .val (.int i0), .val (.int n0), .val (.int (wf i0)), .val (.int (4 : Int32)), .val (.int (wf (i0 + (1 : Int32)))), .unset, .unset, .unset] [(.int (2 : Int32)), (.int (4 : Int32))]))
              refine own_st (fun t k => XS.icmpYes X0.here hx rfl (pc0 := 101) (pc' := 133) rfl (hb hby d2_101) rfl (feq (by decide)).2 (by decide) (by decide) k) ?_
              show own_Go p e below G (s₁.setTop (mkF m 133 #[.val (.ref wa), .val (.int i0), .val (.int n0), .val (.int (wf i0)), .val (.int (4 : Int32)), .val (.int (wf (i0 + (1 : Int32)))), .unset, .unset, .unset] []))
              refine own_st (fun t k => XS.aloadN X0.here hx rfl (hb hby d2_133) rfl rfl  k) ?_
              show own_Go p e below G (s₁.setTop (mkF m 134 #[.val (.ref wa), .val (.int i0), .val (.int n0), .val (.int (wf i0)), .val (.int (4 : Int32)), .val (.int (wf (i0 + (1 : Int32)))), .unset, .unset, .unset] [(.ref wa)]))
              refine own_st (fun t k => XS.iloadN X0.here hx rfl (hb hby d2_134) rfl  k) ?_
              show own_Go p e below G (s₁.setTop (mkF m 135 #[.val (.ref wa), .val (.int i0), .val (.int n0), .val (.int (wf i0)), .val (.int (4 : Int32)), .val (.int (wf (i0 + (1 : Int32)))), .unset, .unset, .unset] [(.int i0), (.ref wa)]))
              refine own_st (fun t k => XS.iconst X0.here hx rfl (hb hby d2_135) k) ?_
              show own_Go p e below G (s₁.setTop (mkF m 136 #[.val (.ref wa), .val (.int i0), .val (.int n0), .val (.int (wf i0)), .val (.int (4 : Int32)), .val (.int (wf (i0 + (1 : Int32)))), .unset, .unset, .unset] [(.int (2 : Int32)), (.int i0), (.ref wa)]))
              refine own_st (fun t k => XS.iadd X0.here hx rfl (hb hby d2_136) rfl k) ?_
              show own_Go p e below G (s₁.setTop (mkF m 137 #[.val (.ref wa), .val (.int i0), .val (.int n0), .val (.int (wf i0)), .val (.int (4 : Int32)), .val (.int (wf (i0 + (1 : Int32)))), .unset, .unset, .unset] [(.int (i0 + (2 : Int32))), (.ref wa)]))
              have hb21 := own_bd (n := 4) (own_in hi0 hin0 (Int.le_trans hn0.2 (by decide)) c72_18 (j := (2 : Int32)) (by decide) (by decide) (by decide)) (Int.le_trans hn0.2 (by decide))
              have hin21 := inb_of S0 hb21
              refine own_st (fun t k => X0.iaload hx (j := (i0 + (2 : Int32))) (v := (.int (wf (i0 + (2 : Int32))))) (by rw [e0]; exact Ar0.1) (State.isArrayOf_alike hZ.alike Ar0.2.1) Ar0.2.2 hin21 (hW _ hb21.1 hb21.2) (g := (mkF m 137 #[.val (.ref wa), .val (.int i0), .val (.int n0), .val (.int (wf i0)), .val (.int (4 : Int32)), .val (.int (wf (i0 + (1 : Int32)))), .unset, .unset, .unset] [(.int (i0 + (2 : Int32))), (.ref wa)])) rfl rfl (hb hby d2_137) t k) ?_
              show own_Go p e below G (s₁.setTop (mkF m 138 #[.val (.ref wa), .val (.int i0), .val (.int n0), .val (.int (wf i0)), .val (.int (4 : Int32)), .val (.int (wf (i0 + (1 : Int32)))), .unset, .unset, .unset] [(.int (wf (i0 + (2 : Int32))))]))
              refine own_st (fun t k => XS.istore X0.here hx rfl (hb hby d2_138) rfl (l' := #[.val (.ref wa), .val (.int i0), .val (.int n0), .val (.int (wf i0)), .val (.int (4 : Int32)), .val (.int (wf (i0 + (1 : Int32)))), .val (.int (wf (i0 + (2 : Int32)))), .unset, .unset]) rfl k) ?_
              show own_Go p e below G (s₁.setTop (mkF m 140 #[.val (.ref wa), .val (.int i0), .val (.int n0), .val (.int (wf i0)), .val (.int (4 : Int32)), .val (.int (wf (i0 + (1 : Int32)))), .val (.int (wf (i0 + (2 : Int32)))), .unset, .unset] []))
              refine own_st (fun t k => XS.iload X0.here hx rfl (hb hby d2_140) rfl  k) ?_
              show own_Go p e below G (s₁.setTop (mkF m 142 #[.val (.ref wa), .val (.int i0), .val (.int n0), .val (.int (wf i0)), .val (.int (4 : Int32)), .val (.int (wf (i0 + (1 : Int32)))), .val (.int (wf (i0 + (2 : Int32)))), .unset, .unset] [(.int (wf (i0 + (2 : Int32))))]))
              refine own_st (fun t k => XS.sipush X0.here hx rfl (hb hby d2_142) k) ?_
              show own_Go p e below G (s₁.setTop (mkF m 145 #[.val (.ref wa), .val (.int i0), .val (.int n0), .val (.int (wf i0)), .val (.int (4 : Int32)), .val (.int (wf (i0 + (1 : Int32)))), .val (.int (wf (i0 + (2 : Int32)))), .unset, .unset] [(.int (192 : Int32)), (.int (wf (i0 + (2 : Int32))))]))
              refine own_st (fun t k => XS.iand X0.here hx rfl (hb hby d2_145) rfl k) ?_
              show own_Go p e below G (s₁.setTop (mkF m 146 #[.val (.ref wa), .val (.int i0), .val (.int n0), .val (.int (wf i0)), .val (.int (4 : Int32)), .val (.int (wf (i0 + (1 : Int32)))), .val (.int (wf (i0 + (2 : Int32)))), .unset, .unset] [(.int ((wf (i0 + (2 : Int32))) &&& (192 : Int32)))]))
              refine own_st (fun t k => XS.sipush X0.here hx rfl (hb hby d2_146) k) ?_
              show own_Go p e below G (s₁.setTop (mkF m 149 #[.val (.ref wa), .val (.int i0), .val (.int n0), .val (.int (wf i0)), .val (.int (4 : Int32)), .val (.int (wf (i0 + (1 : Int32)))), .val (.int (wf (i0 + (2 : Int32)))), .unset, .unset] [(.int (128 : Int32)), (.int ((wf (i0 + (2 : Int32))) &&& (192 : Int32)))]))
              by_cases c149_22 : ((wf (i0 + (2 : Int32))) &&& (192 : Int32)) = (128 : Int32)
              · skip
                refine own_st (fun t k => XS.icmpYes X0.here hx rfl (pc0 := 149) (pc' := 154) rfl (hb hby d2_149) rfl (teq c149_22).1 (by decide) (by decide) k) ?_
                show own_Go p e below G (s₁.setTop (mkF m 154 #[.val (.ref wa), .val (.int i0), .val (.int n0), .val (.int (wf i0)), .val (.int (4 : Int32)), .val (.int (wf (i0 + (1 : Int32)))), .val (.int (wf (i0 + (2 : Int32)))), .unset, .unset] []))
                refine own_st (fun t k => XS.iload X0.here hx rfl (hb hby d2_154) rfl  k) ?_
                show own_Go p e below G (s₁.setTop (mkF m 156 #[.val (.ref wa), .val (.int i0), .val (.int n0), .val (.int (wf i0)), .val (.int (4 : Int32)), .val (.int (wf (i0 + (1 : Int32)))), .val (.int (wf (i0 + (2 : Int32)))), .unset, .unset] [(.int (4 : Int32))]))
                refine own_st (fun t k => XS.iconst X0.here hx rfl (hb hby d2_156) k) ?_
                show own_Go p e below G (s₁.setTop (mkF m 157 #[.val (.ref wa), .val (.int i0), .val (.int n0), .val (.int (wf i0)), .val (.int (4 : Int32)), .val (.int (wf (i0 + (1 : Int32)))), .val (.int (wf (i0 + (2 : Int32)))), .unset, .unset] [(.int (3 : Int32)), (.int (4 : Int32))]))
                refine own_st (fun t k => XS.icmpYes X0.here hx rfl (pc0 := 157) (pc' := 212) rfl (hb hby d2_157) rfl (feq (by decide)).2 (by decide) (by decide) k) ?_
                show own_Go p e below G (s₁.setTop (mkF m 212 #[.val (.ref wa), .val (.int i0), .val (.int n0), .val (.int (wf i0)), .val (.int (4 : Int32)), .val (.int (wf (i0 + (1 : Int32)))), .val (.int (wf (i0 + (2 : Int32)))), .unset, .unset] []))
                refine own_st (fun t k => XS.aloadN X0.here hx rfl (hb hby d2_212) rfl rfl  k) ?_
                show own_Go p e below G (s₁.setTop (mkF m 213 #[.val (.ref wa), .val (.int i0), .val (.int n0), .val (.int (wf i0)), .val (.int (4 : Int32)), .val (.int (wf (i0 + (1 : Int32)))), .val (.int (wf (i0 + (2 : Int32)))), .unset, .unset] [(.ref wa)]))
                refine own_st (fun t k => XS.iloadN X0.here hx rfl (hb hby d2_213) rfl  k) ?_
                show own_Go p e below G (s₁.setTop (mkF m 214 #[.val (.ref wa), .val (.int i0), .val (.int n0), .val (.int (wf i0)), .val (.int (4 : Int32)), .val (.int (wf (i0 + (1 : Int32)))), .val (.int (wf (i0 + (2 : Int32)))), .unset, .unset] [(.int i0), (.ref wa)]))
                refine own_st (fun t k => XS.iconst X0.here hx rfl (hb hby d2_214) k) ?_
                show own_Go p e below G (s₁.setTop (mkF m 215 #[.val (.ref wa), .val (.int i0), .val (.int n0), .val (.int (wf i0)), .val (.int (4 : Int32)), .val (.int (wf (i0 + (1 : Int32)))), .val (.int (wf (i0 + (2 : Int32)))), .unset, .unset] [(.int (3 : Int32)), (.int i0), (.ref wa)]))
                refine own_st (fun t k => XS.iadd X0.here hx rfl (hb hby d2_215) rfl k) ?_
                show own_Go p e below G (s₁.setTop (mkF m 216 #[.val (.ref wa), .val (.int i0), .val (.int n0), .val (.int (wf i0)), .val (.int (4 : Int32)), .val (.int (wf (i0 + (1 : Int32)))), .val (.int (wf (i0 + (2 : Int32)))), .unset, .unset] [(.int (i0 + (3 : Int32))), (.ref wa)]))
                have hb23 := own_bd (n := 4) (own_in hi0 hin0 (Int.le_trans hn0.2 (by decide)) c72_18 (j := (3 : Int32)) (by decide) (by decide) (by decide)) (Int.le_trans hn0.2 (by decide))
                have hin23 := inb_of S0 hb23
                refine own_st (fun t k => X0.iaload hx (j := (i0 + (3 : Int32))) (v := (.int (wf (i0 + (3 : Int32))))) (by rw [e0]; exact Ar0.1) (State.isArrayOf_alike hZ.alike Ar0.2.1) Ar0.2.2 hin23 (hW _ hb23.1 hb23.2) (g := (mkF m 216 #[.val (.ref wa), .val (.int i0), .val (.int n0), .val (.int (wf i0)), .val (.int (4 : Int32)), .val (.int (wf (i0 + (1 : Int32)))), .val (.int (wf (i0 + (2 : Int32)))), .unset, .unset] [(.int (i0 + (3 : Int32))), (.ref wa)])) rfl rfl (hb hby d2_216) t k) ?_
                show own_Go p e below G (s₁.setTop (mkF m 217 #[.val (.ref wa), .val (.int i0), .val (.int n0), .val (.int (wf i0)), .val (.int (4 : Int32)), .val (.int (wf (i0 + (1 : Int32)))), .val (.int (wf (i0 + (2 : Int32)))), .unset, .unset] [(.int (wf (i0 + (3 : Int32))))]))
                refine own_st (fun t k => XS.istore X0.here hx rfl (hb hby d2_217) rfl (l' := #[.val (.ref wa), .val (.int i0), .val (.int n0), .val (.int (wf i0)), .val (.int (4 : Int32)), .val (.int (wf (i0 + (1 : Int32)))), .val (.int (wf (i0 + (2 : Int32)))), .val (.int (wf (i0 + (3 : Int32)))), .unset]) rfl k) ?_
                show own_Go p e below G (s₁.setTop (mkF m 219 #[.val (.ref wa), .val (.int i0), .val (.int n0), .val (.int (wf i0)), .val (.int (4 : Int32)), .val (.int (wf (i0 + (1 : Int32)))), .val (.int (wf (i0 + (2 : Int32)))), .val (.int (wf (i0 + (3 : Int32)))), .unset] []))
                refine own_st (fun t k => XS.iload X0.here hx rfl (hb hby d2_219) rfl  k) ?_
                show own_Go p e below G (s₁.setTop (mkF m 221 #[.val (.ref wa), .val (.int i0), .val (.int n0), .val (.int (wf i0)), .val (.int (4 : Int32)), .val (.int (wf (i0 + (1 : Int32)))), .val (.int (wf (i0 + (2 : Int32)))), .val (.int (wf (i0 + (3 : Int32)))), .unset] [(.int (wf (i0 + (3 : Int32))))]))
                refine own_st (fun t k => XS.sipush X0.here hx rfl (hb hby d2_221) k) ?_
                show own_Go p e below G (s₁.setTop (mkF m 224 #[.val (.ref wa), .val (.int i0), .val (.int n0), .val (.int (wf i0)), .val (.int (4 : Int32)), .val (.int (wf (i0 + (1 : Int32)))), .val (.int (wf (i0 + (2 : Int32)))), .val (.int (wf (i0 + (3 : Int32)))), .unset] [(.int (192 : Int32)), (.int (wf (i0 + (3 : Int32))))]))
                refine own_st (fun t k => XS.iand X0.here hx rfl (hb hby d2_224) rfl k) ?_
                show own_Go p e below G (s₁.setTop (mkF m 225 #[.val (.ref wa), .val (.int i0), .val (.int n0), .val (.int (wf i0)), .val (.int (4 : Int32)), .val (.int (wf (i0 + (1 : Int32)))), .val (.int (wf (i0 + (2 : Int32)))), .val (.int (wf (i0 + (3 : Int32)))), .unset] [(.int ((wf (i0 + (3 : Int32))) &&& (192 : Int32)))]))
                refine own_st (fun t k => XS.sipush X0.here hx rfl (hb hby d2_225) k) ?_
                show own_Go p e below G (s₁.setTop (mkF m 228 #[.val (.ref wa), .val (.int i0), .val (.int n0), .val (.int (wf i0)), .val (.int (4 : Int32)), .val (.int (wf (i0 + (1 : Int32)))), .val (.int (wf (i0 + (2 : Int32)))), .val (.int (wf (i0 + (3 : Int32)))), .unset] [(.int (128 : Int32)), (.int ((wf (i0 + (3 : Int32))) &&& (192 : Int32)))]))
                by_cases c228_24 : ((wf (i0 + (3 : Int32))) &&& (192 : Int32)) = (128 : Int32)
                · skip
                  refine own_st (fun t k => XS.icmpYes X0.here hx rfl (pc0 := 228) (pc' := 233) rfl (hb hby d2_228) rfl (teq c228_24).1 (by decide) (by decide) k) ?_
                  show own_Go p e below G (s₁.setTop (mkF m 233 #[.val (.ref wa), .val (.int i0), .val (.int n0), .val (.int (wf i0)), .val (.int (4 : Int32)), .val (.int (wf (i0 + (1 : Int32)))), .val (.int (wf (i0 + (2 : Int32)))), .val (.int (wf (i0 + (3 : Int32)))), .unset] []))
                  refine own_st (fun t k => XS.iloadN X0.here hx rfl (hb hby d2_233) rfl  k) ?_
                  show own_Go p e below G (s₁.setTop (mkF m 234 #[.val (.ref wa), .val (.int i0), .val (.int n0), .val (.int (wf i0)), .val (.int (4 : Int32)), .val (.int (wf (i0 + (1 : Int32)))), .val (.int (wf (i0 + (2 : Int32)))), .val (.int (wf (i0 + (3 : Int32)))), .unset] [(.int (wf i0))]))
                  refine own_st (fun t k => XS.bipush X0.here hx rfl (hb hby d2_234) k) ?_
                  show own_Go p e below G (s₁.setTop (mkF m 236 #[.val (.ref wa), .val (.int i0), .val (.int n0), .val (.int (wf i0)), .val (.int (4 : Int32)), .val (.int (wf (i0 + (1 : Int32)))), .val (.int (wf (i0 + (2 : Int32)))), .val (.int (wf (i0 + (3 : Int32)))), .unset] [(.int (7 : Int32)), (.int (wf i0))]))
                  refine own_st (fun t k => XS.iand X0.here hx rfl (hb hby d2_236) rfl k) ?_
                  show own_Go p e below G (s₁.setTop (mkF m 237 #[.val (.ref wa), .val (.int i0), .val (.int n0), .val (.int (wf i0)), .val (.int (4 : Int32)), .val (.int (wf (i0 + (1 : Int32)))), .val (.int (wf (i0 + (2 : Int32)))), .val (.int (wf (i0 + (3 : Int32)))), .unset] [(.int ((wf i0) &&& (7 : Int32)))]))
                  refine own_st (fun t k => XS.bipush X0.here hx rfl (hb hby d2_237) k) ?_
                  show own_Go p e below G (s₁.setTop (mkF m 239 #[.val (.ref wa), .val (.int i0), .val (.int n0), .val (.int (wf i0)), .val (.int (4 : Int32)), .val (.int (wf (i0 + (1 : Int32)))), .val (.int (wf (i0 + (2 : Int32)))), .val (.int (wf (i0 + (3 : Int32)))), .unset] [(.int (18 : Int32)), (.int ((wf i0) &&& (7 : Int32)))]))
                  refine own_st (fun t k => XS.ishl X0.here hx rfl (hb hby d2_239) rfl k) ?_
                  show own_Go p e below G (s₁.setTop (mkF m 240 #[.val (.ref wa), .val (.int i0), .val (.int n0), .val (.int (wf i0)), .val (.int (4 : Int32)), .val (.int (wf (i0 + (1 : Int32)))), .val (.int (wf (i0 + (2 : Int32)))), .val (.int (wf (i0 + (3 : Int32)))), .unset] [(.int (((wf i0) &&& (7 : Int32)) <<< ((18 : Int32) &&& 31)))]))
                  refine own_st (fun t k => XS.iload X0.here hx rfl (hb hby d2_240) rfl  k) ?_
                  show own_Go p e below G (s₁.setTop (mkF m 242 #[.val (.ref wa), .val (.int i0), .val (.int n0), .val (.int (wf i0)), .val (.int (4 : Int32)), .val (.int (wf (i0 + (1 : Int32)))), .val (.int (wf (i0 + (2 : Int32)))), .val (.int (wf (i0 + (3 : Int32)))), .unset] [(.int (wf (i0 + (1 : Int32)))), (.int (((wf i0) &&& (7 : Int32)) <<< ((18 : Int32) &&& 31)))]))
                  refine own_st (fun t k => XS.bipush X0.here hx rfl (hb hby d2_242) k) ?_
                  show own_Go p e below G (s₁.setTop (mkF m 244 #[.val (.ref wa), .val (.int i0), .val (.int n0), .val (.int (wf i0)), .val (.int (4 : Int32)), .val (.int (wf (i0 + (1 : Int32)))), .val (.int (wf (i0 + (2 : Int32)))), .val (.int (wf (i0 + (3 : Int32)))), .unset] [(.int (63 : Int32)), (.int (wf (i0 + (1 : Int32)))), (.int (((wf i0) &&& (7 : Int32)) <<< ((18 : Int32) &&& 31)))]))
                  refine own_st (fun t k => XS.iand X0.here hx rfl (hb hby d2_244) rfl k) ?_
                  show own_Go p e below G (s₁.setTop (mkF m 245 #[.val (.ref wa), .val (.int i0), .val (.int n0), .val (.int (wf i0)), .val (.int (4 : Int32)), .val (.int (wf (i0 + (1 : Int32)))), .val (.int (wf (i0 + (2 : Int32)))), .val (.int (wf (i0 + (3 : Int32)))), .unset] [(.int ((wf (i0 + (1 : Int32))) &&& (63 : Int32))), (.int (((wf i0) &&& (7 : Int32)) <<< ((18 : Int32) &&& 31)))]))
                  refine own_st (fun t k => XS.bipush X0.here hx rfl (hb hby d2_245) k) ?_
                  show own_Go p e below G (s₁.setTop (mkF m 247 #[.val (.ref wa), .val (.int i0), .val (.int n0), .val (.int (wf i0)), .val (.int (4 : Int32)), .val (.int (wf (i0 + (1 : Int32)))), .val (.int (wf (i0 + (2 : Int32)))), .val (.int (wf (i0 + (3 : Int32)))), .unset] [(.int (12 : Int32)), (.int ((wf (i0 + (1 : Int32))) &&& (63 : Int32))), (.int (((wf i0) &&& (7 : Int32)) <<< ((18 : Int32) &&& 31)))]))
                  refine own_st (fun t k => XS.ishl X0.here hx rfl (hb hby d2_247) rfl k) ?_
                  show own_Go p e below G (s₁.setTop (mkF m 248 #[.val (.ref wa), .val (.int i0), .val (.int n0), .val (.int (wf i0)), .val (.int (4 : Int32)), .val (.int (wf (i0 + (1 : Int32)))), .val (.int (wf (i0 + (2 : Int32)))), .val (.int (wf (i0 + (3 : Int32)))), .unset] [(.int (((wf (i0 + (1 : Int32))) &&& (63 : Int32)) <<< ((12 : Int32) &&& 31))), (.int (((wf i0) &&& (7 : Int32)) <<< ((18 : Int32) &&& 31)))]))
                  refine own_st (fun t k => XS.ior X0.here hx rfl (hb hby d2_248) rfl k) ?_
                  show own_Go p e below G (s₁.setTop (mkF m 249 #[.val (.ref wa), .val (.int i0), .val (.int n0), .val (.int (wf i0)), .val (.int (4 : Int32)), .val (.int (wf (i0 + (1 : Int32)))), .val (.int (wf (i0 + (2 : Int32)))), .val (.int (wf (i0 + (3 : Int32)))), .unset] [(.int ((((wf i0) &&& (7 : Int32)) <<< ((18 : Int32) &&& 31)) ||| (((wf (i0 + (1 : Int32))) &&& (63 : Int32)) <<< ((12 : Int32) &&& 31))))]))
                  refine own_st (fun t k => XS.iload X0.here hx rfl (hb hby d2_249) rfl  k) ?_
                  show own_Go p e below G (s₁.setTop (mkF m 251 #[.val (.ref wa), .val (.int i0), .val (.int n0), .val (.int (wf i0)), .val (.int (4 : Int32)), .val (.int (wf (i0 + (1 : Int32)))), .val (.int (wf (i0 + (2 : Int32)))), .val (.int (wf (i0 + (3 : Int32)))), .unset] [(.int (wf (i0 + (2 : Int32)))), (.int ((((wf i0) &&& (7 : Int32)) <<< ((18 : Int32) &&& 31)) ||| (((wf (i0 + (1 : Int32))) &&& (63 : Int32)) <<< ((12 : Int32) &&& 31))))]))
                  refine own_st (fun t k => XS.bipush X0.here hx rfl (hb hby d2_251) k) ?_
                  show own_Go p e below G (s₁.setTop (mkF m 253 #[.val (.ref wa), .val (.int i0), .val (.int n0), .val (.int (wf i0)), .val (.int (4 : Int32)), .val (.int (wf (i0 + (1 : Int32)))), .val (.int (wf (i0 + (2 : Int32)))), .val (.int (wf (i0 + (3 : Int32)))), .unset] [(.int (63 : Int32)), (.int (wf (i0 + (2 : Int32)))), (.int ((((wf i0) &&& (7 : Int32)) <<< ((18 : Int32) &&& 31)) ||| (((wf (i0 + (1 : Int32))) &&& (63 : Int32)) <<< ((12 : Int32) &&& 31))))]))
                  refine own_st (fun t k => XS.iand X0.here hx rfl (hb hby d2_253) rfl k) ?_
                  show own_Go p e below G (s₁.setTop (mkF m 254 #[.val (.ref wa), .val (.int i0), .val (.int n0), .val (.int (wf i0)), .val (.int (4 : Int32)), .val (.int (wf (i0 + (1 : Int32)))), .val (.int (wf (i0 + (2 : Int32)))), .val (.int (wf (i0 + (3 : Int32)))), .unset] [(.int ((wf (i0 + (2 : Int32))) &&& (63 : Int32))), (.int ((((wf i0) &&& (7 : Int32)) <<< ((18 : Int32) &&& 31)) ||| (((wf (i0 + (1 : Int32))) &&& (63 : Int32)) <<< ((12 : Int32) &&& 31))))]))
                  refine own_st (fun t k => XS.bipush X0.here hx rfl (hb hby d2_254) k) ?_
                  show own_Go p e below G (s₁.setTop (mkF m 256 #[.val (.ref wa), .val (.int i0), .val (.int n0), .val (.int (wf i0)), .val (.int (4 : Int32)), .val (.int (wf (i0 + (1 : Int32)))), .val (.int (wf (i0 + (2 : Int32)))), .val (.int (wf (i0 + (3 : Int32)))), .unset] [(.int (6 : Int32)), (.int ((wf (i0 + (2 : Int32))) &&& (63 : Int32))), (.int ((((wf i0) &&& (7 : Int32)) <<< ((18 : Int32) &&& 31)) ||| (((wf (i0 + (1 : Int32))) &&& (63 : Int32)) <<< ((12 : Int32) &&& 31))))]))
                  refine own_st (fun t k => XS.ishl X0.here hx rfl (hb hby d2_256) rfl k) ?_
                  show own_Go p e below G (s₁.setTop (mkF m 257 #[.val (.ref wa), .val (.int i0), .val (.int n0), .val (.int (wf i0)), .val (.int (4 : Int32)), .val (.int (wf (i0 + (1 : Int32)))), .val (.int (wf (i0 + (2 : Int32)))), .val (.int (wf (i0 + (3 : Int32)))), .unset] [(.int (((wf (i0 + (2 : Int32))) &&& (63 : Int32)) <<< ((6 : Int32) &&& 31))), (.int ((((wf i0) &&& (7 : Int32)) <<< ((18 : Int32) &&& 31)) ||| (((wf (i0 + (1 : Int32))) &&& (63 : Int32)) <<< ((12 : Int32) &&& 31))))]))
                  refine own_st (fun t k => XS.ior X0.here hx rfl (hb hby d2_257) rfl k) ?_
                  show own_Go p e below G (s₁.setTop (mkF m 258 #[.val (.ref wa), .val (.int i0), .val (.int n0), .val (.int (wf i0)), .val (.int (4 : Int32)), .val (.int (wf (i0 + (1 : Int32)))), .val (.int (wf (i0 + (2 : Int32)))), .val (.int (wf (i0 + (3 : Int32)))), .unset] [(.int (((((wf i0) &&& (7 : Int32)) <<< ((18 : Int32) &&& 31)) ||| (((wf (i0 + (1 : Int32))) &&& (63 : Int32)) <<< ((12 : Int32) &&& 31))) ||| (((wf (i0 + (2 : Int32))) &&& (63 : Int32)) <<< ((6 : Int32) &&& 31))))]))
                  refine own_st (fun t k => XS.iload X0.here hx rfl (hb hby d2_258) rfl  k) ?_
                  show own_Go p e below G (s₁.setTop (mkF m 260 #[.val (.ref wa), .val (.int i0), .val (.int n0), .val (.int (wf i0)), .val (.int (4 : Int32)), .val (.int (wf (i0 + (1 : Int32)))), .val (.int (wf (i0 + (2 : Int32)))), .val (.int (wf (i0 + (3 : Int32)))), .unset] [(.int (wf (i0 + (3 : Int32)))), (.int (((((wf i0) &&& (7 : Int32)) <<< ((18 : Int32) &&& 31)) ||| (((wf (i0 + (1 : Int32))) &&& (63 : Int32)) <<< ((12 : Int32) &&& 31))) ||| (((wf (i0 + (2 : Int32))) &&& (63 : Int32)) <<< ((6 : Int32) &&& 31))))]))
                  refine own_st (fun t k => XS.bipush X0.here hx rfl (hb hby d2_260) k) ?_
                  show own_Go p e below G (s₁.setTop (mkF m 262 #[.val (.ref wa), .val (.int i0), .val (.int n0), .val (.int (wf i0)), .val (.int (4 : Int32)), .val (.int (wf (i0 + (1 : Int32)))), .val (.int (wf (i0 + (2 : Int32)))), .val (.int (wf (i0 + (3 : Int32)))), .unset] [(.int (63 : Int32)), (.int (wf (i0 + (3 : Int32)))), (.int (((((wf i0) &&& (7 : Int32)) <<< ((18 : Int32) &&& 31)) ||| (((wf (i0 + (1 : Int32))) &&& (63 : Int32)) <<< ((12 : Int32) &&& 31))) ||| (((wf (i0 + (2 : Int32))) &&& (63 : Int32)) <<< ((6 : Int32) &&& 31))))]))
                  refine own_st (fun t k => XS.iand X0.here hx rfl (hb hby d2_262) rfl k) ?_
                  show own_Go p e below G (s₁.setTop (mkF m 263 #[.val (.ref wa), .val (.int i0), .val (.int n0), .val (.int (wf i0)), .val (.int (4 : Int32)), .val (.int (wf (i0 + (1 : Int32)))), .val (.int (wf (i0 + (2 : Int32)))), .val (.int (wf (i0 + (3 : Int32)))), .unset] [(.int ((wf (i0 + (3 : Int32))) &&& (63 : Int32))), (.int (((((wf i0) &&& (7 : Int32)) <<< ((18 : Int32) &&& 31)) ||| (((wf (i0 + (1 : Int32))) &&& (63 : Int32)) <<< ((12 : Int32) &&& 31))) ||| (((wf (i0 + (2 : Int32))) &&& (63 : Int32)) <<< ((6 : Int32) &&& 31))))]))
                  refine own_st (fun t k => XS.ior X0.here hx rfl (hb hby d2_263) rfl k) ?_
                  show own_Go p e below G (s₁.setTop (mkF m 264 #[.val (.ref wa), .val (.int i0), .val (.int n0), .val (.int (wf i0)), .val (.int (4 : Int32)), .val (.int (wf (i0 + (1 : Int32)))), .val (.int (wf (i0 + (2 : Int32)))), .val (.int (wf (i0 + (3 : Int32)))), .unset] [(.int ((((((wf i0) &&& (7 : Int32)) <<< ((18 : Int32) &&& 31)) ||| (((wf (i0 + (1 : Int32))) &&& (63 : Int32)) <<< ((12 : Int32) &&& 31))) ||| (((wf (i0 + (2 : Int32))) &&& (63 : Int32)) <<< ((6 : Int32) &&& 31))) ||| ((wf (i0 + (3 : Int32))) &&& (63 : Int32))))]))
                  refine own_st (fun t k => XS.istore X0.here hx rfl (hb hby d2_264) rfl (l' := #[.val (.ref wa), .val (.int i0), .val (.int n0), .val (.int (wf i0)), .val (.int (4 : Int32)), .val (.int (wf (i0 + (1 : Int32)))), .val (.int (wf (i0 + (2 : Int32)))), .val (.int (wf (i0 + (3 : Int32)))), .val (.int ((((((wf i0) &&& (7 : Int32)) <<< ((18 : Int32) &&& 31)) ||| (((wf (i0 + (1 : Int32))) &&& (63 : Int32)) <<< ((12 : Int32) &&& 31))) ||| (((wf (i0 + (2 : Int32))) &&& (63 : Int32)) <<< ((6 : Int32) &&& 31))) ||| ((wf (i0 + (3 : Int32))) &&& (63 : Int32))))]) rfl k) ?_
                  show own_Go p e below G (s₁.setTop (mkF m 266 #[.val (.ref wa), .val (.int i0), .val (.int n0), .val (.int (wf i0)), .val (.int (4 : Int32)), .val (.int (wf (i0 + (1 : Int32)))), .val (.int (wf (i0 + (2 : Int32)))), .val (.int (wf (i0 + (3 : Int32)))), .val (.int ((((((wf i0) &&& (7 : Int32)) <<< ((18 : Int32) &&& 31)) ||| (((wf (i0 + (1 : Int32))) &&& (63 : Int32)) <<< ((12 : Int32) &&& 31))) ||| (((wf (i0 + (2 : Int32))) &&& (63 : Int32)) <<< ((6 : Int32) &&& 31))) ||| ((wf (i0 + (3 : Int32))) &&& (63 : Int32))))] []))
                  refine own_st (fun t k => XS.iload X0.here hx rfl (hb hby d2_266) rfl  k) ?_
                  show own_Go p e below G (s₁.setTop (mkF m 268 #[.val (.ref wa), .val (.int i0), .val (.int n0), .val (.int (wf i0)), .val (.int (4 : Int32)), .val (.int (wf (i0 + (1 : Int32)))), .val (.int (wf (i0 + (2 : Int32)))), .val (.int (wf (i0 + (3 : Int32)))), .val (.int ((((((wf i0) &&& (7 : Int32)) <<< ((18 : Int32) &&& 31)) ||| (((wf (i0 + (1 : Int32))) &&& (63 : Int32)) <<< ((12 : Int32) &&& 31))) ||| (((wf (i0 + (2 : Int32))) &&& (63 : Int32)) <<< ((6 : Int32) &&& 31))) ||| ((wf (i0 + (3 : Int32))) &&& (63 : Int32))))] [(.int ((((((wf i0) &&& (7 : Int32)) <<< ((18 : Int32) &&& 31)) ||| (((wf (i0 + (1 : Int32))) &&& (63 : Int32)) <<< ((12 : Int32) &&& 31))) ||| (((wf (i0 + (2 : Int32))) &&& (63 : Int32)) <<< ((6 : Int32) &&& 31))) ||| ((wf (i0 + (3 : Int32))) &&& (63 : Int32))))]))
                  refine own_st (fun t k => X0.ldcInt hx hown (mvT hZ (hw _ (List.mem_of_getElem? (i := 16) rfl))) (g := (mkF m 268 #[.val (.ref wa), .val (.int i0), .val (.int n0), .val (.int (wf i0)), .val (.int (4 : Int32)), .val (.int (wf (i0 + (1 : Int32)))), .val (.int (wf (i0 + (2 : Int32)))), .val (.int (wf (i0 + (3 : Int32)))), .val (.int ((((((wf i0) &&& (7 : Int32)) <<< ((18 : Int32) &&& 31)) ||| (((wf (i0 + (1 : Int32))) &&& (63 : Int32)) <<< ((12 : Int32) &&& 31))) ||| (((wf (i0 + (2 : Int32))) &&& (63 : Int32)) <<< ((6 : Int32) &&& 31))) ||| ((wf (i0 + (3 : Int32))) &&& (63 : Int32))))] [(.int ((((((wf i0) &&& (7 : Int32)) <<< ((18 : Int32) &&& 31)) ||| (((wf (i0 + (1 : Int32))) &&& (63 : Int32)) <<< ((12 : Int32) &&& 31))) ||| (((wf (i0 + (2 : Int32))) &&& (63 : Int32)) <<< ((6 : Int32) &&& 31))) ||| ((wf (i0 + (3 : Int32))) &&& (63 : Int32))))])) rfl (hb hby d2_268) t k) ?_
                  show own_Go p e below G (s₁.setTop (mkF m 270 #[.val (.ref wa), .val (.int i0), .val (.int n0), .val (.int (wf i0)), .val (.int (4 : Int32)), .val (.int (wf (i0 + (1 : Int32)))), .val (.int (wf (i0 + (2 : Int32)))), .val (.int (wf (i0 + (3 : Int32)))), .val (.int ((((((wf i0) &&& (7 : Int32)) <<< ((18 : Int32) &&& 31)) ||| (((wf (i0 + (1 : Int32))) &&& (63 : Int32)) <<< ((12 : Int32) &&& 31))) ||| (((wf (i0 + (2 : Int32))) &&& (63 : Int32)) <<< ((6 : Int32) &&& 31))) ||| ((wf (i0 + (3 : Int32))) &&& (63 : Int32))))] [(.int (65536 : Int32)), (.int ((((((wf i0) &&& (7 : Int32)) <<< ((18 : Int32) &&& 31)) ||| (((wf (i0 + (1 : Int32))) &&& (63 : Int32)) <<< ((12 : Int32) &&& 31))) ||| (((wf (i0 + (2 : Int32))) &&& (63 : Int32)) <<< ((6 : Int32) &&& 31))) ||| ((wf (i0 + (3 : Int32))) &&& (63 : Int32))))]))
                  by_cases c270_25 : ((((((wf i0) &&& (7 : Int32)) <<< ((18 : Int32) &&& 31)) ||| (((wf (i0 + (1 : Int32))) &&& (63 : Int32)) <<< ((12 : Int32) &&& 31))) ||| (((wf (i0 + (2 : Int32))) &&& (63 : Int32)) <<< ((6 : Int32) &&& 31))) ||| ((wf (i0 + (3 : Int32))) &&& (63 : Int32))) < (65536 : Int32)
                  · skip
                    refine own_st (fun t k => XS.icmpYes X0.here hx rfl (pc0 := 270) (pc' := 284) rfl (hb hby d2_270) rfl (tlt c270_25).1 (by decide) (by decide) k) ?_
                    show own_Go p e below G (s₁.setTop (mkF m 284 #[.val (.ref wa), .val (.int i0), .val (.int n0), .val (.int (wf i0)), .val (.int (4 : Int32)), .val (.int (wf (i0 + (1 : Int32)))), .val (.int (wf (i0 + (2 : Int32)))), .val (.int (wf (i0 + (3 : Int32)))), .val (.int ((((((wf i0) &&& (7 : Int32)) <<< ((18 : Int32) &&& 31)) ||| (((wf (i0 + (1 : Int32))) &&& (63 : Int32)) <<< ((12 : Int32) &&& 31))) ||| (((wf (i0 + (2 : Int32))) &&& (63 : Int32)) <<< ((6 : Int32) &&& 31))) ||| ((wf (i0 + (3 : Int32))) &&& (63 : Int32))))] []))
                    refine own_st (fun t k => XS.iconst X0.here hx rfl (hb hby d2_284) k) ?_
                    show own_Go p e below G (s₁.setTop (mkF m 285 #[.val (.ref wa), .val (.int i0), .val (.int n0), .val (.int (wf i0)), .val (.int (4 : Int32)), .val (.int (wf (i0 + (1 : Int32)))), .val (.int (wf (i0 + (2 : Int32)))), .val (.int (wf (i0 + (3 : Int32)))), .val (.int ((((((wf i0) &&& (7 : Int32)) <<< ((18 : Int32) &&& 31)) ||| (((wf (i0 + (1 : Int32))) &&& (63 : Int32)) <<< ((12 : Int32) &&& 31))) ||| (((wf (i0 + (2 : Int32))) &&& (63 : Int32)) <<< ((6 : Int32) &&& 31))) ||| ((wf (i0 + (3 : Int32))) &&& (63 : Int32))))] [(.int (0 : Int32))]))
                    rw [hG]
                    exact own_retI X0 hx hlk hret (hb hby d2_285) ⟨congrArg (fun z => some (Value.int z)) (show (0 : Int32) = own_cl (wf i0) (wf (i0 + 1)) (wf (i0 + 2)) (wf (i0 + 3)) (n0 - i0) by unfold own_cl; rw [if_neg c9_2, if_neg c22_3, if_neg c39_8, if_pos c56_17, if_neg c72_18, if_pos c93_20, if_pos c149_22, if_pos c228_24, if_pos c270_25]), rfl, e0⟩ (by decide) (by decide)
                  · skip
                    refine own_st (fun t k => XS.icmpNo X0.here hx rfl (hb hby d2_270) rfl (flt c270_25).1 k) ?_
                    show own_Go p e below G (s₁.setTop (mkF m 273 #[.val (.ref wa), .val (.int i0), .val (.int n0), .val (.int (wf i0)), .val (.int (4 : Int32)), .val (.int (wf (i0 + (1 : Int32)))), .val (.int (wf (i0 + (2 : Int32)))), .val (.int (wf (i0 + (3 : Int32)))), .val (.int ((((((wf i0) &&& (7 : Int32)) <<< ((18 : Int32) &&& 31)) ||| (((wf (i0 + (1 : Int32))) &&& (63 : Int32)) <<< ((12 : Int32) &&& 31))) ||| (((wf (i0 + (2 : Int32))) &&& (63 : Int32)) <<< ((6 : Int32) &&& 31))) ||| ((wf (i0 + (3 : Int32))) &&& (63 : Int32))))] []))
                    refine own_st (fun t k => XS.iload X0.here hx rfl (hb hby d2_273) rfl  k) ?_
                    show own_Go p e below G (s₁.setTop (mkF m 275 #[.val (.ref wa), .val (.int i0), .val (.int n0), .val (.int (wf i0)), .val (.int (4 : Int32)), .val (.int (wf (i0 + (1 : Int32)))), .val (.int (wf (i0 + (2 : Int32)))), .val (.int (wf (i0 + (3 : Int32)))), .val (.int ((((((wf i0) &&& (7 : Int32)) <<< ((18 : Int32) &&& 31)) ||| (((wf (i0 + (1 : Int32))) &&& (63 : Int32)) <<< ((12 : Int32) &&& 31))) ||| (((wf (i0 + (2 : Int32))) &&& (63 : Int32)) <<< ((6 : Int32) &&& 31))) ||| ((wf (i0 + (3 : Int32))) &&& (63 : Int32))))] [(.int ((((((wf i0) &&& (7 : Int32)) <<< ((18 : Int32) &&& 31)) ||| (((wf (i0 + (1 : Int32))) &&& (63 : Int32)) <<< ((12 : Int32) &&& 31))) ||| (((wf (i0 + (2 : Int32))) &&& (63 : Int32)) <<< ((6 : Int32) &&& 31))) ||| ((wf (i0 + (3 : Int32))) &&& (63 : Int32))))]))
                    refine own_st (fun t k => X0.ldcInt hx hown (mvT hZ (hw _ (List.mem_of_getElem? (i := 17) rfl))) (g := (mkF m 275 #[.val (.ref wa), .val (.int i0), .val (.int n0), .val (.int (wf i0)), .val (.int (4 : Int32)), .val (.int (wf (i0 + (1 : Int32)))), .val (.int (wf (i0 + (2 : Int32)))), .val (.int (wf (i0 + (3 : Int32)))), .val (.int ((((((wf i0) &&& (7 : Int32)) <<< ((18 : Int32) &&& 31)) ||| (((wf (i0 + (1 : Int32))) &&& (63 : Int32)) <<< ((12 : Int32) &&& 31))) ||| (((wf (i0 + (2 : Int32))) &&& (63 : Int32)) <<< ((6 : Int32) &&& 31))) ||| ((wf (i0 + (3 : Int32))) &&& (63 : Int32))))] [(.int ((((((wf i0) &&& (7 : Int32)) <<< ((18 : Int32) &&& 31)) ||| (((wf (i0 + (1 : Int32))) &&& (63 : Int32)) <<< ((12 : Int32) &&& 31))) ||| (((wf (i0 + (2 : Int32))) &&& (63 : Int32)) <<< ((6 : Int32) &&& 31))) ||| ((wf (i0 + (3 : Int32))) &&& (63 : Int32))))])) rfl (hb hby d2_275) t k) ?_
                    show own_Go p e below G (s₁.setTop (mkF m 277 #[.val (.ref wa), .val (.int i0), .val (.int n0), .val (.int (wf i0)), .val (.int (4 : Int32)), .val (.int (wf (i0 + (1 : Int32)))), .val (.int (wf (i0 + (2 : Int32)))), .val (.int (wf (i0 + (3 : Int32)))), .val (.int ((((((wf i0) &&& (7 : Int32)) <<< ((18 : Int32) &&& 31)) ||| (((wf (i0 + (1 : Int32))) &&& (63 : Int32)) <<< ((12 : Int32) &&& 31))) ||| (((wf (i0 + (2 : Int32))) &&& (63 : Int32)) <<< ((6 : Int32) &&& 31))) ||| ((wf (i0 + (3 : Int32))) &&& (63 : Int32))))] [(.int (1114111 : Int32)), (.int ((((((wf i0) &&& (7 : Int32)) <<< ((18 : Int32) &&& 31)) ||| (((wf (i0 + (1 : Int32))) &&& (63 : Int32)) <<< ((12 : Int32) &&& 31))) ||| (((wf (i0 + (2 : Int32))) &&& (63 : Int32)) <<< ((6 : Int32) &&& 31))) ||| ((wf (i0 + (3 : Int32))) &&& (63 : Int32))))]))
                    by_cases c277_26 : (1114111 : Int32) < ((((((wf i0) &&& (7 : Int32)) <<< ((18 : Int32) &&& 31)) ||| (((wf (i0 + (1 : Int32))) &&& (63 : Int32)) <<< ((12 : Int32) &&& 31))) ||| (((wf (i0 + (2 : Int32))) &&& (63 : Int32)) <<< ((6 : Int32) &&& 31))) ||| ((wf (i0 + (3 : Int32))) &&& (63 : Int32)))
                    · skip
                      refine own_st (fun t k => XS.icmpYes X0.here hx rfl (pc0 := 277) (pc' := 284) rfl (hb hby d2_277) rfl (tlt c277_26).2.2.1 (by decide) (by decide) k) ?_
                      show own_Go p e below G (s₁.setTop (mkF m 284 #[.val (.ref wa), .val (.int i0), .val (.int n0), .val (.int (wf i0)), .val (.int (4 : Int32)), .val (.int (wf (i0 + (1 : Int32)))), .val (.int (wf (i0 + (2 : Int32)))), .val (.int (wf (i0 + (3 : Int32)))), .val (.int ((((((wf i0) &&& (7 : Int32)) <<< ((18 : Int32) &&& 31)) ||| (((wf (i0 + (1 : Int32))) &&& (63 : Int32)) <<< ((12 : Int32) &&& 31))) ||| (((wf (i0 + (2 : Int32))) &&& (63 : Int32)) <<< ((6 : Int32) &&& 31))) ||| ((wf (i0 + (3 : Int32))) &&& (63 : Int32))))] []))
                      refine own_st (fun t k => XS.iconst X0.here hx rfl (hb hby d2_284) k) ?_
                      show own_Go p e below G (s₁.setTop (mkF m 285 #[.val (.ref wa), .val (.int i0), .val (.int n0), .val (.int (wf i0)), .val (.int (4 : Int32)), .val (.int (wf (i0 + (1 : Int32)))), .val (.int (wf (i0 + (2 : Int32)))), .val (.int (wf (i0 + (3 : Int32)))), .val (.int ((((((wf i0) &&& (7 : Int32)) <<< ((18 : Int32) &&& 31)) ||| (((wf (i0 + (1 : Int32))) &&& (63 : Int32)) <<< ((12 : Int32) &&& 31))) ||| (((wf (i0 + (2 : Int32))) &&& (63 : Int32)) <<< ((6 : Int32) &&& 31))) ||| ((wf (i0 + (3 : Int32))) &&& (63 : Int32))))] [(.int (0 : Int32))]))
                      rw [hG]
                      exact own_retI X0 hx hlk hret (hb hby d2_285) ⟨congrArg (fun z => some (Value.int z)) (show (0 : Int32) = own_cl (wf i0) (wf (i0 + 1)) (wf (i0 + 2)) (wf (i0 + 3)) (n0 - i0) by unfold own_cl; rw [if_neg c9_2, if_neg c22_3, if_neg c39_8, if_pos c56_17, if_neg c72_18, if_pos c93_20, if_pos c149_22, if_pos c228_24, if_neg c270_25, if_pos c277_26]), rfl, e0⟩ (by decide) (by decide)
                    · skip
                      refine own_st (fun t k => XS.icmpNo X0.here hx rfl (hb hby d2_277) rfl (flt c277_26).2.2.1 k) ?_
                      show own_Go p e below G (s₁.setTop (mkF m 280 #[.val (.ref wa), .val (.int i0), .val (.int n0), .val (.int (wf i0)), .val (.int (4 : Int32)), .val (.int (wf (i0 + (1 : Int32)))), .val (.int (wf (i0 + (2 : Int32)))), .val (.int (wf (i0 + (3 : Int32)))), .val (.int ((((((wf i0) &&& (7 : Int32)) <<< ((18 : Int32) &&& 31)) ||| (((wf (i0 + (1 : Int32))) &&& (63 : Int32)) <<< ((12 : Int32) &&& 31))) ||| (((wf (i0 + (2 : Int32))) &&& (63 : Int32)) <<< ((6 : Int32) &&& 31))) ||| ((wf (i0 + (3 : Int32))) &&& (63 : Int32))))] []))
                      refine own_st (fun t k => XS.iconst X0.here hx rfl (hb hby d2_280) k) ?_
                      show own_Go p e below G (s₁.setTop (mkF m 281 #[.val (.ref wa), .val (.int i0), .val (.int n0), .val (.int (wf i0)), .val (.int (4 : Int32)), .val (.int (wf (i0 + (1 : Int32)))), .val (.int (wf (i0 + (2 : Int32)))), .val (.int (wf (i0 + (3 : Int32)))), .val (.int ((((((wf i0) &&& (7 : Int32)) <<< ((18 : Int32) &&& 31)) ||| (((wf (i0 + (1 : Int32))) &&& (63 : Int32)) <<< ((12 : Int32) &&& 31))) ||| (((wf (i0 + (2 : Int32))) &&& (63 : Int32)) <<< ((6 : Int32) &&& 31))) ||| ((wf (i0 + (3 : Int32))) &&& (63 : Int32))))] [(.int (4 : Int32))]))
                      refine own_st (fun t k => XS.goto X0.here hx rfl (pc0 := 281) (pc' := 285) rfl (hb hby d2_281) (by decide) (by decide) k) ?_
                      show own_Go p e below G (s₁.setTop (mkF m 285 #[.val (.ref wa), .val (.int i0), .val (.int n0), .val (.int (wf i0)), .val (.int (4 : Int32)), .val (.int (wf (i0 + (1 : Int32)))), .val (.int (wf (i0 + (2 : Int32)))), .val (.int (wf (i0 + (3 : Int32)))), .val (.int ((((((wf i0) &&& (7 : Int32)) <<< ((18 : Int32) &&& 31)) ||| (((wf (i0 + (1 : Int32))) &&& (63 : Int32)) <<< ((12 : Int32) &&& 31))) ||| (((wf (i0 + (2 : Int32))) &&& (63 : Int32)) <<< ((6 : Int32) &&& 31))) ||| ((wf (i0 + (3 : Int32))) &&& (63 : Int32))))] [(.int (4 : Int32))]))
                      rw [hG]
                      exact own_retI X0 hx hlk hret (hb hby d2_285) ⟨congrArg (fun z => some (Value.int z)) (show (4 : Int32) = own_cl (wf i0) (wf (i0 + 1)) (wf (i0 + 2)) (wf (i0 + 3)) (n0 - i0) by unfold own_cl; rw [if_neg c9_2, if_neg c22_3, if_neg c39_8, if_pos c56_17, if_neg c72_18, if_pos c93_20, if_pos c149_22, if_pos c228_24, if_neg c270_25, if_neg c277_26]), rfl, e0⟩ (by decide) (by decide)
                · skip
                  refine own_st (fun t k => XS.icmpNo X0.here hx rfl (hb hby d2_228) rfl (feq c228_24).1 k) ?_
                  show own_Go p e below G (s₁.setTop (mkF m 231 #[.val (.ref wa), .val (.int i0), .val (.int n0), .val (.int (wf i0)), .val (.int (4 : Int32)), .val (.int (wf (i0 + (1 : Int32)))), .val (.int (wf (i0 + (2 : Int32)))), .val (.int (wf (i0 + (3 : Int32)))), .unset] []))
                  refine own_st (fun t k => XS.iconst X0.here hx rfl (hb hby d2_231) k) ?_
                  show own_Go p e below G (s₁.setTop (mkF m 232 #[.val (.ref wa), .val (.int i0), .val (.int n0), .val (.int (wf i0)), .val (.int (4 : Int32)), .val (.int (wf (i0 + (1 : Int32)))), .val (.int (wf (i0 + (2 : Int32)))), .val (.int (wf (i0 + (3 : Int32)))), .unset] [(.int (0 : Int32))]))
                  rw [hG]
                  exact own_retI X0 hx hlk hret (hb hby d2_232) ⟨congrArg (fun z => some (Value.int z)) (show (0 : Int32) = own_cl (wf i0) (wf (i0 + 1)) (wf (i0 + 2)) (wf (i0 + 3)) (n0 - i0) by unfold own_cl; rw [if_neg c9_2, if_neg c22_3, if_neg c39_8, if_pos c56_17, if_neg c72_18, if_pos c93_20, if_pos c149_22, if_neg c228_24]), rfl, e0⟩ (by decide) (by decide)
              · skip
                refine own_st (fun t k => XS.icmpNo X0.here hx rfl (hb hby d2_149) rfl (feq c149_22).1 k) ?_
                show own_Go p e below G (s₁.setTop (mkF m 152 #[.val (.ref wa), .val (.int i0), .val (.int n0), .val (.int (wf i0)), .val (.int (4 : Int32)), .val (.int (wf (i0 + (1 : Int32)))), .val (.int (wf (i0 + (2 : Int32)))), .unset, .unset] []))
                refine own_st (fun t k => XS.iconst X0.here hx rfl (hb hby d2_152) k) ?_
                show own_Go p e below G (s₁.setTop (mkF m 153 #[.val (.ref wa), .val (.int i0), .val (.int n0), .val (.int (wf i0)), .val (.int (4 : Int32)), .val (.int (wf (i0 + (1 : Int32)))), .val (.int (wf (i0 + (2 : Int32)))), .unset, .unset] [(.int (0 : Int32))]))
                rw [hG]
                exact own_retI X0 hx hlk hret (hb hby d2_153) ⟨congrArg (fun z => some (Value.int z)) (show (0 : Int32) = own_cl (wf i0) (wf (i0 + 1)) (wf (i0 + 2)) (wf (i0 + 3)) (n0 - i0) by unfold own_cl; rw [if_neg c9_2, if_neg c22_3, if_neg c39_8, if_pos c56_17, if_neg c72_18, if_pos c93_20, if_neg c149_22]), rfl, e0⟩ (by decide) (by decide)
            · skip
              refine own_st (fun t k => XS.icmpNo X0.here hx rfl (hb hby d2_93) rfl (feq c93_20).1 k) ?_
              show own_Go p e below G (s₁.setTop (mkF m 96 #[.val (.ref wa), .val (.int i0), .val (.int n0), .val (.int (wf i0)), .val (.int (4 : Int32)), .val (.int (wf (i0 + (1 : Int32)))), .unset, .unset, .unset] []))
              refine own_st (fun t k => XS.iconst X0.here hx rfl (hb hby d2_96) k) ?_
              show own_Go p e below G (s₁.setTop (mkF m 97 #[.val (.ref wa), .val (.int i0), .val (.int n0), .val (.int (wf i0)), .val (.int (4 : Int32)), .val (.int (wf (i0 + (1 : Int32)))), .unset, .unset, .unset] [(.int (0 : Int32))]))
              rw [hG]
              exact own_retI X0 hx hlk hret (hb hby d2_97) ⟨congrArg (fun z => some (Value.int z)) (show (0 : Int32) = own_cl (wf i0) (wf (i0 + 1)) (wf (i0 + 2)) (wf (i0 + 3)) (n0 - i0) by unfold own_cl; rw [if_neg c9_2, if_neg c22_3, if_neg c39_8, if_pos c56_17, if_neg c72_18, if_neg c93_20]), rfl, e0⟩ (by decide) (by decide)
        · skip
          refine own_st (fun t k => XS.icmpYes X0.here hx rfl (pc0 := 56) (pc' := 65) rfl (hb hby d2_56) rfl (feq c56_17).2 (by decide) (by decide) k) ?_
          show own_Go p e below G (s₁.setTop (mkF m 65 #[.val (.ref wa), .val (.int i0), .val (.int n0), .val (.int (wf i0)), .unset, .unset, .unset, .unset, .unset] []))
          refine own_st (fun t k => XS.iconst X0.here hx rfl (hb hby d2_65) k) ?_
          show own_Go p e below G (s₁.setTop (mkF m 66 #[.val (.ref wa), .val (.int i0), .val (.int n0), .val (.int (wf i0)), .unset, .unset, .unset, .unset, .unset] [(.int (0 : Int32))]))
          rw [hG]
          exact own_retI X0 hx hlk hret (hb hby d2_66) ⟨congrArg (fun z => some (Value.int z)) (show (0 : Int32) = own_cl (wf i0) (wf (i0 + 1)) (wf (i0 + 2)) (wf (i0 + 3)) (n0 - i0) by unfold own_cl; rw [if_neg c9_2, if_neg c22_3, if_neg c39_8, if_neg c56_17]), rfl, e0⟩ (by decide) (by decide)
theorem d3_0 : decode method_3_code 0 = .ok (.iconst 0, 1) := by decide +kernel
theorem d3_1 : decode method_3_code 1 = .ok (.istore_n 2, 1) := by decide +kernel
theorem d3_2 : decode method_3_code 2 = .ok (.iload_n 2, 1) := by decide +kernel
theorem d3_3 : decode method_3_code 3 = .ok (.iload_n 1, 1) := by decide +kernel
theorem d3_4 : decode method_3_code 4 = .ok (.if_icmp .ge 20, 3) := by decide +kernel
theorem d3_7 : decode method_3_code 7 = .ok (.aload_n 0, 1) := by decide +kernel
theorem d3_8 : decode method_3_code 8 = .ok (.iload_n 2, 1) := by decide +kernel
theorem d3_9 : decode method_3_code 9 = .ok (.iload_n 1, 1) := by decide +kernel
theorem d3_10 : decode method_3_code 10 = .ok (.invokestatic 20, 3) := by decide +kernel
theorem d3_13 : decode method_3_code 13 = .ok (.istore_n 3, 1) := by decide +kernel
theorem d3_14 : decode method_3_code 14 = .ok (.iload_n 3, 1) := by decide +kernel
theorem d3_15 : decode method_3_code 15 = .ok (.ifCond .ne 5, 3) := by decide +kernel
theorem d3_18 : decode method_3_code 18 = .ok (.iconst 0, 1) := by decide +kernel
theorem d3_19 : decode method_3_code 19 = .ok (.ireturn, 1) := by decide +kernel
theorem d3_20 : decode method_3_code 20 = .ok (.iload_n 2, 1) := by decide +kernel
theorem d3_21 : decode method_3_code 21 = .ok (.iload_n 3, 1) := by decide +kernel
theorem d3_22 : decode method_3_code 22 = .ok (.iadd, 1) := by decide +kernel
theorem d3_23 : decode method_3_code 23 = .ok (.istore_n 2, 1) := by decide +kernel
theorem d3_24 : decode method_3_code 24 = .ok (.iload_n 2, 1) := by decide +kernel
theorem d3_25 : decode method_3_code 25 = .ok (.iload_n 1, 1) := by decide +kernel
theorem d3_26 : decode method_3_code 26 = .ok (.if_icmp .ge 20, 3) := by decide +kernel
theorem d3_29 : decode method_3_code 29 = .ok (.aload_n 0, 1) := by decide +kernel
theorem d3_30 : decode method_3_code 30 = .ok (.iload_n 2, 1) := by decide +kernel
theorem d3_31 : decode method_3_code 31 = .ok (.iload_n 1, 1) := by decide +kernel
theorem d3_32 : decode method_3_code 32 = .ok (.invokestatic 20, 3) := by decide +kernel
theorem d3_35 : decode method_3_code 35 = .ok (.istore_n 3, 1) := by decide +kernel
theorem d3_36 : decode method_3_code 36 = .ok (.iload_n 3, 1) := by decide +kernel
theorem d3_37 : decode method_3_code 37 = .ok (.ifCond .ne 5, 3) := by decide +kernel
theorem d3_40 : decode method_3_code 40 = .ok (.iconst 0, 1) := by decide +kernel
theorem d3_41 : decode method_3_code 41 = .ok (.ireturn, 1) := by decide +kernel
theorem d3_42 : decode method_3_code 42 = .ok (.iload_n 2, 1) := by decide +kernel
theorem d3_43 : decode method_3_code 43 = .ok (.iload_n 3, 1) := by decide +kernel
theorem d3_44 : decode method_3_code 44 = .ok (.iadd, 1) := by decide +kernel
theorem d3_45 : decode method_3_code 45 = .ok (.istore_n 2, 1) := by decide +kernel
theorem d3_46 : decode method_3_code 46 = .ok (.iload_n 2, 1) := by decide +kernel
theorem d3_47 : decode method_3_code 47 = .ok (.iload_n 1, 1) := by decide +kernel
theorem d3_48 : decode method_3_code 48 = .ok (.if_icmp .ge 20, 3) := by decide +kernel
theorem d3_51 : decode method_3_code 51 = .ok (.aload_n 0, 1) := by decide +kernel
theorem d3_52 : decode method_3_code 52 = .ok (.iload_n 2, 1) := by decide +kernel
theorem d3_53 : decode method_3_code 53 = .ok (.iload_n 1, 1) := by decide +kernel
theorem d3_54 : decode method_3_code 54 = .ok (.invokestatic 20, 3) := by decide +kernel
theorem d3_57 : decode method_3_code 57 = .ok (.istore_n 3, 1) := by decide +kernel
theorem d3_58 : decode method_3_code 58 = .ok (.iload_n 3, 1) := by decide +kernel
theorem d3_59 : decode method_3_code 59 = .ok (.ifCond .ne 5, 3) := by decide +kernel
theorem d3_62 : decode method_3_code 62 = .ok (.iconst 0, 1) := by decide +kernel
theorem d3_63 : decode method_3_code 63 = .ok (.ireturn, 1) := by decide +kernel
theorem d3_64 : decode method_3_code 64 = .ok (.iload_n 2, 1) := by decide +kernel
theorem d3_65 : decode method_3_code 65 = .ok (.iload_n 3, 1) := by decide +kernel
theorem d3_66 : decode method_3_code 66 = .ok (.iadd, 1) := by decide +kernel
theorem d3_67 : decode method_3_code 67 = .ok (.istore_n 2, 1) := by decide +kernel
theorem d3_68 : decode method_3_code 68 = .ok (.iload_n 2, 1) := by decide +kernel
theorem d3_69 : decode method_3_code 69 = .ok (.iload_n 1, 1) := by decide +kernel
theorem d3_70 : decode method_3_code 70 = .ok (.if_icmp .ge 20, 3) := by decide +kernel
theorem d3_73 : decode method_3_code 73 = .ok (.aload_n 0, 1) := by decide +kernel
theorem d3_74 : decode method_3_code 74 = .ok (.iload_n 2, 1) := by decide +kernel
theorem d3_75 : decode method_3_code 75 = .ok (.iload_n 1, 1) := by decide +kernel
theorem d3_76 : decode method_3_code 76 = .ok (.invokestatic 20, 3) := by decide +kernel
theorem d3_79 : decode method_3_code 79 = .ok (.istore_n 3, 1) := by decide +kernel
theorem d3_80 : decode method_3_code 80 = .ok (.iload_n 3, 1) := by decide +kernel
theorem d3_81 : decode method_3_code 81 = .ok (.ifCond .ne 5, 3) := by decide +kernel
theorem d3_84 : decode method_3_code 84 = .ok (.iconst 0, 1) := by decide +kernel
theorem d3_85 : decode method_3_code 85 = .ok (.ireturn, 1) := by decide +kernel
theorem d3_86 : decode method_3_code 86 = .ok (.iload_n 2, 1) := by decide +kernel
theorem d3_87 : decode method_3_code 87 = .ok (.iload_n 3, 1) := by decide +kernel
theorem d3_88 : decode method_3_code 88 = .ok (.iadd, 1) := by decide +kernel
theorem d3_89 : decode method_3_code 89 = .ok (.istore_n 2, 1) := by decide +kernel
theorem d3_90 : decode method_3_code 90 = .ok (.iconst 1, 1) := by decide +kernel
theorem d3_91 : decode method_3_code 91 = .ok (.ireturn, 1) := by decide +kernel
theorem pn_rm3 : plainFor (⟨"com/example/tidewater_cube/tidewatercube/source/Utf8IsValidPinLaw", "reference", "([II)Z"⟩ : MethodName) = true := by decide +kernel
theorem ef_rm3 (m : MethodId) (x0 : Addr) (x1 : Int32) : entryFrame m #[(.ref x0), (.int x1)] 4 = mkF m 0 #[.val (.ref x0), .val (.int x1), .unset, .unset] [] := by first | (simp [entryFrame, mkF, argsToLocals, Value.category]; done) | rfl
set_option maxRecDepth 65536 in
set_option maxHeartbeats 40000000 in
theorem rm3 (l : Launch) (Z : State) (a0 : Array Value) (hw : ∀ d ∈ tables_1, d.before a0 Z = true) (wa : Addr) (n0 : Int32) (cl0 : Cell) (wf : Int32 → Int32) (h0 : Heap) (hn0 : 0 ≤ n0.toInt ∧ n0.toInt ≤ 4) (Ar0 : Arr Z h0 wa cl0 .int) (S0 : cl0.slots.size = (4 : Int32).toNatClampNeg) (hW : ∀ j : Int32, ¬ j < 0 → j < 4 → cl0.slots[j.toNatClampNeg]? = some (.int (wf j))) :
    own_Met l Z (⟨"com/example/tidewater_cube/tidewatercube/source/Utf8IsValidPinLaw", "reference", "([II)Z"⟩ : MethodName) method_3_code 4 (some .boolean) [] ({ frames := 1, cells := 0, slots := 0, locals := 20 } : Room) #[(.ref wa), (.int n0)] h0 (fun v h L => v = some (.int (own_rf wf n0 4 0)) ∧ L = [] ∧ h = h0) := by
  refine own_body pn_rm3 ?_
  intro p e s m below meth c s₁ hx hby hml hown hnm hret hlk hZ X0 e0 G hG
  replace hml : c.maxLocals = 4 := hml
  replace hown : s.vm.findClass "com/example/tidewater_cube/tidewatercube/source/Utf8IsValidPinLaw" = some m.cls := hown
  rw [ef_rm3]
  show own_Go p e below G (s₁.setTop (mkF m 0 #[.val (.ref wa), .val (.int n0), .unset, .unset] []))
  refine own_st (fun t k => XS.iconst X0.here hx rfl (hb hby d3_0) k) ?_
  show own_Go p e below G (s₁.setTop (mkF m 1 #[.val (.ref wa), .val (.int n0), .unset, .unset] [(.int (0 : Int32))]))
  refine own_st (fun t k => XS.istoreN X0.here hx rfl (hb hby d3_1) rfl (l' := #[.val (.ref wa), .val (.int n0), .val (.int (0 : Int32)), .unset]) rfl k) ?_
  show own_Go p e below G (s₁.setTop (mkF m 2 #[.val (.ref wa), .val (.int n0), .val (.int (0 : Int32)), .unset] []))
  have J90 : ∀ (T : State) (X : Stand p l e ({ frames := 1, cells := 0, slots := 0, locals := 20 } : Room) s m #[(.ref wa), (.int n0)] below meth c T [] 0 0) (eT : T.heap = h0) (i3 : Int32) (s3 : Slot) (hs3 : One s3) (hi3 : 0 ≤ i3.toInt) (heq : own_rf wf n0 4 0 = own_rf wf n0 0 i3), own_Go p e below G (T.setTop (mkF m 90 #[.val (.ref wa), .val (.int n0), .val (.int i3), s3] [])) := by
    intro T X eT i3 s3 hs3 hi3 heq
    refine own_st (fun t k => XS.iconst X.here hx rfl (hb hby d3_90) k) ?_
    show own_Go p e below G (T.setTop (mkF m 91 #[.val (.ref wa), .val (.int n0), .val (.int i3), s3] [(.int (1 : Int32))]))
    rw [hG]
    exact own_retZ X hx hlk (t := .boolean) hret (by simp) (hb hby d3_91) ⟨congrArg (fun z => some (Value.int z)) (show (1 : Int32) = own_rf wf n0 4 0 from (heq).symm), rfl, eT⟩ (by decide) (by decide)
  have J68 : ∀ (T : State) (X : Stand p l e ({ frames := 1, cells := 0, slots := 0, locals := 20 } : Room) s m #[(.ref wa), (.int n0)] below meth c T [] 0 0) (eT : T.heap = h0) (i3 : Int32) (s3 : Slot) (hs3 : One s3) (hi3 : 0 ≤ i3.toInt) (heq : own_rf wf n0 4 0 = own_rf wf n0 1 i3), own_Go p e below G (T.setTop (mkF m 68 #[.val (.ref wa), .val (.int n0), .val (.int i3), s3] [])) := by
    intro T X eT i3 s3 hs3 hi3 heq
    refine own_st (fun t k => XS.iloadN X.here hx rfl (hb hby d3_68) rfl  k) ?_
    show own_Go p e below G (T.setTop (mkF m 69 #[.val (.ref wa), .val (.int n0), .val (.int i3), s3] [(.int i3)]))
    refine own_st (fun t k => XS.iloadN X.here hx rfl (hb hby d3_69) rfl  k) ?_
    show own_Go p e below G (T.setTop (mkF m 70 #[.val (.ref wa), .val (.int n0), .val (.int i3), s3] [(.int n0), (.int i3)]))
    by_cases c70_1 : i3 < n0
    · skip
      refine own_st (fun t k => XS.icmpNo X.here hx rfl (hb hby d3_70) rfl (tlt c70_1).2.1 k) ?_
      show own_Go p e below G (T.setTop (mkF m 73 #[.val (.ref wa), .val (.int n0), .val (.int i3), s3] []))
      refine own_st (fun t k => XS.aloadN X.here hx rfl (hb hby d3_73) rfl rfl  k) ?_
      show own_Go p e below G (T.setTop (mkF m 74 #[.val (.ref wa), .val (.int n0), .val (.int i3), s3] [(.ref wa)]))
      refine own_st (fun t k => XS.iloadN X.here hx rfl (hb hby d3_74) rfl  k) ?_
      show own_Go p e below G (T.setTop (mkF m 75 #[.val (.ref wa), .val (.int n0), .val (.int i3), s3] [(.int i3), (.ref wa)]))
      refine own_st (fun t k => XS.iloadN X.here hx rfl (hb hby d3_75) rfl  k) ?_
      show own_Go p e below G (T.setTop (mkF m 76 #[.val (.ref wa), .val (.int n0), .val (.int i3), s3] [(.int n0), (.int i3), (.ref wa)]))
      obtain ⟨v2, T2, L2, X2, Q2, st2⟩ := own_callS X hx hZ (y := (⟨"com/example/tidewater_cube/tidewatercube/source/Utf8IsValidPinLaw", "charLen", "([III)I"⟩ : MethodName)) hown (hw _ (List.mem_of_getElem? (i := 11) rfl)) (hw _ (List.mem_of_getElem? (i := 12) rfl)) (hw _ (List.mem_of_getElem? (i := 9) rfl)) (hw _ (List.mem_of_getElem? (i := 13) rfl)) (by decide) (W := 0) (rm2 l Z a0 hw wa i3 n0 cl0 wf h0 hn0 Ar0 S0 hW hi3 c70_1) (by decide) (by decide) eT (g := (mkF m 76 #[.val (.ref wa), .val (.int n0), .val (.int i3), s3] [(.int n0), (.int i3), (.ref wa)])) rfl (by rw [hml]; rfl) (argsL := [(.ref wa), (.int i3), (.int n0)]) (rest := []) own_pd0 rfl rfl (by show 2 * 0 + _ ≤ _; exact Nat.le_of_eq rfl) (hb hby d3_76) rfl (by decide) (by decide)
      obtain ⟨rfl, rfl, e2⟩ := Q2
      simp only [List.append_nil, Nat.add_zero] at X2
      refine own_st st2 ?_
      show own_Go p e below G (T2.setTop (mkF m 79 #[.val (.ref wa), .val (.int n0), .val (.int i3), s3] [(.int (own_cl (wf i3) (wf (i3 + 1)) (wf (i3 + 2)) (wf (i3 + 3)) (n0 - i3)))]))
      refine own_st (fun t k => XS.istoreN X2.here hx rfl (hb hby d3_79) rfl (l' := #[.val (.ref wa), .val (.int n0), .val (.int i3), .val (.int (own_cl (wf i3) (wf (i3 + 1)) (wf (i3 + 2)) (wf (i3 + 3)) (n0 - i3)))]) (XS.store1 rfl hs3 rfl) k) ?_
      show own_Go p e below G (T2.setTop (mkF m 80 #[.val (.ref wa), .val (.int n0), .val (.int i3), .val (.int (own_cl (wf i3) (wf (i3 + 1)) (wf (i3 + 2)) (wf (i3 + 3)) (n0 - i3)))] []))
      refine own_st (fun t k => XS.iloadN X2.here hx rfl (hb hby d3_80) rfl  k) ?_
      show own_Go p e below G (T2.setTop (mkF m 81 #[.val (.ref wa), .val (.int n0), .val (.int i3), .val (.int (own_cl (wf i3) (wf (i3 + 1)) (wf (i3 + 2)) (wf (i3 + 3)) (n0 - i3)))] [(.int (own_cl (wf i3) (wf (i3 + 1)) (wf (i3 + 2)) (wf (i3 + 3)) (n0 - i3)))]))
      by_cases c81_3 : (own_cl (wf i3) (wf (i3 + 1)) (wf (i3 + 2)) (wf (i3 + 3)) (n0 - i3)) = (0 : Int32)
      · skip
        refine own_st (fun t k => XS.ifNo X2.here hx rfl (hb hby d3_81) rfl ((if0 _ _).trans (teq c81_3).2) k) ?_
        show own_Go p e below G (T2.setTop (mkF m 84 #[.val (.ref wa), .val (.int n0), .val (.int i3), .val (.int (own_cl (wf i3) (wf (i3 + 1)) (wf (i3 + 2)) (wf (i3 + 3)) (n0 - i3)))] []))
        refine own_st (fun t k => XS.iconst X2.here hx rfl (hb hby d3_84) k) ?_
        show own_Go p e below G (T2.setTop (mkF m 85 #[.val (.ref wa), .val (.int n0), .val (.int i3), .val (.int (own_cl (wf i3) (wf (i3 + 1)) (wf (i3 + 2)) (wf (i3 + 3)) (n0 - i3)))] [(.int (0 : Int32))]))
        rw [hG]
        exact own_retZ X2 hx hlk (t := .boolean) hret (by simp) (hb hby d3_85) ⟨congrArg (fun z => some (Value.int z)) (show (0 : Int32) = own_rf wf n0 4 0 from (heq.trans (own_rf0 c70_1 c81_3)).symm), rfl, e2⟩ (by decide) (by decide)
      · skip
        refine own_st (fun t k => XS.ifYes X2.here hx rfl (pc0 := 81) (pc' := 86) rfl (hb hby d3_81) rfl ((if0 _ _).trans (feq c81_3).2) (by decide) (by decide) k) ?_
        show own_Go p e below G (T2.setTop (mkF m 86 #[.val (.ref wa), .val (.int n0), .val (.int i3), .val (.int (own_cl (wf i3) (wf (i3 + 1)) (wf (i3 + 2)) (wf (i3 + 3)) (n0 - i3)))] []))
        refine own_st (fun t k => XS.iloadN X2.here hx rfl (hb hby d3_86) rfl  k) ?_
        show own_Go p e below G (T2.setTop (mkF m 87 #[.val (.ref wa), .val (.int n0), .val (.int i3), .val (.int (own_cl (wf i3) (wf (i3 + 1)) (wf (i3 + 2)) (wf (i3 + 3)) (n0 - i3)))] [(.int i3)]))
        refine own_st (fun t k => XS.iloadN X2.here hx rfl (hb hby d3_87) rfl  k) ?_
        show own_Go p e below G (T2.setTop (mkF m 88 #[.val (.ref wa), .val (.int n0), .val (.int i3), .val (.int (own_cl (wf i3) (wf (i3 + 1)) (wf (i3 + 2)) (wf (i3 + 3)) (n0 - i3)))] [(.int (own_cl (wf i3) (wf (i3 + 1)) (wf (i3 + 2)) (wf (i3 + 3)) (n0 - i3))), (.int i3)]))
        refine own_st (fun t k => XS.iadd X2.here hx rfl (hb hby d3_88) rfl k) ?_
        show own_Go p e below G (T2.setTop (mkF m 89 #[.val (.ref wa), .val (.int n0), .val (.int i3), .val (.int (own_cl (wf i3) (wf (i3 + 1)) (wf (i3 + 2)) (wf (i3 + 3)) (n0 - i3)))] [(.int (i3 + (own_cl (wf i3) (wf (i3 + 1)) (wf (i3 + 2)) (wf (i3 + 3)) (n0 - i3))))]))
        refine own_st (fun t k => XS.istoreN X2.here hx rfl (hb hby d3_89) rfl (l' := #[.val (.ref wa), .val (.int n0), .val (.int (i3 + (own_cl (wf i3) (wf (i3 + 1)) (wf (i3 + 2)) (wf (i3 + 3)) (n0 - i3)))), .val (.int (own_cl (wf i3) (wf (i3 + 1)) (wf (i3 + 2)) (wf (i3 + 3)) (n0 - i3)))]) rfl k) ?_
        show own_Go p e below G (T2.setTop (mkF m 90 #[.val (.ref wa), .val (.int n0), .val (.int (i3 + (own_cl (wf i3) (wf (i3 + 1)) (wf (i3 + 2)) (wf (i3 + 3)) (n0 - i3)))), .val (.int (own_cl (wf i3) (wf (i3 + 1)) (wf (i3 + 2)) (wf (i3 + 3)) (n0 - i3)))] []))
        exact J90 _ X2 e2 _ _ (One.val rfl) (by rw [own_add hi3 (Int.le_of_lt (Int.lt_of_lt_of_le (Int32.lt_iff_toInt_lt.mp c70_1) (Int.le_trans hn0.2 (by decide)))) (own_clt _ _ _ _ _).1 (own_clt _ _ _ _ _).2]; exact Int.add_nonneg hi3 (own_clt _ _ _ _ _).1) (heq.trans (own_rfN c70_1 c81_3))
    · skip
      refine own_st (fun t k => XS.icmpYes X.here hx rfl (pc0 := 70) (pc' := 90) rfl (hb hby d3_70) rfl (flt c70_1).2.1 (by decide) (by decide) k) ?_
      show own_Go p e below G (T.setTop (mkF m 90 #[.val (.ref wa), .val (.int n0), .val (.int i3), s3] []))
      exact J90 _ X eT _ _ hs3 hi3 ((heq.trans (own_rfE c70_1 _)).trans (own_rfE c70_1 _).symm)
  have J46 : ∀ (T : State) (X : Stand p l e ({ frames := 1, cells := 0, slots := 0, locals := 20 } : Room) s m #[(.ref wa), (.int n0)] below meth c T [] 0 0) (eT : T.heap = h0) (i3 : Int32) (s3 : Slot) (hs3 : One s3) (hi3 : 0 ≤ i3.toInt) (heq : own_rf wf n0 4 0 = own_rf wf n0 2 i3), own_Go p e below G (T.setTop (mkF m 46 #[.val (.ref wa), .val (.int n0), .val (.int i3), s3] [])) := by
    intro T X eT i3 s3 hs3 hi3 heq
    refine own_st (fun t k => XS.iloadN X.here hx rfl (hb hby d3_46) rfl  k) ?_
    show own_Go p e below G (T.setTop (mkF m 47 #[.val (.ref wa), .val (.int n0), .val (.int i3), s3] [(.int i3)]))
    refine own_st (fun t k => XS.iloadN X.here hx rfl (hb hby d3_47) rfl  k) ?_
    show own_Go p e below G (T.setTop (mkF m 48 #[.val (.ref wa), .val (.int n0), .val (.int i3), s3] [(.int n0), (.int i3)]))
    by_cases c48_4 : i3 < n0
    · skip
      refine own_st (fun t k => XS.icmpNo X.here hx rfl (hb hby d3_48) rfl (tlt c48_4).2.1 k) ?_
      show own_Go p e below G (T.setTop (mkF m 51 #[.val (.ref wa), .val (.int n0), .val (.int i3), s3] []))
      refine own_st (fun t k => XS.aloadN X.here hx rfl (hb hby d3_51) rfl rfl  k) ?_
      show own_Go p e below G (T.setTop (mkF m 52 #[.val (.ref wa), .val (.int n0), .val (.int i3), s3] [(.ref wa)]))
      refine own_st (fun t k => XS.iloadN X.here hx rfl (hb hby d3_52) rfl  k) ?_
      show own_Go p e below G (T.setTop (mkF m 53 #[.val (.ref wa), .val (.int n0), .val (.int i3), s3] [(.int i3), (.ref wa)]))
      refine own_st (fun t k => XS.iloadN X.here hx rfl (hb hby d3_53) rfl  k) ?_
      show own_Go p e below G (T.setTop (mkF m 54 #[.val (.ref wa), .val (.int n0), .val (.int i3), s3] [(.int n0), (.int i3), (.ref wa)]))
      obtain ⟨v5, T5, L5, X5, Q5, st5⟩ := own_callS X hx hZ (y := (⟨"com/example/tidewater_cube/tidewatercube/source/Utf8IsValidPinLaw", "charLen", "([III)I"⟩ : MethodName)) hown (hw _ (List.mem_of_getElem? (i := 11) rfl)) (hw _ (List.mem_of_getElem? (i := 12) rfl)) (hw _ (List.mem_of_getElem? (i := 9) rfl)) (hw _ (List.mem_of_getElem? (i := 13) rfl)) (by decide) (W := 0) (rm2 l Z a0 hw wa i3 n0 cl0 wf h0 hn0 Ar0 S0 hW hi3 c48_4) (by decide) (by decide) eT (g := (mkF m 54 #[.val (.ref wa), .val (.int n0), .val (.int i3), s3] [(.int n0), (.int i3), (.ref wa)])) rfl (by rw [hml]; rfl) (argsL := [(.ref wa), (.int i3), (.int n0)]) (rest := []) own_pd0 rfl rfl (by show 2 * 0 + _ ≤ _; exact Nat.le_of_eq rfl) (hb hby d3_54) rfl (by decide) (by decide)
      obtain ⟨rfl, rfl, e5⟩ := Q5
      simp only [List.append_nil, Nat.add_zero] at X5
      refine own_st st5 ?_
      show own_Go p e below G (T5.setTop (mkF m 57 #[.val (.ref wa), .val (.int n0), .val (.int i3), s3] [(.int (own_cl (wf i3) (wf (i3 + 1)) (wf (i3 + 2)) (wf (i3 + 3)) (n0 - i3)))]))
      refine own_st (fun t k => XS.istoreN X5.here hx rfl (hb hby d3_57) rfl (l' := #[.val (.ref wa), .val (.int n0), .val (.int i3), .val (.int (own_cl (wf i3) (wf (i3 + 1)) (wf (i3 + 2)) (wf (i3 + 3)) (n0 - i3)))]) (XS.store1 rfl hs3 rfl) k) ?_
      show own_Go p e below G (T5.setTop (mkF m 58 #[.val (.ref wa), .val (.int n0), .val (.int i3), .val (.int (own_cl (wf i3) (wf (i3 + 1)) (wf (i3 + 2)) (wf (i3 + 3)) (n0 - i3)))] []))
      refine own_st (fun t k => XS.iloadN X5.here hx rfl (hb hby d3_58) rfl  k) ?_
      show own_Go p e below G (T5.setTop (mkF m 59 #[.val (.ref wa), .val (.int n0), .val (.int i3), .val (.int (own_cl (wf i3) (wf (i3 + 1)) (wf (i3 + 2)) (wf (i3 + 3)) (n0 - i3)))] [(.int (own_cl (wf i3) (wf (i3 + 1)) (wf (i3 + 2)) (wf (i3 + 3)) (n0 - i3)))]))
      by_cases c59_6 : (own_cl (wf i3) (wf (i3 + 1)) (wf (i3 + 2)) (wf (i3 + 3)) (n0 - i3)) = (0 : Int32)
      · skip
        refine own_st (fun t k => XS.ifNo X5.here hx rfl (hb hby d3_59) rfl ((if0 _ _).trans (teq c59_6).2) k) ?_
        show own_Go p e below G (T5.setTop (mkF m 62 #[.val (.ref wa), .val (.int n0), .val (.int i3), .val (.int (own_cl (wf i3) (wf (i3 + 1)) (wf (i3 + 2)) (wf (i3 + 3)) (n0 - i3)))] []))
        refine own_st (fun t k => XS.iconst X5.here hx rfl (hb hby d3_62) k) ?_
        show own_Go p e below G (T5.setTop (mkF m 63 #[.val (.ref wa), .val (.int n0), .val (.int i3), .val (.int (own_cl (wf i3) (wf (i3 + 1)) (wf (i3 + 2)) (wf (i3 + 3)) (n0 - i3)))] [(.int (0 : Int32))]))
        rw [hG]
        exact own_retZ X5 hx hlk (t := .boolean) hret (by simp) (hb hby d3_63) ⟨congrArg (fun z => some (Value.int z)) (show (0 : Int32) = own_rf wf n0 4 0 from (heq.trans (own_rf0 c48_4 c59_6)).symm), rfl, e5⟩ (by decide) (by decide)
      · skip
        refine own_st (fun t k => XS.ifYes X5.here hx rfl (pc0 := 59) (pc' := 64) rfl (hb hby d3_59) rfl ((if0 _ _).trans (feq c59_6).2) (by decide) (by decide) k) ?_
        show own_Go p e below G (T5.setTop (mkF m 64 #[.val (.ref wa), .val (.int n0), .val (.int i3), .val (.int (own_cl (wf i3) (wf (i3 + 1)) (wf (i3 + 2)) (wf (i3 + 3)) (n0 - i3)))] []))
        refine own_st (fun t k => XS.iloadN X5.here hx rfl (hb hby d3_64) rfl  k) ?_
        show own_Go p e below G (T5.setTop (mkF m 65 #[.val (.ref wa), .val (.int n0), .val (.int i3), .val (.int (own_cl (wf i3) (wf (i3 + 1)) (wf (i3 + 2)) (wf (i3 + 3)) (n0 - i3)))] [(.int i3)]))
        refine own_st (fun t k => XS.iloadN X5.here hx rfl (hb hby d3_65) rfl  k) ?_
        show own_Go p e below G (T5.setTop (mkF m 66 #[.val (.ref wa), .val (.int n0), .val (.int i3), .val (.int (own_cl (wf i3) (wf (i3 + 1)) (wf (i3 + 2)) (wf (i3 + 3)) (n0 - i3)))] [(.int (own_cl (wf i3) (wf (i3 + 1)) (wf (i3 + 2)) (wf (i3 + 3)) (n0 - i3))), (.int i3)]))
        refine own_st (fun t k => XS.iadd X5.here hx rfl (hb hby d3_66) rfl k) ?_
        show own_Go p e below G (T5.setTop (mkF m 67 #[.val (.ref wa), .val (.int n0), .val (.int i3), .val (.int (own_cl (wf i3) (wf (i3 + 1)) (wf (i3 + 2)) (wf (i3 + 3)) (n0 - i3)))] [(.int (i3 + (own_cl (wf i3) (wf (i3 + 1)) (wf (i3 + 2)) (wf (i3 + 3)) (n0 - i3))))]))
        refine own_st (fun t k => XS.istoreN X5.here hx rfl (hb hby d3_67) rfl (l' := #[.val (.ref wa), .val (.int n0), .val (.int (i3 + (own_cl (wf i3) (wf (i3 + 1)) (wf (i3 + 2)) (wf (i3 + 3)) (n0 - i3)))), .val (.int (own_cl (wf i3) (wf (i3 + 1)) (wf (i3 + 2)) (wf (i3 + 3)) (n0 - i3)))]) rfl k) ?_
        show own_Go p e below G (T5.setTop (mkF m 68 #[.val (.ref wa), .val (.int n0), .val (.int (i3 + (own_cl (wf i3) (wf (i3 + 1)) (wf (i3 + 2)) (wf (i3 + 3)) (n0 - i3)))), .val (.int (own_cl (wf i3) (wf (i3 + 1)) (wf (i3 + 2)) (wf (i3 + 3)) (n0 - i3)))] []))
        exact J68 _ X5 e5 _ _ (One.val rfl) (by rw [own_add hi3 (Int.le_of_lt (Int.lt_of_lt_of_le (Int32.lt_iff_toInt_lt.mp c48_4) (Int.le_trans hn0.2 (by decide)))) (own_clt _ _ _ _ _).1 (own_clt _ _ _ _ _).2]; exact Int.add_nonneg hi3 (own_clt _ _ _ _ _).1) (heq.trans (own_rfN c48_4 c59_6))
    · skip
      refine own_st (fun t k => XS.icmpYes X.here hx rfl (pc0 := 48) (pc' := 68) rfl (hb hby d3_48) rfl (flt c48_4).2.1 (by decide) (by decide) k) ?_
      show own_Go p e below G (T.setTop (mkF m 68 #[.val (.ref wa), .val (.int n0), .val (.int i3), s3] []))
      exact J68 _ X eT _ _ hs3 hi3 ((heq.trans (own_rfE c48_4 _)).trans (own_rfE c48_4 _).symm)
  have J24 : ∀ (T : State) (X : Stand p l e ({ frames := 1, cells := 0, slots := 0, locals := 20 } : Room) s m #[(.ref wa), (.int n0)] below meth c T [] 0 0) (eT : T.heap = h0) (i3 : Int32) (s3 : Slot) (hs3 : One s3) (hi3 : 0 ≤ i3.toInt) (heq : own_rf wf n0 4 0 = own_rf wf n0 3 i3), own_Go p e below G (T.setTop (mkF m 24 #[.val (.ref wa), .val (.int n0), .val (.int i3), s3] [])) := by
    intro T X eT i3 s3 hs3 hi3 heq
    refine own_st (fun t k => XS.iloadN X.here hx rfl (hb hby d3_24) rfl  k) ?_
    show own_Go p e below G (T.setTop (mkF m 25 #[.val (.ref wa), .val (.int n0), .val (.int i3), s3] [(.int i3)]))
    refine own_st (fun t k => XS.iloadN X.here hx rfl (hb hby d3_25) rfl  k) ?_
    show own_Go p e below G (T.setTop (mkF m 26 #[.val (.ref wa), .val (.int n0), .val (.int i3), s3] [(.int n0), (.int i3)]))
    by_cases c26_7 : i3 < n0
    · skip
      refine own_st (fun t k => XS.icmpNo X.here hx rfl (hb hby d3_26) rfl (tlt c26_7).2.1 k) ?_
      show own_Go p e below G (T.setTop (mkF m 29 #[.val (.ref wa), .val (.int n0), .val (.int i3), s3] []))
      refine own_st (fun t k => XS.aloadN X.here hx rfl (hb hby d3_29) rfl rfl  k) ?_
      show own_Go p e below G (T.setTop (mkF m 30 #[.val (.ref wa), .val (.int n0), .val (.int i3), s3] [(.ref wa)]))
      refine own_st (fun t k => XS.iloadN X.here hx rfl (hb hby d3_30) rfl  k) ?_
      show own_Go p e below G (T.setTop (mkF m 31 #[.val (.ref wa), .val (.int n0), .val (.int i3), s3] [(.int i3), (.ref wa)]))
      refine own_st (fun t k => XS.iloadN X.here hx rfl (hb hby d3_31) rfl  k) ?_
      show own_Go p e below G (T.setTop (mkF m 32 #[.val (.ref wa), .val (.int n0), .val (.int i3), s3] [(.int n0), (.int i3), (.ref wa)]))
      obtain ⟨v8, T8, L8, X8, Q8, st8⟩ := own_callS X hx hZ (y := (⟨"com/example/tidewater_cube/tidewatercube/source/Utf8IsValidPinLaw", "charLen", "([III)I"⟩ : MethodName)) hown (hw _ (List.mem_of_getElem? (i := 11) rfl)) (hw _ (List.mem_of_getElem? (i := 12) rfl)) (hw _ (List.mem_of_getElem? (i := 9) rfl)) (hw _ (List.mem_of_getElem? (i := 13) rfl)) (by decide) (W := 0) (rm2 l Z a0 hw wa i3 n0 cl0 wf h0 hn0 Ar0 S0 hW hi3 c26_7) (by decide) (by decide) eT (g := (mkF m 32 #[.val (.ref wa), .val (.int n0), .val (.int i3), s3] [(.int n0), (.int i3), (.ref wa)])) rfl (by rw [hml]; rfl) (argsL := [(.ref wa), (.int i3), (.int n0)]) (rest := []) own_pd0 rfl rfl (by show 2 * 0 + _ ≤ _; exact Nat.le_of_eq rfl) (hb hby d3_32) rfl (by decide) (by decide)
      obtain ⟨rfl, rfl, e8⟩ := Q8
      simp only [List.append_nil, Nat.add_zero] at X8
      refine own_st st8 ?_
      show own_Go p e below G (T8.setTop (mkF m 35 #[.val (.ref wa), .val (.int n0), .val (.int i3), s3] [(.int (own_cl (wf i3) (wf (i3 + 1)) (wf (i3 + 2)) (wf (i3 + 3)) (n0 - i3)))]))
      refine own_st (fun t k => XS.istoreN X8.here hx rfl (hb hby d3_35) rfl (l' := #[.val (.ref wa), .val (.int n0), .val (.int i3), .val (.int (own_cl (wf i3) (wf (i3 + 1)) (wf (i3 + 2)) (wf (i3 + 3)) (n0 - i3)))]) (XS.store1 rfl hs3 rfl) k) ?_
      show own_Go p e below G (T8.setTop (mkF m 36 #[.val (.ref wa), .val (.int n0), .val (.int i3), .val (.int (own_cl (wf i3) (wf (i3 + 1)) (wf (i3 + 2)) (wf (i3 + 3)) (n0 - i3)))] []))
      refine own_st (fun t k => XS.iloadN X8.here hx rfl (hb hby d3_36) rfl  k) ?_
      show own_Go p e below G (T8.setTop (mkF m 37 #[.val (.ref wa), .val (.int n0), .val (.int i3), .val (.int (own_cl (wf i3) (wf (i3 + 1)) (wf (i3 + 2)) (wf (i3 + 3)) (n0 - i3)))] [(.int (own_cl (wf i3) (wf (i3 + 1)) (wf (i3 + 2)) (wf (i3 + 3)) (n0 - i3)))]))
      by_cases c37_9 : (own_cl (wf i3) (wf (i3 + 1)) (wf (i3 + 2)) (wf (i3 + 3)) (n0 - i3)) = (0 : Int32)
      · skip
        refine own_st (fun t k => XS.ifNo X8.here hx rfl (hb hby d3_37) rfl ((if0 _ _).trans (teq c37_9).2) k) ?_
        show own_Go p e below G (T8.setTop (mkF m 40 #[.val (.ref wa), .val (.int n0), .val (.int i3), .val (.int (own_cl (wf i3) (wf (i3 + 1)) (wf (i3 + 2)) (wf (i3 + 3)) (n0 - i3)))] []))
        refine own_st (fun t k => XS.iconst X8.here hx rfl (hb hby d3_40) k) ?_
        show own_Go p e below G (T8.setTop (mkF m 41 #[.val (.ref wa), .val (.int n0), .val (.int i3), .val (.int (own_cl (wf i3) (wf (i3 + 1)) (wf (i3 + 2)) (wf (i3 + 3)) (n0 - i3)))] [(.int (0 : Int32))]))
        rw [hG]
        exact own_retZ X8 hx hlk (t := .boolean) hret (by simp) (hb hby d3_41) ⟨congrArg (fun z => some (Value.int z)) (show (0 : Int32) = own_rf wf n0 4 0 from (heq.trans (own_rf0 c26_7 c37_9)).symm), rfl, e8⟩ (by decide) (by decide)
      · skip
        refine own_st (fun t k => XS.ifYes X8.here hx rfl (pc0 := 37) (pc' := 42) rfl (hb hby d3_37) rfl ((if0 _ _).trans (feq c37_9).2) (by decide) (by decide) k) ?_
        show own_Go p e below G (T8.setTop (mkF m 42 #[.val (.ref wa), .val (.int n0), .val (.int i3), .val (.int (own_cl (wf i3) (wf (i3 + 1)) (wf (i3 + 2)) (wf (i3 + 3)) (n0 - i3)))] []))
        refine own_st (fun t k => XS.iloadN X8.here hx rfl (hb hby d3_42) rfl  k) ?_
        show own_Go p e below G (T8.setTop (mkF m 43 #[.val (.ref wa), .val (.int n0), .val (.int i3), .val (.int (own_cl (wf i3) (wf (i3 + 1)) (wf (i3 + 2)) (wf (i3 + 3)) (n0 - i3)))] [(.int i3)]))
        refine own_st (fun t k => XS.iloadN X8.here hx rfl (hb hby d3_43) rfl  k) ?_
        show own_Go p e below G (T8.setTop (mkF m 44 #[.val (.ref wa), .val (.int n0), .val (.int i3), .val (.int (own_cl (wf i3) (wf (i3 + 1)) (wf (i3 + 2)) (wf (i3 + 3)) (n0 - i3)))] [(.int (own_cl (wf i3) (wf (i3 + 1)) (wf (i3 + 2)) (wf (i3 + 3)) (n0 - i3))), (.int i3)]))
        refine own_st (fun t k => XS.iadd X8.here hx rfl (hb hby d3_44) rfl k) ?_
        show own_Go p e below G (T8.setTop (mkF m 45 #[.val (.ref wa), .val (.int n0), .val (.int i3), .val (.int (own_cl (wf i3) (wf (i3 + 1)) (wf (i3 + 2)) (wf (i3 + 3)) (n0 - i3)))] [(.int (i3 + (own_cl (wf i3) (wf (i3 + 1)) (wf (i3 + 2)) (wf (i3 + 3)) (n0 - i3))))]))
        refine own_st (fun t k => XS.istoreN X8.here hx rfl (hb hby d3_45) rfl (l' := #[.val (.ref wa), .val (.int n0), .val (.int (i3 + (own_cl (wf i3) (wf (i3 + 1)) (wf (i3 + 2)) (wf (i3 + 3)) (n0 - i3)))), .val (.int (own_cl (wf i3) (wf (i3 + 1)) (wf (i3 + 2)) (wf (i3 + 3)) (n0 - i3)))]) rfl k) ?_
        show own_Go p e below G (T8.setTop (mkF m 46 #[.val (.ref wa), .val (.int n0), .val (.int (i3 + (own_cl (wf i3) (wf (i3 + 1)) (wf (i3 + 2)) (wf (i3 + 3)) (n0 - i3)))), .val (.int (own_cl (wf i3) (wf (i3 + 1)) (wf (i3 + 2)) (wf (i3 + 3)) (n0 - i3)))] []))
        exact J46 _ X8 e8 _ _ (One.val rfl) (by rw [own_add hi3 (Int.le_of_lt (Int.lt_of_lt_of_le (Int32.lt_iff_toInt_lt.mp c26_7) (Int.le_trans hn0.2 (by decide)))) (own_clt _ _ _ _ _).1 (own_clt _ _ _ _ _).2]; exact Int.add_nonneg hi3 (own_clt _ _ _ _ _).1) (heq.trans (own_rfN c26_7 c37_9))
    · skip
      refine own_st (fun t k => XS.icmpYes X.here hx rfl (pc0 := 26) (pc' := 46) rfl (hb hby d3_26) rfl (flt c26_7).2.1 (by decide) (by decide) k) ?_
      show own_Go p e below G (T.setTop (mkF m 46 #[.val (.ref wa), .val (.int n0), .val (.int i3), s3] []))
      exact J46 _ X eT _ _ hs3 hi3 ((heq.trans (own_rfE c26_7 _)).trans (own_rfE c26_7 _).symm)
  have J2 : ∀ (T : State) (X : Stand p l e ({ frames := 1, cells := 0, slots := 0, locals := 20 } : Room) s m #[(.ref wa), (.int n0)] below meth c T [] 0 0) (eT : T.heap = h0) (i3 : Int32) (s3 : Slot) (hs3 : One s3) (hi3 : 0 ≤ i3.toInt) (heq : own_rf wf n0 4 0 = own_rf wf n0 4 i3), own_Go p e below G (T.setTop (mkF m 2 #[.val (.ref wa), .val (.int n0), .val (.int i3), s3] [])) := by
    intro T X eT i3 s3 hs3 hi3 heq
    refine own_st (fun t k => XS.iloadN X.here hx rfl (hb hby d3_2) rfl  k) ?_
    show own_Go p e below G (T.setTop (mkF m 3 #[.val (.ref wa), .val (.int n0), .val (.int i3), s3] [(.int i3)]))
    refine own_st (fun t k => XS.iloadN X.here hx rfl (hb hby d3_3) rfl  k) ?_
    show own_Go p e below G (T.setTop (mkF m 4 #[.val (.ref wa), .val (.int n0), .val (.int i3), s3] [(.int n0), (.int i3)]))
    by_cases c4_10 : i3 < n0
    · skip
      refine own_st (fun t k => XS.icmpNo X.here hx rfl (hb hby d3_4) rfl (tlt c4_10).2.1 k) ?_
      show own_Go p e below G (T.setTop (mkF m 7 #[.val (.ref wa), .val (.int n0), .val (.int i3), s3] []))
      refine own_st (fun t k => XS.aloadN X.here hx rfl (hb hby d3_7) rfl rfl  k) ?_
      show own_Go p e below G (T.setTop (mkF m 8 #[.val (.ref wa), .val (.int n0), .val (.int i3), s3] [(.ref wa)]))
      refine own_st (fun t k => XS.iloadN X.here hx rfl (hb hby d3_8) rfl  k) ?_
      show own_Go p e below G (T.setTop (mkF m 9 #[.val (.ref wa), .val (.int n0), .val (.int i3), s3] [(.int i3), (.ref wa)]))
      refine own_st (fun t k => XS.iloadN X.here hx rfl (hb hby d3_9) rfl  k) ?_
      show own_Go p e below G (T.setTop (mkF m 10 #[.val (.ref wa), .val (.int n0), .val (.int i3), s3] [(.int n0), (.int i3), (.ref wa)]))
      obtain ⟨v11, T11, L11, X11, Q11, st11⟩ := own_callS X hx hZ (y := (⟨"com/example/tidewater_cube/tidewatercube/source/Utf8IsValidPinLaw", "charLen", "([III)I"⟩ : MethodName)) hown (hw _ (List.mem_of_getElem? (i := 11) rfl)) (hw _ (List.mem_of_getElem? (i := 12) rfl)) (hw _ (List.mem_of_getElem? (i := 9) rfl)) (hw _ (List.mem_of_getElem? (i := 13) rfl)) (by decide) (W := 0) (rm2 l Z a0 hw wa i3 n0 cl0 wf h0 hn0 Ar0 S0 hW hi3 c4_10) (by decide) (by decide) eT (g := (mkF m 10 #[.val (.ref wa), .val (.int n0), .val (.int i3), s3] [(.int n0), (.int i3), (.ref wa)])) rfl (by rw [hml]; rfl) (argsL := [(.ref wa), (.int i3), (.int n0)]) (rest := []) own_pd0 rfl rfl (by show 2 * 0 + _ ≤ _; exact Nat.le_of_eq rfl) (hb hby d3_10) rfl (by decide) (by decide)
      obtain ⟨rfl, rfl, e11⟩ := Q11
      simp only [List.append_nil, Nat.add_zero] at X11
      refine own_st st11 ?_
      show own_Go p e below G (T11.setTop (mkF m 13 #[.val (.ref wa), .val (.int n0), .val (.int i3), s3] [(.int (own_cl (wf i3) (wf (i3 + 1)) (wf (i3 + 2)) (wf (i3 + 3)) (n0 - i3)))]))
      refine own_st (fun t k => XS.istoreN X11.here hx rfl (hb hby d3_13) rfl (l' := #[.val (.ref wa), .val (.int n0), .val (.int i3), .val (.int (own_cl (wf i3) (wf (i3 + 1)) (wf (i3 + 2)) (wf (i3 + 3)) (n0 - i3)))]) (XS.store1 rfl hs3 rfl) k) ?_
      show own_Go p e below G (T11.setTop (mkF m 14 #[.val (.ref wa), .val (.int n0), .val (.int i3), .val (.int (own_cl (wf i3) (wf (i3 + 1)) (wf (i3 + 2)) (wf (i3 + 3)) (n0 - i3)))] []))
      refine own_st (fun t k => XS.iloadN X11.here hx rfl (hb hby d3_14) rfl  k) ?_
      show own_Go p e below G (T11.setTop (mkF m 15 #[.val (.ref wa), .val (.int n0), .val (.int i3), .val (.int (own_cl (wf i3) (wf (i3 + 1)) (wf (i3 + 2)) (wf (i3 + 3)) (n0 - i3)))] [(.int (own_cl (wf i3) (wf (i3 + 1)) (wf (i3 + 2)) (wf (i3 + 3)) (n0 - i3)))]))
      by_cases c15_12 : (own_cl (wf i3) (wf (i3 + 1)) (wf (i3 + 2)) (wf (i3 + 3)) (n0 - i3)) = (0 : Int32)
      · skip
        refine own_st (fun t k => XS.ifNo X11.here hx rfl (hb hby d3_15) rfl ((if0 _ _).trans (teq c15_12).2) k) ?_
        show own_Go p e below G (T11.setTop (mkF m 18 #[.val (.ref wa), .val (.int n0), .val (.int i3), .val (.int (own_cl (wf i3) (wf (i3 + 1)) (wf (i3 + 2)) (wf (i3 + 3)) (n0 - i3)))] []))
        refine own_st (fun t k => XS.iconst X11.here hx rfl (hb hby d3_18) k) ?_
        show own_Go p e below G (T11.setTop (mkF m 19 #[.val (.ref wa), .val (.int n0), .val (.int i3), .val (.int (own_cl (wf i3) (wf (i3 + 1)) (wf (i3 + 2)) (wf (i3 + 3)) (n0 - i3)))] [(.int (0 : Int32))]))
        rw [hG]
        exact own_retZ X11 hx hlk (t := .boolean) hret (by simp) (hb hby d3_19) ⟨congrArg (fun z => some (Value.int z)) (show (0 : Int32) = own_rf wf n0 4 0 from (heq.trans (own_rf0 c4_10 c15_12)).symm), rfl, e11⟩ (by decide) (by decide)
      · skip
        refine own_st (fun t k => XS.ifYes X11.here hx rfl (pc0 := 15) (pc' := 20) rfl (hb hby d3_15) rfl ((if0 _ _).trans (feq c15_12).2) (by decide) (by decide) k) ?_
        show own_Go p e below G (T11.setTop (mkF m 20 #[.val (.ref wa), .val (.int n0), .val (.int i3), .val (.int (own_cl (wf i3) (wf (i3 + 1)) (wf (i3 + 2)) (wf (i3 + 3)) (n0 - i3)))] []))
        refine own_st (fun t k => XS.iloadN X11.here hx rfl (hb hby d3_20) rfl  k) ?_
        show own_Go p e below G (T11.setTop (mkF m 21 #[.val (.ref wa), .val (.int n0), .val (.int i3), .val (.int (own_cl (wf i3) (wf (i3 + 1)) (wf (i3 + 2)) (wf (i3 + 3)) (n0 - i3)))] [(.int i3)]))
        refine own_st (fun t k => XS.iloadN X11.here hx rfl (hb hby d3_21) rfl  k) ?_
        show own_Go p e below G (T11.setTop (mkF m 22 #[.val (.ref wa), .val (.int n0), .val (.int i3), .val (.int (own_cl (wf i3) (wf (i3 + 1)) (wf (i3 + 2)) (wf (i3 + 3)) (n0 - i3)))] [(.int (own_cl (wf i3) (wf (i3 + 1)) (wf (i3 + 2)) (wf (i3 + 3)) (n0 - i3))), (.int i3)]))
        refine own_st (fun t k => XS.iadd X11.here hx rfl (hb hby d3_22) rfl k) ?_
        show own_Go p e below G (T11.setTop (mkF m 23 #[.val (.ref wa), .val (.int n0), .val (.int i3), .val (.int (own_cl (wf i3) (wf (i3 + 1)) (wf (i3 + 2)) (wf (i3 + 3)) (n0 - i3)))] [(.int (i3 + (own_cl (wf i3) (wf (i3 + 1)) (wf (i3 + 2)) (wf (i3 + 3)) (n0 - i3))))]))
        refine own_st (fun t k => XS.istoreN X11.here hx rfl (hb hby d3_23) rfl (l' := #[.val (.ref wa), .val (.int n0), .val (.int (i3 + (own_cl (wf i3) (wf (i3 + 1)) (wf (i3 + 2)) (wf (i3 + 3)) (n0 - i3)))), .val (.int (own_cl (wf i3) (wf (i3 + 1)) (wf (i3 + 2)) (wf (i3 + 3)) (n0 - i3)))]) rfl k) ?_
        show own_Go p e below G (T11.setTop (mkF m 24 #[.val (.ref wa), .val (.int n0), .val (.int (i3 + (own_cl (wf i3) (wf (i3 + 1)) (wf (i3 + 2)) (wf (i3 + 3)) (n0 - i3)))), .val (.int (own_cl (wf i3) (wf (i3 + 1)) (wf (i3 + 2)) (wf (i3 + 3)) (n0 - i3)))] []))
        exact J24 _ X11 e11 _ _ (One.val rfl) (by rw [own_add hi3 (Int.le_of_lt (Int.lt_of_lt_of_le (Int32.lt_iff_toInt_lt.mp c4_10) (Int.le_trans hn0.2 (by decide)))) (own_clt _ _ _ _ _).1 (own_clt _ _ _ _ _).2]; exact Int.add_nonneg hi3 (own_clt _ _ _ _ _).1) (heq.trans (own_rfN c4_10 c15_12))
    · skip
      refine own_st (fun t k => XS.icmpYes X.here hx rfl (pc0 := 4) (pc' := 24) rfl (hb hby d3_4) rfl (flt c4_10).2.1 (by decide) (by decide) k) ?_
      show own_Go p e below G (T.setTop (mkF m 24 #[.val (.ref wa), .val (.int n0), .val (.int i3), s3] []))
      exact J24 _ X eT _ _ hs3 hi3 ((heq.trans (own_rfE c4_10 _)).trans (own_rfE c4_10 _).symm)
  exact J2 _ X0 e0 0 _ One.u (by decide) rfl
theorem own_bits : ∀ k : Fin 256, ((((Int32.ofInt (k.1 : Int)) &&& 128) = 0 ↔ (Int32.ofInt (k.1 : Int)).toInt < 128) ∧ (((Int32.ofInt (k.1 : Int)) &&& 224) = 192 ↔ 192 ≤ (Int32.ofInt (k.1 : Int)).toInt ∧ (Int32.ofInt (k.1 : Int)).toInt < 224) ∧ (((Int32.ofInt (k.1 : Int)) &&& 240) = 224 ↔ 224 ≤ (Int32.ofInt (k.1 : Int)).toInt ∧ (Int32.ofInt (k.1 : Int)).toInt < 240) ∧ (((Int32.ofInt (k.1 : Int)) &&& 248) = 240 ↔ 240 ≤ (Int32.ofInt (k.1 : Int)).toInt ∧ (Int32.ofInt (k.1 : Int)).toInt < 248) ∧ (((Int32.ofInt (k.1 : Int)) &&& 192) = 128 ↔ 128 ≤ (Int32.ofInt (k.1 : Int)).toInt ∧ (Int32.ofInt (k.1 : Int)).toInt < 192)) := by decide +kernel
theorem own_bit {x : Int32} (h0 : 0 ≤ x.toInt) (h1 : x.toInt < 256) : ((x &&& 128) = 0 ↔ x.toInt < 128) ∧ ((x &&& 224) = 192 ↔ 192 ≤ x.toInt ∧ x.toInt < 224) ∧ ((x &&& 240) = 224 ↔ 224 ≤ x.toInt ∧ x.toInt < 240) ∧ ((x &&& 248) = 240 ↔ 240 ≤ x.toInt ∧ x.toInt < 248) ∧ ((x &&& 192) = 128 ↔ 128 ≤ x.toInt ∧ x.toInt < 192) := by
  have e : Int32.ofInt ((x.toInt.toNat : Nat) : Int) = x := by rw [Int.toNat_of_nonneg h0]; exact Int32.ofInt_toInt x
  have := own_bits ⟨x.toInt.toNat, by omega⟩
  simp only [e] at this; exact this
theorem own_shl {x q : Int32} (k : Nat) (hk : q.toBitVec.toNat % 32 = k) (h0 : 0 ≤ x.toInt) (h1 : x.toInt * (2 ^ k : Nat) < 2147483648) : (x <<< (q &&& 31)).toInt = x.toInt * (2 ^ k : Nat) := by
  have a := c_ishl x q k hk
  have b := Int32.toInt_lt (x <<< (q &&& 31))
  have c := Int32.le_toInt (x <<< (q &&& 31))
  have d : 0 ≤ x.toInt * (2 ^ k : Nat) := Int.mul_nonneg h0 (Int.natCast_nonneg _)
  omega
theorem own_orr {a b : Int32} (k : Nat) (hk : k ≤ 31) (P : Int) (hP : P = (2 ^ k : Nat)) (h1 : a.toInt % P = 0) (h2 : 0 ≤ b.toInt) (h3 : b.toInt < P) (h4 : 0 ≤ a.toInt) (h5 : a.toInt + b.toInt < 2147483648) : (a ||| b).toInt = a.toInt + b.toInt := by
  have a1 := c_or a b k hk P hP h1 h2 h3
  have b1 := Int32.toInt_lt (a ||| b)
  have c1 := Int32.le_toInt (a ||| b)
  omega
theorem own_cp2 {d c1 : Int32} : (((d &&& 31) <<< ((6 : Int32) &&& 31)) ||| (c1 &&& 63)).toInt = (d.toInt % 32) * 64 + c1.toInt % 64 := by
  have m1 := c_mask d 31 5 (by decide) (by decide)
  have m2 := c_mask c1 63 6 (by decide) (by decide)
  simp only [Nat.reducePow, Int.cast_ofNat_Int] at m1 m2
  have s1 := own_shl (x := d &&& 31) (q := 6) 6 (by decide) (by omega) (by simp only [Nat.reducePow, Int.cast_ofNat_Int]; omega)
  simp only [Nat.reducePow, Int.cast_ofNat_Int] at s1
  rw [own_orr 6 (by decide) 64 (by decide) (by omega) (by omega) (by omega) (by omega) (by omega), s1, m1, m2]
theorem own_cp3 {d c1 c2 : Int32} : ((((d &&& 15) <<< ((12 : Int32) &&& 31)) ||| ((c1 &&& 63) <<< ((6 : Int32) &&& 31))) ||| (c2 &&& 63)).toInt = (d.toInt % 16) * 4096 + (c1.toInt % 64) * 64 + c2.toInt % 64 := by
  have m1 := c_mask d 15 4 (by decide) (by decide)
  have m2 := c_mask c1 63 6 (by decide) (by decide)
  have m3 := c_mask c2 63 6 (by decide) (by decide)
  simp only [Nat.reducePow, Int.cast_ofNat_Int] at m1 m2 m3
  have s1 := own_shl (x := d &&& 15) (q := 12) 12 (by decide) (by omega) (by simp only [Nat.reducePow, Int.cast_ofNat_Int]; omega)
  have s2 := own_shl (x := c1 &&& 63) (q := 6) 6 (by decide) (by omega) (by simp only [Nat.reducePow, Int.cast_ofNat_Int]; omega)
  simp only [Nat.reducePow, Int.cast_ofNat_Int] at s1 s2
  have o1 := own_orr (a := (d &&& 15) <<< ((12 : Int32) &&& 31)) (b := (c1 &&& 63) <<< ((6 : Int32) &&& 31)) 12 (by decide) 4096 (by decide) (by omega) (by omega) (by omega) (by omega) (by omega)
  rw [own_orr 6 (by decide) 64 (by decide) (by omega) (by omega) (by omega) (by omega) (by omega), o1, s1, s2, m1, m2, m3]
theorem own_cp4 {d c1 c2 c3 : Int32} : (((((d &&& 7) <<< ((18 : Int32) &&& 31)) ||| ((c1 &&& 63) <<< ((12 : Int32) &&& 31))) ||| ((c2 &&& 63) <<< ((6 : Int32) &&& 31))) ||| (c3 &&& 63)).toInt = (d.toInt % 8) * 262144 + (c1.toInt % 64) * 4096 + (c2.toInt % 64) * 64 + c3.toInt % 64 := by
  have m1 := c_mask d 7 3 (by decide) (by decide)
  have m2 := c_mask c1 63 6 (by decide) (by decide)
  have m3 := c_mask c2 63 6 (by decide) (by decide)
  have m4 := c_mask c3 63 6 (by decide) (by decide)
  simp only [Nat.reducePow, Int.cast_ofNat_Int] at m1 m2 m3 m4
  have s1 := own_shl (x := d &&& 7) (q := 18) 18 (by decide) (by omega) (by simp only [Nat.reducePow, Int.cast_ofNat_Int]; omega)
  have s2 := own_shl (x := c1 &&& 63) (q := 12) 12 (by decide) (by omega) (by simp only [Nat.reducePow, Int.cast_ofNat_Int]; omega)
  have s3 := own_shl (x := c2 &&& 63) (q := 6) 6 (by decide) (by omega) (by simp only [Nat.reducePow, Int.cast_ofNat_Int]; omega)
  simp only [Nat.reducePow, Int.cast_ofNat_Int] at s1 s2 s3
  have o1 := own_orr (a := (d &&& 7) <<< ((18 : Int32) &&& 31)) (b := (c1 &&& 63) <<< ((12 : Int32) &&& 31)) 18 (by decide) 262144 (by decide) (by omega) (by omega) (by omega) (by omega) (by omega)
  have o2 := own_orr (a := ((d &&& 7) <<< ((18 : Int32) &&& 31)) ||| ((c1 &&& 63) <<< ((12 : Int32) &&& 31))) (b := (c2 &&& 63) <<< ((6 : Int32) &&& 31)) 12 (by decide) 4096 (by decide) (by omega) (by omega) (by omega) (by omega) (by omega)
  rw [own_orr 6 (by decide) 64 (by decide) (by omega) (by omega) (by omega) (by omega) (by omega), o2, o1, s1, s2, s3, m1, m2, m3, m4]
set_option maxHeartbeats 8000000 in
theorem own_vc {d c1 c2 c3 av : Int32} (hd : 0 ≤ d.toInt ∧ d.toInt < 256) (h1 : 0 ≤ c1.toInt ∧ c1.toInt < 256) (h2 : 0 ≤ c2.toInt ∧ c2.toInt < 256) (h3 : 0 ≤ c3.toInt ∧ c3.toInt < 256) : own_vl d c1 c2 c3 av = own_cl d c1 c2 c3 av := by
  obtain ⟨a1, a2, a3, a4, -⟩ := own_bit hd.1 hd.2
  obtain ⟨-, -, -, -, b1⟩ := own_bit h1.1 h1.2
  obtain ⟨-, -, -, -, b2⟩ := own_bit h2.1 h2.2
  obtain ⟨-, -, -, -, b3⟩ := own_bit h3.1 h3.2
  have e2 := @own_cp2 d c1
  have e3 := @own_cp3 d c1 c2
  have e4 := @own_cp4 d c1 c2 c3
  unfold own_vl own_cl
  simp only [a1, a2, a3, a4, b1, b2, b3]
  generalize (((d &&& 31) <<< ((6 : Int32) &&& 31)) ||| (c1 &&& 63)) = p2 at *
  generalize ((((d &&& 15) <<< ((12 : Int32) &&& 31)) ||| ((c1 &&& 63) <<< ((6 : Int32) &&& 31))) ||| (c2 &&& 63)) = p3 at *
  generalize (((((d &&& 7) <<< ((18 : Int32) &&& 31)) ||| ((c1 &&& 63) <<< ((12 : Int32) &&& 31))) ||| ((c2 &&& 63) <<< ((6 : Int32) &&& 31))) ||| (c3 &&& 63)) = p4 at *
  have t240 : (if d = 240 then (144 : Int32) else 128).toInt = if d.toInt = 240 then 144 else 128 := by
    simp only [← Int32.toInt_inj, show (240 : Int32).toInt = 240 from rfl]; split <;> rfl
  have t244 : (if d = 244 then (143 : Int32) else 191).toInt = if d.toInt = 244 then 143 else 191 := by
    simp only [← Int32.toInt_inj, show (244 : Int32).toInt = 244 from rfl]; split <;> rfl
  have t224 : (if d = 224 then (160 : Int32) else 128).toInt = if d.toInt = 224 then 160 else 128 := by
    simp only [← Int32.toInt_inj, show (224 : Int32).toInt = 224 from rfl]; split <;> rfl
  have t237 : (if d = 237 then (159 : Int32) else 191).toInt = if d.toInt = 237 then 159 else 191 := by
    simp only [← Int32.toInt_inj, show (237 : Int32).toInt = 237 from rfl]; split <;> rfl
  simp only [Int32.lt_iff_toInt_lt, t240, t244, t224, t237, show (128 : Int32).toInt = 128 from rfl, show (194 : Int32).toInt = 194 from rfl, show (223 : Int32).toInt = 223 from rfl, show (239 : Int32).toInt = 239 from rfl, show (244 : Int32).toInt = 244 from rfl, show (191 : Int32).toInt = 191 from rfl, show (2 : Int32).toInt = 2 from rfl, show (3 : Int32).toInt = 3 from rfl, show (4 : Int32).toInt = 4 from rfl, show (2048 : Int32).toInt = 2048 from rfl, show (55296 : Int32).toInt = 55296 from rfl, show (57343 : Int32).toInt = 57343 from rfl, show (65536 : Int32).toInt = 65536 from rfl, show (1114111 : Int32).toInt = 1114111 from rfl]
  generalize d.toInt = D at *
  generalize c1.toInt = C1 at *
  generalize c2.toInt = C2 at *
  generalize c3.toInt = C3 at *
  generalize av.toInt = AV at *
  generalize p2.toInt = P2 at *
  generalize p3.toInt = P3 at *
  generalize p4.toInt = P4 at *
  clear a1 a2 a3 a4 b1 b2 b3 t240 t244 t224 t237
  by_cases q1 : D < 128
  · rw [if_pos q1, if_pos q1]
  rw [if_neg q1, if_neg q1]
  by_cases q2 : D < 224
  · by_cases q3 : D < 194
    · rw [if_pos q3]
      repeat' split
      all_goals first | rfl | omega
    · rw [if_neg q3, if_neg (show ¬ 223 < D by omega), if_pos (show 192 ≤ D ∧ D < 224 by omega)]
      repeat' split
      all_goals first | rfl | omega
  by_cases q4 : D < 240
  · rw [if_neg (show ¬ D < 194 by omega), if_pos (show 223 < D by omega), if_neg (show ¬ 239 < D by omega), if_neg (show ¬ (192 ≤ D ∧ D < 224) by omega), if_pos (show 224 ≤ D ∧ D < 240 by omega)]
    repeat' split
    all_goals first | rfl | omega
  rw [if_neg (show ¬ D < 194 by omega), if_pos (show 223 < D by omega), if_pos (show 239 < D by omega), if_neg (show ¬ (192 ≤ D ∧ D < 224) by omega), if_neg (show ¬ (224 ≤ D ∧ D < 240) by omega)]
  repeat' split
  all_goals first | rfl | omega
theorem own_m255 (x : Int32) : 0 ≤ (x &&& 255).toInt ∧ (x &&& 255).toInt < 256 := by
  have m1 := c_mask x 255 8 (by decide) (by decide)
  simp only [Nat.reducePow, Int.cast_ofNat_Int] at m1
  omega
theorem own_same (B : Int32 → Int32) (n : Int32) (hn : 0 ≤ n.toInt ∧ n.toInt ≤ 4) (k : Nat) : ∀ i : Int32, 0 ≤ i.toInt → i.toInt ≤ 4 → own_vr B (1 + n) k (i + 1) = own_rf (fun j => B (j + 1) &&& 255) n k i := by
  induction k with
  | zero => intro i _ _; rfl
  | succ k ih =>
    intro i h0 h4
    have e1 : ((1 : Int32) + n).toInt = 1 + n.toInt := own_add (by decide) (by decide) hn.1 hn.2
    have e2 : (i + 1).toInt = i.toInt + 1 := own_add h0 (by omega) (by decide) (by decide)
    have e3 : ((1 + n) - (i + 1)) = n - i := by
      rw [← Int32.toInt_inj, own_sub (by omega) (by omega) (by omega) (by omega), own_sub h0 (by omega) hn.1 (by omega)]; omega
    have a1 : i + 1 + 1 = (i + 1) + 1 := rfl
    have a2 : i + 1 + 2 = (i + 2) + 1 := by rw [Int32.add_assoc, Int32.add_assoc, Int32.add_comm 1 2]
    have a3 : i + 1 + 3 = (i + 3) + 1 := by rw [Int32.add_assoc, Int32.add_assoc, Int32.add_comm 1 3]
    have v := own_vc (d := B (i + 1) &&& 255) (c1 := B (i + 1 + 1) &&& 255) (c2 := B (i + 2 + 1) &&& 255) (c3 := B (i + 3 + 1) &&& 255) (av := n - i) (own_m255 _) (own_m255 _) (own_m255 _) (own_m255 _)
    show (if i + 1 < 1 + n then (if own_vl (B (i + 1) &&& 255) (B (i + 1 + 1) &&& 255) (B (i + 1 + 2) &&& 255) (B (i + 1 + 3) &&& 255) ((1 + n) - (i + 1)) = 0 then 0 else own_vr B (1 + n) k (i + 1 + own_vl (B (i + 1) &&& 255) (B (i + 1 + 1) &&& 255) (B (i + 1 + 2) &&& 255) (B (i + 1 + 3) &&& 255) ((1 + n) - (i + 1)))) else 1) =
      (if i < n then (if own_cl (B (i + 1) &&& 255) (B (i + 1 + 1) &&& 255) (B (i + 2 + 1) &&& 255) (B (i + 3 + 1) &&& 255) (n - i) = 0 then 0 else own_rf (fun j => B (j + 1) &&& 255) n k (i + own_cl (B (i + 1) &&& 255) (B (i + 1 + 1) &&& 255) (B (i + 2 + 1) &&& 255) (B (i + 3 + 1) &&& 255) (n - i))) else 1)
    rw [e3, a2, a3, v]
    by_cases c : i < n
    · have c' : i + 1 < 1 + n := by rw [Int32.lt_iff_toInt_lt] at c ⊢; omega
      rw [if_pos c, if_pos c']
      obtain ⟨r1, r2⟩ := own_clt (B (i + 1) &&& 255) (B (i + 1 + 1) &&& 255) (B (i + 2 + 1) &&& 255) (B (i + 3 + 1) &&& 255) (n - i)
      generalize hq : own_cl (B (i + 1) &&& 255) (B (i + 1 + 1) &&& 255) (B (i + 2 + 1) &&& 255) (B (i + 3 + 1) &&& 255) (n - i) = q at *
      by_cases z : q = 0
      · rw [if_pos z, if_pos z]
      · rw [if_neg z, if_neg z]
        have e5 : i + 1 + q = (i + q) + 1 := by rw [Int32.add_assoc, Int32.add_assoc, Int32.add_comm 1 q]
        rw [e5]
        rw [Int32.lt_iff_toInt_lt] at c
        have e6 := own_add h0 (by omega) r1 r2
        by_cases g : (i + q).toInt ≤ 4
        · exact ih _ (by omega) g
        · have e7 : (i + q + 1).toInt = (i + q).toInt + 1 := by
            have := c_iadd (i + q) 1
            have := Int32.toInt_lt (i + q + 1)
            have := Int32.le_toInt (i + q + 1)
            have : (1 : Int32).toInt = 1 := rfl
            omega
          rw [own_vrE, own_rfE]
          · rw [Int32.lt_iff_toInt_lt]; omega
          · rw [Int32.lt_iff_toInt_lt]; omega
    · have c' : ¬ i + 1 < 1 + n := by rw [Int32.lt_iff_toInt_lt] at c ⊢; omega
      rw [if_neg c, if_neg c']
def own_B (v0 v1 v2 v3 v4 v5 j : Int32) : Int32 := if j = 0 then v0 else if j = 1 then v1 else if j = 2 then v2 else if j = 3 then v3 else if j = 4 then v4 else v5
theorem own_j6 {j : Int32} (h0 : ¬ j < 0) (h1 : j < 6) : j = 0 ∨ j = 1 ∨ j = 2 ∨ j = 3 ∨ j = 4 ∨ j = 5 := by
  simp only [Int32.lt_iff_toInt_lt, ← Int32.toInt_inj, show (0 : Int32).toInt = 0 from rfl, show (1 : Int32).toInt = 1 from rfl, show (2 : Int32).toInt = 2 from rfl, show (3 : Int32).toInt = 3 from rfl, show (4 : Int32).toInt = 4 from rfl, show (5 : Int32).toInt = 5 from rfl, show (6 : Int32).toInt = 6 from rfl] at *
  omega
theorem own_hB {cl : Cell} {v0 v1 v2 v3 v4 v5 : Int32} {dv : Value} (H : Has cl [.int v0, .int v1, .int v2, .int v3, .int v4, .int v5] dv) (S : cl.slots.size = (6 : Int32).toNatClampNeg) (j : Int32) (h0 : ¬ j < 0) (h1 : j < 6) : cl.slots[j.toNatClampNeg]? = some (.int (own_B v0 v1 v2 v3 v4 v5 j)) := by
  have hin := inb_of S ⟨h0, h1⟩
  rcases own_j6 h0 h1 with rfl | rfl | rfl | rfl | rfl | rfl
  all_goals exact H.at hin rfl
theorem own_byte (x : Int32) : ((nar .byte (((x &&& 255).toInt8.toInt32))) &&& 255) = (x &&& 255) := by
  have b1 := c_i2b (x &&& 255)
  have b2 := c_i2b ((x &&& 255).toInt8.toInt32)
  have m0 := own_m255 x
  have m1 := c_mask ((x &&& 255).toInt8.toInt32.toInt8.toInt32) 255 8 (by decide) (by decide)
  simp only [Nat.reducePow, Int.cast_ofNat_Int] at m1
  rw [← Int32.toInt_inj]
  show (((x &&& 255).toInt8.toInt32.toInt8.toInt32) &&& 255).toInt = _
  omega
theorem own_hW {cl : Cell} {w0 w1 w2 w3 v0 v1 v2 v3 v4 v5 : Int32} {dv : Value} (H : Has cl [.int w0, .int w1, .int w2, .int w3] dv) (S : cl.slots.size = (4 : Int32).toNatClampNeg) (q0 : (v1 &&& 255) = w0) (q1 : (v2 &&& 255) = w1) (q2 : (v3 &&& 255) = w2) (q3 : (v4 &&& 255) = w3) (j : Int32) (h0 : ¬ j < 0) (h1 : j < 4) : cl.slots[j.toNatClampNeg]? = some (.int ((fun j => own_B v0 v1 v2 v3 v4 v5 (j + 1) &&& 255) j)) := by
  have hin := inb_of S ⟨h0, h1⟩
  have hj : j = 0 ∨ j = 1 ∨ j = 2 ∨ j = 3 := by
    simp only [Int32.lt_iff_toInt_lt, ← Int32.toInt_inj, show (0 : Int32).toInt = 0 from rfl, show (1 : Int32).toInt = 1 from rfl, show (2 : Int32).toInt = 2 from rfl, show (3 : Int32).toInt = 3 from rfl, show (4 : Int32).toInt = 4 from rfl] at *
    omega
  subst q0 q1 q2 q3
  rcases hj with rfl | rfl | rfl | rfl
  all_goals exact H.at hin rfl
theorem own_n5 (x : Int32) : 0 ≤ ((x &&& 2147483647) % 5).toInt ∧ ((x &&& 2147483647) % 5).toInt ≤ 4 := by
  have h1 := (c_andS x 2147483647).2.2 (by decide)
  have h2 := (c_irem (x &&& 2147483647) 5 5 rfl).1 h1
  omega
theorem pn_rm0 : plainFor (⟨"com/example/tidewater_cube/tidewatercube/source/Utf8IsValidPinLaw", "law", "(IIIIII)Z"⟩ : MethodName) = true := by decide +kernel
theorem ef_rm0 (m : MethodId) (x0 : Int32) (x1 : Int32) (x2 : Int32) (x3 : Int32) (x4 : Int32) (x5 : Int32) : entryFrame m #[(.int x0), (.int x1), (.int x2), (.int x3), (.int x4), (.int x5)] maxLocals = mkF m 0 #[.val (.int x0), .val (.int x1), .val (.int x2), .val (.int x3), .val (.int x4), .val (.int x5), .unset, .unset, .unset, .unset] [] := by first | (simp [entryFrame, mkF, argsToLocals, Value.category, maxLocals]; done) | rfl
set_option maxRecDepth 65536 in
set_option maxHeartbeats 40000000 in
theorem rm0 (l : Launch) (Z : State) (a0 : Array Value) (hw : ∀ d ∈ tables_1, d.before a0 Z = true) (ws : List Jvm.Cond) (x0 x1 x2 x3 x4 x5 : Int32) (h0 : Heap) (n0 : Nat) (Z0 : n0 ≤ h0.size) :
    own_Met l Z x code maxLocals ret ws room_1 #[(.int x0), (.int x1), (.int x2), (.int x3), (.int x4), (.int x5)] h0 (fun v h L => v = some (.int 1) ∧ Fr n0 L) := by
  refine own_body pn_rm0 ?_
  intro p e s m below meth c s₁ hx hby hml hown hnm hret hlk hZ X0 e0 G hG
  replace hml : c.maxLocals = 10 := hml
  replace hown : s.vm.findClass "com/example/tidewater_cube/tidewatercube/source/Utf8IsValidPinLaw" = some m.cls := hown
  rw [ef_rm0]
  have N0 := Fr.nil n0
  show own_Go p e below G (s₁.setTop (mkF m 0 #[.val (.int x0), .val (.int x1), .val (.int x2), .val (.int x3), .val (.int x4), .val (.int x5), .unset, .unset, .unset, .unset] []))
  refine own_st (fun t k => XS.iconst X0.here hx rfl (hb hby at_0) k) ?_
  show own_Go p e below G (s₁.setTop (mkF m 1 #[.val (.int x0), .val (.int x1), .val (.int x2), .val (.int x3), .val (.int x4), .val (.int x5), .unset, .unset, .unset, .unset] [(.int (4 : Int32))]))
  obtain ⟨T1, h1, k1, X1, e1, E1, A1, st1⟩ := newP X0 hx hZ (hw _ (List.mem_of_getElem? (i := 0) rfl)) e0 (g := (mkF m 1 #[.val (.int x0), .val (.int x1), .val (.int x2), .val (.int x3), .val (.int x4), .val (.int x5), .unset, .unset, .unset, .unset] [(.int (4 : Int32))])) rfl (hb hby at_1) rfl (by decide) (cap := 4) (by decide) (by decide) (by decide) (by decide)
  obtain ⟨b1, gb1⟩ : ∃ z, z = h0.size := ⟨_, rfl⟩
  rw [← gb1] at A1 st1
  have g_b1 : n0 ≤ b1 := Nat.le_trans Z0 (Nat.le_of_eq gb1.symm)
  replace Z0 := Nat.le_trans Z0 E1.1
  have V_b1 : Arv Z h1 b1 k1 .int (4 : Int32) [(.int (0 : Int32)), (.int (0 : Int32)), (.int (0 : Int32)), (.int (0 : Int32))] (.int (0 : Int32)) := (Arv.new A1 (by decide)).pad (pad_rep [] (.int (0 : Int32)) 4)
  refine own_st st1 ?_
  show own_Go p e below G (T1.setTop (mkF m 3 #[.val (.int x0), .val (.int x1), .val (.int x2), .val (.int x3), .val (.int x4), .val (.int x5), .unset, .unset, .unset, .unset] [(.ref b1)]))
  refine own_st (fun t k => XS.astore X1.here hx rfl (hb hby at_3) rfl rfl (l' := #[.val (.int x0), .val (.int x1), .val (.int x2), .val (.int x3), .val (.int x4), .val (.int x5), .val (.ref b1), .unset, .unset, .unset]) rfl k) ?_
  show own_Go p e below G (T1.setTop (mkF m 5 #[.val (.int x0), .val (.int x1), .val (.int x2), .val (.int x3), .val (.int x4), .val (.int x5), .val (.ref b1), .unset, .unset, .unset] []))
  refine own_st (fun t k => XS.aload X1.here hx rfl (hb hby at_5) rfl rfl  k) ?_
  show own_Go p e below G (T1.setTop (mkF m 7 #[.val (.int x0), .val (.int x1), .val (.int x2), .val (.int x3), .val (.int x4), .val (.int x5), .val (.ref b1), .unset, .unset, .unset] [(.ref b1)]))
  refine own_st (fun t k => XS.iconst X1.here hx rfl (hb hby at_7) k) ?_
  show own_Go p e below G (T1.setTop (mkF m 8 #[.val (.int x0), .val (.int x1), .val (.int x2), .val (.int x3), .val (.int x4), .val (.int x5), .val (.ref b1), .unset, .unset, .unset] [(.int (0 : Int32)), (.ref b1)]))
  refine own_st (fun t k => XS.iloadN X1.here hx rfl (hb hby at_8) rfl  k) ?_
  show own_Go p e below G (T1.setTop (mkF m 9 #[.val (.int x0), .val (.int x1), .val (.int x2), .val (.int x3), .val (.int x4), .val (.int x5), .val (.ref b1), .unset, .unset, .unset] [(.int x0), (.int (0 : Int32)), (.ref b1)]))
  refine own_st (fun t k => XS.sipush X1.here hx rfl (hb hby at_9) k) ?_
  show own_Go p e below G (T1.setTop (mkF m 12 #[.val (.int x0), .val (.int x1), .val (.int x2), .val (.int x3), .val (.int x4), .val (.int x5), .val (.ref b1), .unset, .unset, .unset] [(.int (255 : Int32)), (.int x0), (.int (0 : Int32)), (.ref b1)]))
  refine own_st (fun t k => XS.iand X1.here hx rfl (hb hby at_12) rfl k) ?_
  show own_Go p e below G (T1.setTop (mkF m 13 #[.val (.int x0), .val (.int x1), .val (.int x2), .val (.int x3), .val (.int x4), .val (.int x5), .val (.ref b1), .unset, .unset, .unset] [(.int (x0 &&& (255 : Int32))), (.int (0 : Int32)), (.ref b1)]))
  obtain ⟨cl2, Ar2, qa2, Sa2, Na2, Ha2, Ga2⟩ := V_b1
  have hin2 : ¬ ((0 : Int32) < 0 ∨ cl2.slots.size ≤ ((0 : Int32)).toNatClampNeg) := inb_of Sa2 ⟨by decide, by decide⟩
  obtain ⟨T2, h2, X2, e2, W2, st2⟩ := stI X1 hx hZ e1 Ar2 (j := (0 : Int32)) hin2 (g := (mkF m 13 #[.val (.int x0), .val (.int x1), .val (.int x2), .val (.int x3), .val (.int x4), .val (.int x5), .val (.ref b1), .unset, .unset, .unset] [(.int (x0 &&& (255 : Int32))), (.int (0 : Int32)), (.ref b1)])) rfl rfl (hb hby at_13)
  have V_b1 : Arv Z h2 b1 k1 .int (4 : Int32) [(.int (x0 &&& (255 : Int32))), (.int (0 : Int32)), (.int (0 : Int32)), (.int (0 : Int32))] (.int (0 : Int32)) := Arv.set Ar2 qa2 Sa2 Na2 Ha2 Ga2 rfl W2 0 rfl (Nat.le_of_ble_eq_true rfl)
  replace Z0 := Nat.le_trans Z0 (Keep.of_wr W2).1
  replace N0 := Fr.snoc X2 N0 g_b1
  refine own_st st2 ?_
  show own_Go p e below G (T2.setTop (mkF m 14 #[.val (.int x0), .val (.int x1), .val (.int x2), .val (.int x3), .val (.int x4), .val (.int x5), .val (.ref b1), .unset, .unset, .unset] []))
  refine own_st (fun t k => XS.aload X2.here hx rfl (hb hby at_14) rfl rfl  k) ?_
  show own_Go p e below G (T2.setTop (mkF m 16 #[.val (.int x0), .val (.int x1), .val (.int x2), .val (.int x3), .val (.int x4), .val (.int x5), .val (.ref b1), .unset, .unset, .unset] [(.ref b1)]))
  refine own_st (fun t k => XS.iconst X2.here hx rfl (hb hby at_16) k) ?_
  show own_Go p e below G (T2.setTop (mkF m 17 #[.val (.int x0), .val (.int x1), .val (.int x2), .val (.int x3), .val (.int x4), .val (.int x5), .val (.ref b1), .unset, .unset, .unset] [(.int (1 : Int32)), (.ref b1)]))
  refine own_st (fun t k => XS.iloadN X2.here hx rfl (hb hby at_17) rfl  k) ?_
  show own_Go p e below G (T2.setTop (mkF m 18 #[.val (.int x0), .val (.int x1), .val (.int x2), .val (.int x3), .val (.int x4), .val (.int x5), .val (.ref b1), .unset, .unset, .unset] [(.int x1), (.int (1 : Int32)), (.ref b1)]))
  refine own_st (fun t k => XS.sipush X2.here hx rfl (hb hby at_18) k) ?_
  show own_Go p e below G (T2.setTop (mkF m 21 #[.val (.int x0), .val (.int x1), .val (.int x2), .val (.int x3), .val (.int x4), .val (.int x5), .val (.ref b1), .unset, .unset, .unset] [(.int (255 : Int32)), (.int x1), (.int (1 : Int32)), (.ref b1)]))
  refine own_st (fun t k => XS.iand X2.here hx rfl (hb hby at_21) rfl k) ?_
  show own_Go p e below G (T2.setTop (mkF m 22 #[.val (.int x0), .val (.int x1), .val (.int x2), .val (.int x3), .val (.int x4), .val (.int x5), .val (.ref b1), .unset, .unset, .unset] [(.int (x1 &&& (255 : Int32))), (.int (1 : Int32)), (.ref b1)]))
  obtain ⟨cl3, Ar3, qa3, Sa3, Na3, Ha3, Ga3⟩ := V_b1
  have hin3 : ¬ ((1 : Int32) < 0 ∨ cl3.slots.size ≤ ((1 : Int32)).toNatClampNeg) := inb_of Sa3 ⟨by decide, by decide⟩
  obtain ⟨T3, h3, X3, e3, W3, st3⟩ := stI X2 hx hZ e2 Ar3 (j := (1 : Int32)) hin3 (g := (mkF m 22 #[.val (.int x0), .val (.int x1), .val (.int x2), .val (.int x3), .val (.int x4), .val (.int x5), .val (.ref b1), .unset, .unset, .unset] [(.int (x1 &&& (255 : Int32))), (.int (1 : Int32)), (.ref b1)])) rfl rfl (hb hby at_22)
  have V_b1 : Arv Z h3 b1 k1 .int (4 : Int32) [(.int (x0 &&& (255 : Int32))), (.int (x1 &&& (255 : Int32))), (.int (0 : Int32)), (.int (0 : Int32))] (.int (0 : Int32)) := Arv.set Ar3 qa3 Sa3 Na3 Ha3 Ga3 rfl W3 1 rfl (Nat.le_of_ble_eq_true rfl)
  replace Z0 := Nat.le_trans Z0 (Keep.of_wr W3).1
  replace N0 := Fr.snoc X3 N0 g_b1
  refine own_st st3 ?_
  show own_Go p e below G (T3.setTop (mkF m 23 #[.val (.int x0), .val (.int x1), .val (.int x2), .val (.int x3), .val (.int x4), .val (.int x5), .val (.ref b1), .unset, .unset, .unset] []))
  refine own_st (fun t k => XS.aload X3.here hx rfl (hb hby at_23) rfl rfl  k) ?_
  show own_Go p e below G (T3.setTop (mkF m 25 #[.val (.int x0), .val (.int x1), .val (.int x2), .val (.int x3), .val (.int x4), .val (.int x5), .val (.ref b1), .unset, .unset, .unset] [(.ref b1)]))
  refine own_st (fun t k => XS.iconst X3.here hx rfl (hb hby at_25) k) ?_
  show own_Go p e below G (T3.setTop (mkF m 26 #[.val (.int x0), .val (.int x1), .val (.int x2), .val (.int x3), .val (.int x4), .val (.int x5), .val (.ref b1), .unset, .unset, .unset] [(.int (2 : Int32)), (.ref b1)]))
  refine own_st (fun t k => XS.iloadN X3.here hx rfl (hb hby at_26) rfl  k) ?_
  show own_Go p e below G (T3.setTop (mkF m 27 #[.val (.int x0), .val (.int x1), .val (.int x2), .val (.int x3), .val (.int x4), .val (.int x5), .val (.ref b1), .unset, .unset, .unset] [(.int x2), (.int (2 : Int32)), (.ref b1)]))
  refine own_st (fun t k => XS.sipush X3.here hx rfl (hb hby at_27) k) ?_
  show own_Go p e below G (T3.setTop (mkF m 30 #[.val (.int x0), .val (.int x1), .val (.int x2), .val (.int x3), .val (.int x4), .val (.int x5), .val (.ref b1), .unset, .unset, .unset] [(.int (255 : Int32)), (.int x2), (.int (2 : Int32)), (.ref b1)]))
  refine own_st (fun t k => XS.iand X3.here hx rfl (hb hby at_30) rfl k) ?_
  show own_Go p e below G (T3.setTop (mkF m 31 #[.val (.int x0), .val (.int x1), .val (.int x2), .val (.int x3), .val (.int x4), .val (.int x5), .val (.ref b1), .unset, .unset, .unset] [(.int (x2 &&& (255 : Int32))), (.int (2 : Int32)), (.ref b1)]))
  obtain ⟨cl4, Ar4, qa4, Sa4, Na4, Ha4, Ga4⟩ := V_b1
  have hin4 : ¬ ((2 : Int32) < 0 ∨ cl4.slots.size ≤ ((2 : Int32)).toNatClampNeg) := inb_of Sa4 ⟨by decide, by decide⟩
  obtain ⟨T4, h4, X4, e4, W4, st4⟩ := stI X3 hx hZ e3 Ar4 (j := (2 : Int32)) hin4 (g := (mkF m 31 #[.val (.int x0), .val (.int x1), .val (.int x2), .val (.int x3), .val (.int x4), .val (.int x5), .val (.ref b1), .unset, .unset, .unset] [(.int (x2 &&& (255 : Int32))), (.int (2 : Int32)), (.ref b1)])) rfl rfl (hb hby at_31)
  have V_b1 : Arv Z h4 b1 k1 .int (4 : Int32) [(.int (x0 &&& (255 : Int32))), (.int (x1 &&& (255 : Int32))), (.int (x2 &&& (255 : Int32))), (.int (0 : Int32))] (.int (0 : Int32)) := Arv.set Ar4 qa4 Sa4 Na4 Ha4 Ga4 rfl W4 2 rfl (Nat.le_of_ble_eq_true rfl)
  replace Z0 := Nat.le_trans Z0 (Keep.of_wr W4).1
  replace N0 := Fr.snoc X4 N0 g_b1
  refine own_st st4 ?_
  show own_Go p e below G (T4.setTop (mkF m 32 #[.val (.int x0), .val (.int x1), .val (.int x2), .val (.int x3), .val (.int x4), .val (.int x5), .val (.ref b1), .unset, .unset, .unset] []))
  refine own_st (fun t k => XS.aload X4.here hx rfl (hb hby at_32) rfl rfl  k) ?_
  show own_Go p e below G (T4.setTop (mkF m 34 #[.val (.int x0), .val (.int x1), .val (.int x2), .val (.int x3), .val (.int x4), .val (.int x5), .val (.ref b1), .unset, .unset, .unset] [(.ref b1)]))
  refine own_st (fun t k => XS.iconst X4.here hx rfl (hb hby at_34) k) ?_
  show own_Go p e below G (T4.setTop (mkF m 35 #[.val (.int x0), .val (.int x1), .val (.int x2), .val (.int x3), .val (.int x4), .val (.int x5), .val (.ref b1), .unset, .unset, .unset] [(.int (3 : Int32)), (.ref b1)]))
  refine own_st (fun t k => XS.iloadN X4.here hx rfl (hb hby at_35) rfl  k) ?_
  show own_Go p e below G (T4.setTop (mkF m 36 #[.val (.int x0), .val (.int x1), .val (.int x2), .val (.int x3), .val (.int x4), .val (.int x5), .val (.ref b1), .unset, .unset, .unset] [(.int x3), (.int (3 : Int32)), (.ref b1)]))
  refine own_st (fun t k => XS.sipush X4.here hx rfl (hb hby at_36) k) ?_
  show own_Go p e below G (T4.setTop (mkF m 39 #[.val (.int x0), .val (.int x1), .val (.int x2), .val (.int x3), .val (.int x4), .val (.int x5), .val (.ref b1), .unset, .unset, .unset] [(.int (255 : Int32)), (.int x3), (.int (3 : Int32)), (.ref b1)]))
  refine own_st (fun t k => XS.iand X4.here hx rfl (hb hby at_39) rfl k) ?_
  show own_Go p e below G (T4.setTop (mkF m 40 #[.val (.int x0), .val (.int x1), .val (.int x2), .val (.int x3), .val (.int x4), .val (.int x5), .val (.ref b1), .unset, .unset, .unset] [(.int (x3 &&& (255 : Int32))), (.int (3 : Int32)), (.ref b1)]))
  obtain ⟨cl5, Ar5, qa5, Sa5, Na5, Ha5, Ga5⟩ := V_b1
  have hin5 : ¬ ((3 : Int32) < 0 ∨ cl5.slots.size ≤ ((3 : Int32)).toNatClampNeg) := inb_of Sa5 ⟨by decide, by decide⟩
  obtain ⟨T5, h5, X5, e5, W5, st5⟩ := stI X4 hx hZ e4 Ar5 (j := (3 : Int32)) hin5 (g := (mkF m 40 #[.val (.int x0), .val (.int x1), .val (.int x2), .val (.int x3), .val (.int x4), .val (.int x5), .val (.ref b1), .unset, .unset, .unset] [(.int (x3 &&& (255 : Int32))), (.int (3 : Int32)), (.ref b1)])) rfl rfl (hb hby at_40)
  have V_b1 : Arv Z h5 b1 k1 .int (4 : Int32) [(.int (x0 &&& (255 : Int32))), (.int (x1 &&& (255 : Int32))), (.int (x2 &&& (255 : Int32))), (.int (x3 &&& (255 : Int32)))] (.int (0 : Int32)) := Arv.set Ar5 qa5 Sa5 Na5 Ha5 Ga5 rfl W5 3 rfl (Nat.le_of_ble_eq_true rfl)
  replace Z0 := Nat.le_trans Z0 (Keep.of_wr W5).1
  replace N0 := Fr.snoc X5 N0 g_b1
  refine own_st st5 ?_
  show own_Go p e below G (T5.setTop (mkF m 41 #[.val (.int x0), .val (.int x1), .val (.int x2), .val (.int x3), .val (.int x4), .val (.int x5), .val (.ref b1), .unset, .unset, .unset] []))
  refine own_st (fun t k => XS.iload X5.here hx rfl (hb hby at_41) rfl  k) ?_
  show own_Go p e below G (T5.setTop (mkF m 43 #[.val (.int x0), .val (.int x1), .val (.int x2), .val (.int x3), .val (.int x4), .val (.int x5), .val (.ref b1), .unset, .unset, .unset] [(.int x4)]))
  refine own_st (fun t k => X5.ldcInt hx hown (mvT hZ (hw _ (List.mem_of_getElem? (i := 1) rfl))) (g := (mkF m 43 #[.val (.int x0), .val (.int x1), .val (.int x2), .val (.int x3), .val (.int x4), .val (.int x5), .val (.ref b1), .unset, .unset, .unset] [(.int x4)])) rfl (hb hby at_43) t k) ?_
  show own_Go p e below G (T5.setTop (mkF m 45 #[.val (.int x0), .val (.int x1), .val (.int x2), .val (.int x3), .val (.int x4), .val (.int x5), .val (.ref b1), .unset, .unset, .unset] [(.int (2147483647 : Int32)), (.int x4)]))
  refine own_st (fun t k => XS.iand X5.here hx rfl (hb hby at_45) rfl k) ?_
  show own_Go p e below G (T5.setTop (mkF m 46 #[.val (.int x0), .val (.int x1), .val (.int x2), .val (.int x3), .val (.int x4), .val (.int x5), .val (.ref b1), .unset, .unset, .unset] [(.int (x4 &&& (2147483647 : Int32)))]))
  refine own_st (fun t k => XS.iconst X5.here hx rfl (hb hby at_46) k) ?_
  show own_Go p e below G (T5.setTop (mkF m 47 #[.val (.int x0), .val (.int x1), .val (.int x2), .val (.int x3), .val (.int x4), .val (.int x5), .val (.ref b1), .unset, .unset, .unset] [(.int (5 : Int32)), (.int (x4 &&& (2147483647 : Int32)))]))
  refine own_st (fun t k => iremM X5 hx rfl (hb hby at_47) rfl (by decide) k) ?_
  show own_Go p e below G (T5.setTop (mkF m 48 #[.val (.int x0), .val (.int x1), .val (.int x2), .val (.int x3), .val (.int x4), .val (.int x5), .val (.ref b1), .unset, .unset, .unset] [(.int ((x4 &&& (2147483647 : Int32)) % (5 : Int32)))]))
  refine own_st (fun t k => XS.istore X5.here hx rfl (hb hby at_48) rfl (l' := #[.val (.int x0), .val (.int x1), .val (.int x2), .val (.int x3), .val (.int x4), .val (.int x5), .val (.ref b1), .val (.int ((x4 &&& (2147483647 : Int32)) % (5 : Int32))), .unset, .unset]) rfl k) ?_
  show own_Go p e below G (T5.setTop (mkF m 50 #[.val (.int x0), .val (.int x1), .val (.int x2), .val (.int x3), .val (.int x4), .val (.int x5), .val (.ref b1), .val (.int ((x4 &&& (2147483647 : Int32)) % (5 : Int32))), .unset, .unset] []))
  have hnn := own_n5 x4
  generalize ((x4 &&& (2147483647 : Int32)) % (5 : Int32)) = nn at hnn ⊢
  refine own_st (fun t k => XS.bipush X5.here hx rfl (hb hby at_50) k) ?_
  show own_Go p e below G (T5.setTop (mkF m 52 #[.val (.int x0), .val (.int x1), .val (.int x2), .val (.int x3), .val (.int x4), .val (.int x5), .val (.ref b1), .val (.int nn), .unset, .unset] [(.int (6 : Int32))]))
  obtain ⟨T6, h6, k6, X6, e6, E6, A6, st6⟩ := newP X5 hx hZ (hw _ (List.mem_of_getElem? (i := 2) rfl)) e5 (g := (mkF m 52 #[.val (.int x0), .val (.int x1), .val (.int x2), .val (.int x3), .val (.int x4), .val (.int x5), .val (.ref b1), .val (.int nn), .unset, .unset] [(.int (6 : Int32))])) rfl (hb hby at_52) rfl (by decide) (cap := 6) (by decide) (by decide) (by decide) (by decide)
  obtain ⟨b6, gb6⟩ : ∃ z, z = h5.size := ⟨_, rfl⟩
  rw [← gb6] at A6 st6
  have g_b6 : n0 ≤ b6 := Nat.le_trans Z0 (Nat.le_of_eq gb6.symm)
  have ne_b1_b6 : b1 ≠ b6 := Nat.ne_of_lt (Nat.lt_of_lt_of_le V_b1.lt (Nat.le_of_eq gb6.symm))
  replace Z0 := Nat.le_trans Z0 E6.1
  replace V_b1 := V_b1.ext E6
  have V_b6 : Arv Z h6 b6 k6 .byte (6 : Int32) [(.int (0 : Int32)), (.int (0 : Int32)), (.int (0 : Int32)), (.int (0 : Int32)), (.int (0 : Int32)), (.int (0 : Int32))] (.int (0 : Int32)) := (Arv.new A6 (by decide)).pad (pad_rep [] (.int (0 : Int32)) 6)
  refine own_st st6 ?_
  show own_Go p e below G (T6.setTop (mkF m 54 #[.val (.int x0), .val (.int x1), .val (.int x2), .val (.int x3), .val (.int x4), .val (.int x5), .val (.ref b1), .val (.int nn), .unset, .unset] [(.ref b6)]))
  refine own_st (fun t k => XS.astore X6.here hx rfl (hb hby at_54) rfl rfl (l' := #[.val (.int x0), .val (.int x1), .val (.int x2), .val (.int x3), .val (.int x4), .val (.int x5), .val (.ref b1), .val (.int nn), .val (.ref b6), .unset]) rfl k) ?_
  show own_Go p e below G (T6.setTop (mkF m 56 #[.val (.int x0), .val (.int x1), .val (.int x2), .val (.int x3), .val (.int x4), .val (.int x5), .val (.ref b1), .val (.int nn), .val (.ref b6), .unset] []))
  refine own_st (fun t k => XS.aload X6.here hx rfl (hb hby at_56) rfl rfl  k) ?_
  show own_Go p e below G (T6.setTop (mkF m 58 #[.val (.int x0), .val (.int x1), .val (.int x2), .val (.int x3), .val (.int x4), .val (.int x5), .val (.ref b1), .val (.int nn), .val (.ref b6), .unset] [(.ref b6)]))
  refine own_st (fun t k => XS.iconst X6.here hx rfl (hb hby at_58) k) ?_
  show own_Go p e below G (T6.setTop (mkF m 59 #[.val (.int x0), .val (.int x1), .val (.int x2), .val (.int x3), .val (.int x4), .val (.int x5), .val (.ref b1), .val (.int nn), .val (.ref b6), .unset] [(.int (0 : Int32)), (.ref b6)]))
  refine own_st (fun t k => XS.iload X6.here hx rfl (hb hby at_59) rfl  k) ?_
  show own_Go p e below G (T6.setTop (mkF m 61 #[.val (.int x0), .val (.int x1), .val (.int x2), .val (.int x3), .val (.int x4), .val (.int x5), .val (.ref b1), .val (.int nn), .val (.ref b6), .unset] [(.int x5), (.int (0 : Int32)), (.ref b6)]))
  refine own_st (fun t k => XS.i2b X6.here hx rfl (hb hby at_61) rfl k) ?_
  show own_Go p e below G (T6.setTop (mkF m 62 #[.val (.int x0), .val (.int x1), .val (.int x2), .val (.int x3), .val (.int x4), .val (.int x5), .val (.ref b1), .val (.int nn), .val (.ref b6), .unset] [(.int (x5.toInt8.toInt32)), (.int (0 : Int32)), (.ref b6)]))
  obtain ⟨cl7, Ar7, qa7, Sa7, Na7, Ha7, Ga7⟩ := V_b6
  have hin7 : ¬ ((0 : Int32) < 0 ∨ cl7.slots.size ≤ ((0 : Int32)).toNatClampNeg) := inb_of Sa7 ⟨by decide, by decide⟩
  obtain ⟨T7, h7, X7, e7, W7, st7⟩ := stB X6 hx hZ e6 Ar7 (j := (0 : Int32)) hin7 (g := (mkF m 62 #[.val (.int x0), .val (.int x1), .val (.int x2), .val (.int x3), .val (.int x4), .val (.int x5), .val (.ref b1), .val (.int nn), .val (.ref b6), .unset] [(.int (x5.toInt8.toInt32)), (.int (0 : Int32)), (.ref b6)])) rfl rfl (hb hby at_62)
  have V_b6 : Arv Z h7 b6 k6 .byte (6 : Int32) [(.int (nar .byte (x5.toInt8.toInt32))), (.int (0 : Int32)), (.int (0 : Int32)), (.int (0 : Int32)), (.int (0 : Int32)), (.int (0 : Int32))] (.int (0 : Int32)) := Arv.set Ar7 qa7 Sa7 Na7 Ha7 Ga7 (fits_nar_byte _) W7 0 rfl (Nat.le_of_ble_eq_true rfl)
  replace V_b1 := V_b1.other W7 ne_b1_b6
  replace Z0 := Nat.le_trans Z0 (Keep.of_wr W7).1
  replace N0 := Fr.snoc X7 N0 g_b6
  refine own_st st7 ?_
  show own_Go p e below G (T7.setTop (mkF m 63 #[.val (.int x0), .val (.int x1), .val (.int x2), .val (.int x3), .val (.int x4), .val (.int x5), .val (.ref b1), .val (.int nn), .val (.ref b6), .unset] []))
  refine own_st (fun t k => XS.aload X7.here hx rfl (hb hby at_63) rfl rfl  k) ?_
  show own_Go p e below G (T7.setTop (mkF m 65 #[.val (.int x0), .val (.int x1), .val (.int x2), .val (.int x3), .val (.int x4), .val (.int x5), .val (.ref b1), .val (.int nn), .val (.ref b6), .unset] [(.ref b6)]))
  refine own_st (fun t k => XS.iconst X7.here hx rfl (hb hby at_65) k) ?_
  show own_Go p e below G (T7.setTop (mkF m 66 #[.val (.int x0), .val (.int x1), .val (.int x2), .val (.int x3), .val (.int x4), .val (.int x5), .val (.ref b1), .val (.int nn), .val (.ref b6), .unset] [(.int (1 : Int32)), (.ref b6)]))
  refine own_st (fun t k => XS.aload X7.here hx rfl (hb hby at_66) rfl rfl  k) ?_
  show own_Go p e below G (T7.setTop (mkF m 68 #[.val (.int x0), .val (.int x1), .val (.int x2), .val (.int x3), .val (.int x4), .val (.int x5), .val (.ref b1), .val (.int nn), .val (.ref b6), .unset] [(.ref b1), (.int (1 : Int32)), (.ref b6)]))
  refine own_st (fun t k => XS.iconst X7.here hx rfl (hb hby at_68) k) ?_
  show own_Go p e below G (T7.setTop (mkF m 69 #[.val (.int x0), .val (.int x1), .val (.int x2), .val (.int x3), .val (.int x4), .val (.int x5), .val (.ref b1), .val (.int nn), .val (.ref b6), .unset] [(.int (0 : Int32)), (.ref b1), (.int (1 : Int32)), (.ref b6)]))
  have Vc8 := V_b1
  obtain ⟨cl8, Ar8, -, Sa8, -, Ha8, -⟩ := Vc8
  have hin8 : ¬ ((0 : Int32) < 0 ∨ cl8.slots.size ≤ ((0 : Int32)).toNatClampNeg) := inb_of Sa8 ⟨by decide, by decide⟩
  refine own_st (fun t k => X7.iaload hx (j := (0 : Int32)) (v := (.int (x0 &&& (255 : Int32)))) (by rw [e7]; exact Ar8.1) (State.isArrayOf_alike hZ.alike Ar8.2.1) Ar8.2.2 hin8 (Ha8.at hin8 rfl) (g := (mkF m 69 #[.val (.int x0), .val (.int x1), .val (.int x2), .val (.int x3), .val (.int x4), .val (.int x5), .val (.ref b1), .val (.int nn), .val (.ref b6), .unset] [(.int (0 : Int32)), (.ref b1), (.int (1 : Int32)), (.ref b6)])) rfl rfl (hb hby at_69) t k) ?_
  show own_Go p e below G (T7.setTop (mkF m 70 #[.val (.int x0), .val (.int x1), .val (.int x2), .val (.int x3), .val (.int x4), .val (.int x5), .val (.ref b1), .val (.int nn), .val (.ref b6), .unset] [(.int (x0 &&& (255 : Int32))), (.int (1 : Int32)), (.ref b6)]))
  refine own_st (fun t k => XS.i2b X7.here hx rfl (hb hby at_70) rfl k) ?_
  show own_Go p e below G (T7.setTop (mkF m 71 #[.val (.int x0), .val (.int x1), .val (.int x2), .val (.int x3), .val (.int x4), .val (.int x5), .val (.ref b1), .val (.int nn), .val (.ref b6), .unset] [(.int ((x0 &&& (255 : Int32)).toInt8.toInt32)), (.int (1 : Int32)), (.ref b6)]))
  obtain ⟨cl9, Ar9, qa9, Sa9, Na9, Ha9, Ga9⟩ := V_b6
  have hin9 : ¬ ((1 : Int32) < 0 ∨ cl9.slots.size ≤ ((1 : Int32)).toNatClampNeg) := inb_of Sa9 ⟨by decide, by decide⟩
  obtain ⟨T9, h9, X9, e9, W9, st9⟩ := stB X7 hx hZ e7 Ar9 (j := (1 : Int32)) hin9 (g := (mkF m 71 #[.val (.int x0), .val (.int x1), .val (.int x2), .val (.int x3), .val (.int x4), .val (.int x5), .val (.ref b1), .val (.int nn), .val (.ref b6), .unset] [(.int ((x0 &&& (255 : Int32)).toInt8.toInt32)), (.int (1 : Int32)), (.ref b6)])) rfl rfl (hb hby at_71)
  have V_b6 : Arv Z h9 b6 k6 .byte (6 : Int32) [(.int (nar .byte (x5.toInt8.toInt32))), (.int (nar .byte ((x0 &&& (255 : Int32)).toInt8.toInt32))), (.int (0 : Int32)), (.int (0 : Int32)), (.int (0 : Int32)), (.int (0 : Int32))] (.int (0 : Int32)) := Arv.set Ar9 qa9 Sa9 Na9 Ha9 Ga9 (fits_nar_byte _) W9 1 rfl (Nat.le_of_ble_eq_true rfl)
  replace V_b1 := V_b1.other W9 ne_b1_b6
  replace Z0 := Nat.le_trans Z0 (Keep.of_wr W9).1
  replace N0 := Fr.snoc X9 N0 g_b6
  refine own_st st9 ?_
  show own_Go p e below G (T9.setTop (mkF m 72 #[.val (.int x0), .val (.int x1), .val (.int x2), .val (.int x3), .val (.int x4), .val (.int x5), .val (.ref b1), .val (.int nn), .val (.ref b6), .unset] []))
  refine own_st (fun t k => XS.aload X9.here hx rfl (hb hby at_72) rfl rfl  k) ?_
  show own_Go p e below G (T9.setTop (mkF m 74 #[.val (.int x0), .val (.int x1), .val (.int x2), .val (.int x3), .val (.int x4), .val (.int x5), .val (.ref b1), .val (.int nn), .val (.ref b6), .unset] [(.ref b6)]))
  refine own_st (fun t k => XS.iconst X9.here hx rfl (hb hby at_74) k) ?_
  show own_Go p e below G (T9.setTop (mkF m 75 #[.val (.int x0), .val (.int x1), .val (.int x2), .val (.int x3), .val (.int x4), .val (.int x5), .val (.ref b1), .val (.int nn), .val (.ref b6), .unset] [(.int (2 : Int32)), (.ref b6)]))
  refine own_st (fun t k => XS.aload X9.here hx rfl (hb hby at_75) rfl rfl  k) ?_
  show own_Go p e below G (T9.setTop (mkF m 77 #[.val (.int x0), .val (.int x1), .val (.int x2), .val (.int x3), .val (.int x4), .val (.int x5), .val (.ref b1), .val (.int nn), .val (.ref b6), .unset] [(.ref b1), (.int (2 : Int32)), (.ref b6)]))
  refine own_st (fun t k => XS.iconst X9.here hx rfl (hb hby at_77) k) ?_
  show own_Go p e below G (T9.setTop (mkF m 78 #[.val (.int x0), .val (.int x1), .val (.int x2), .val (.int x3), .val (.int x4), .val (.int x5), .val (.ref b1), .val (.int nn), .val (.ref b6), .unset] [(.int (1 : Int32)), (.ref b1), (.int (2 : Int32)), (.ref b6)]))
  have Vc10 := V_b1
  obtain ⟨cl10, Ar10, -, Sa10, -, Ha10, -⟩ := Vc10
  have hin10 : ¬ ((1 : Int32) < 0 ∨ cl10.slots.size ≤ ((1 : Int32)).toNatClampNeg) := inb_of Sa10 ⟨by decide, by decide⟩
  refine own_st (fun t k => X9.iaload hx (j := (1 : Int32)) (v := (.int (x1 &&& (255 : Int32)))) (by rw [e9]; exact Ar10.1) (State.isArrayOf_alike hZ.alike Ar10.2.1) Ar10.2.2 hin10 (Ha10.at hin10 rfl) (g := (mkF m 78 #[.val (.int x0), .val (.int x1), .val (.int x2), .val (.int x3), .val (.int x4), .val (.int x5), .val (.ref b1), .val (.int nn), .val (.ref b6), .unset] [(.int (1 : Int32)), (.ref b1), (.int (2 : Int32)), (.ref b6)])) rfl rfl (hb hby at_78) t k) ?_
  show own_Go p e below G (T9.setTop (mkF m 79 #[.val (.int x0), .val (.int x1), .val (.int x2), .val (.int x3), .val (.int x4), .val (.int x5), .val (.ref b1), .val (.int nn), .val (.ref b6), .unset] [(.int (x1 &&& (255 : Int32))), (.int (2 : Int32)), (.ref b6)]))
  refine own_st (fun t k => XS.i2b X9.here hx rfl (hb hby at_79) rfl k) ?_
  show own_Go p e below G (T9.setTop (mkF m 80 #[.val (.int x0), .val (.int x1), .val (.int x2), .val (.int x3), .val (.int x4), .val (.int x5), .val (.ref b1), .val (.int nn), .val (.ref b6), .unset] [(.int ((x1 &&& (255 : Int32)).toInt8.toInt32)), (.int (2 : Int32)), (.ref b6)]))
  obtain ⟨cl11, Ar11, qa11, Sa11, Na11, Ha11, Ga11⟩ := V_b6
  have hin11 : ¬ ((2 : Int32) < 0 ∨ cl11.slots.size ≤ ((2 : Int32)).toNatClampNeg) := inb_of Sa11 ⟨by decide, by decide⟩
  obtain ⟨T11, h11, X11, e11, W11, st11⟩ := stB X9 hx hZ e9 Ar11 (j := (2 : Int32)) hin11 (g := (mkF m 80 #[.val (.int x0), .val (.int x1), .val (.int x2), .val (.int x3), .val (.int x4), .val (.int x5), .val (.ref b1), .val (.int nn), .val (.ref b6), .unset] [(.int ((x1 &&& (255 : Int32)).toInt8.toInt32)), (.int (2 : Int32)), (.ref b6)])) rfl rfl (hb hby at_80)
  have V_b6 : Arv Z h11 b6 k6 .byte (6 : Int32) [(.int (nar .byte (x5.toInt8.toInt32))), (.int (nar .byte ((x0 &&& (255 : Int32)).toInt8.toInt32))), (.int (nar .byte ((x1 &&& (255 : Int32)).toInt8.toInt32))), (.int (0 : Int32)), (.int (0 : Int32)), (.int (0 : Int32))] (.int (0 : Int32)) := Arv.set Ar11 qa11 Sa11 Na11 Ha11 Ga11 (fits_nar_byte _) W11 2 rfl (Nat.le_of_ble_eq_true rfl)
  replace V_b1 := V_b1.other W11 ne_b1_b6
  replace Z0 := Nat.le_trans Z0 (Keep.of_wr W11).1
  replace N0 := Fr.snoc X11 N0 g_b6
  refine own_st st11 ?_
  show own_Go p e below G (T11.setTop (mkF m 81 #[.val (.int x0), .val (.int x1), .val (.int x2), .val (.int x3), .val (.int x4), .val (.int x5), .val (.ref b1), .val (.int nn), .val (.ref b6), .unset] []))
  refine own_st (fun t k => XS.aload X11.here hx rfl (hb hby at_81) rfl rfl  k) ?_
  show own_Go p e below G (T11.setTop (mkF m 83 #[.val (.int x0), .val (.int x1), .val (.int x2), .val (.int x3), .val (.int x4), .val (.int x5), .val (.ref b1), .val (.int nn), .val (.ref b6), .unset] [(.ref b6)]))
  refine own_st (fun t k => XS.iconst X11.here hx rfl (hb hby at_83) k) ?_
  show own_Go p e below G (T11.setTop (mkF m 84 #[.val (.int x0), .val (.int x1), .val (.int x2), .val (.int x3), .val (.int x4), .val (.int x5), .val (.ref b1), .val (.int nn), .val (.ref b6), .unset] [(.int (3 : Int32)), (.ref b6)]))
  refine own_st (fun t k => XS.aload X11.here hx rfl (hb hby at_84) rfl rfl  k) ?_
  show own_Go p e below G (T11.setTop (mkF m 86 #[.val (.int x0), .val (.int x1), .val (.int x2), .val (.int x3), .val (.int x4), .val (.int x5), .val (.ref b1), .val (.int nn), .val (.ref b6), .unset] [(.ref b1), (.int (3 : Int32)), (.ref b6)]))
  refine own_st (fun t k => XS.iconst X11.here hx rfl (hb hby at_86) k) ?_
  show own_Go p e below G (T11.setTop (mkF m 87 #[.val (.int x0), .val (.int x1), .val (.int x2), .val (.int x3), .val (.int x4), .val (.int x5), .val (.ref b1), .val (.int nn), .val (.ref b6), .unset] [(.int (2 : Int32)), (.ref b1), (.int (3 : Int32)), (.ref b6)]))
  have Vc12 := V_b1
  obtain ⟨cl12, Ar12, -, Sa12, -, Ha12, -⟩ := Vc12
  have hin12 : ¬ ((2 : Int32) < 0 ∨ cl12.slots.size ≤ ((2 : Int32)).toNatClampNeg) := inb_of Sa12 ⟨by decide, by decide⟩
  refine own_st (fun t k => X11.iaload hx (j := (2 : Int32)) (v := (.int (x2 &&& (255 : Int32)))) (by rw [e11]; exact Ar12.1) (State.isArrayOf_alike hZ.alike Ar12.2.1) Ar12.2.2 hin12 (Ha12.at hin12 rfl) (g := (mkF m 87 #[.val (.int x0), .val (.int x1), .val (.int x2), .val (.int x3), .val (.int x4), .val (.int x5), .val (.ref b1), .val (.int nn), .val (.ref b6), .unset] [(.int (2 : Int32)), (.ref b1), (.int (3 : Int32)), (.ref b6)])) rfl rfl (hb hby at_87) t k) ?_
  show own_Go p e below G (T11.setTop (mkF m 88 #[.val (.int x0), .val (.int x1), .val (.int x2), .val (.int x3), .val (.int x4), .val (.int x5), .val (.ref b1), .val (.int nn), .val (.ref b6), .unset] [(.int (x2 &&& (255 : Int32))), (.int (3 : Int32)), (.ref b6)]))
  refine own_st (fun t k => XS.i2b X11.here hx rfl (hb hby at_88) rfl k) ?_
  show own_Go p e below G (T11.setTop (mkF m 89 #[.val (.int x0), .val (.int x1), .val (.int x2), .val (.int x3), .val (.int x4), .val (.int x5), .val (.ref b1), .val (.int nn), .val (.ref b6), .unset] [(.int ((x2 &&& (255 : Int32)).toInt8.toInt32)), (.int (3 : Int32)), (.ref b6)]))
  obtain ⟨cl13, Ar13, qa13, Sa13, Na13, Ha13, Ga13⟩ := V_b6
  have hin13 : ¬ ((3 : Int32) < 0 ∨ cl13.slots.size ≤ ((3 : Int32)).toNatClampNeg) := inb_of Sa13 ⟨by decide, by decide⟩
  obtain ⟨T13, h13, X13, e13, W13, st13⟩ := stB X11 hx hZ e11 Ar13 (j := (3 : Int32)) hin13 (g := (mkF m 89 #[.val (.int x0), .val (.int x1), .val (.int x2), .val (.int x3), .val (.int x4), .val (.int x5), .val (.ref b1), .val (.int nn), .val (.ref b6), .unset] [(.int ((x2 &&& (255 : Int32)).toInt8.toInt32)), (.int (3 : Int32)), (.ref b6)])) rfl rfl (hb hby at_89)
  have V_b6 : Arv Z h13 b6 k6 .byte (6 : Int32) [(.int (nar .byte (x5.toInt8.toInt32))), (.int (nar .byte ((x0 &&& (255 : Int32)).toInt8.toInt32))), (.int (nar .byte ((x1 &&& (255 : Int32)).toInt8.toInt32))), (.int (nar .byte ((x2 &&& (255 : Int32)).toInt8.toInt32))), (.int (0 : Int32)), (.int (0 : Int32))] (.int (0 : Int32)) := Arv.set Ar13 qa13 Sa13 Na13 Ha13 Ga13 (fits_nar_byte _) W13 3 rfl (Nat.le_of_ble_eq_true rfl)
  replace V_b1 := V_b1.other W13 ne_b1_b6
  replace Z0 := Nat.le_trans Z0 (Keep.of_wr W13).1
  replace N0 := Fr.snoc X13 N0 g_b6
  refine own_st st13 ?_
  show own_Go p e below G (T13.setTop (mkF m 90 #[.val (.int x0), .val (.int x1), .val (.int x2), .val (.int x3), .val (.int x4), .val (.int x5), .val (.ref b1), .val (.int nn), .val (.ref b6), .unset] []))
  refine own_st (fun t k => XS.aload X13.here hx rfl (hb hby at_90) rfl rfl  k) ?_
  show own_Go p e below G (T13.setTop (mkF m 92 #[.val (.int x0), .val (.int x1), .val (.int x2), .val (.int x3), .val (.int x4), .val (.int x5), .val (.ref b1), .val (.int nn), .val (.ref b6), .unset] [(.ref b6)]))
  refine own_st (fun t k => XS.iconst X13.here hx rfl (hb hby at_92) k) ?_
  show own_Go p e below G (T13.setTop (mkF m 93 #[.val (.int x0), .val (.int x1), .val (.int x2), .val (.int x3), .val (.int x4), .val (.int x5), .val (.ref b1), .val (.int nn), .val (.ref b6), .unset] [(.int (4 : Int32)), (.ref b6)]))
  refine own_st (fun t k => XS.aload X13.here hx rfl (hb hby at_93) rfl rfl  k) ?_
  show own_Go p e below G (T13.setTop (mkF m 95 #[.val (.int x0), .val (.int x1), .val (.int x2), .val (.int x3), .val (.int x4), .val (.int x5), .val (.ref b1), .val (.int nn), .val (.ref b6), .unset] [(.ref b1), (.int (4 : Int32)), (.ref b6)]))
  refine own_st (fun t k => XS.iconst X13.here hx rfl (hb hby at_95) k) ?_
  show own_Go p e below G (T13.setTop (mkF m 96 #[.val (.int x0), .val (.int x1), .val (.int x2), .val (.int x3), .val (.int x4), .val (.int x5), .val (.ref b1), .val (.int nn), .val (.ref b6), .unset] [(.int (3 : Int32)), (.ref b1), (.int (4 : Int32)), (.ref b6)]))
  have Vc14 := V_b1
  obtain ⟨cl14, Ar14, -, Sa14, -, Ha14, -⟩ := Vc14
  have hin14 : ¬ ((3 : Int32) < 0 ∨ cl14.slots.size ≤ ((3 : Int32)).toNatClampNeg) := inb_of Sa14 ⟨by decide, by decide⟩
  refine own_st (fun t k => X13.iaload hx (j := (3 : Int32)) (v := (.int (x3 &&& (255 : Int32)))) (by rw [e13]; exact Ar14.1) (State.isArrayOf_alike hZ.alike Ar14.2.1) Ar14.2.2 hin14 (Ha14.at hin14 rfl) (g := (mkF m 96 #[.val (.int x0), .val (.int x1), .val (.int x2), .val (.int x3), .val (.int x4), .val (.int x5), .val (.ref b1), .val (.int nn), .val (.ref b6), .unset] [(.int (3 : Int32)), (.ref b1), (.int (4 : Int32)), (.ref b6)])) rfl rfl (hb hby at_96) t k) ?_
  show own_Go p e below G (T13.setTop (mkF m 97 #[.val (.int x0), .val (.int x1), .val (.int x2), .val (.int x3), .val (.int x4), .val (.int x5), .val (.ref b1), .val (.int nn), .val (.ref b6), .unset] [(.int (x3 &&& (255 : Int32))), (.int (4 : Int32)), (.ref b6)]))
  refine own_st (fun t k => XS.i2b X13.here hx rfl (hb hby at_97) rfl k) ?_
  show own_Go p e below G (T13.setTop (mkF m 98 #[.val (.int x0), .val (.int x1), .val (.int x2), .val (.int x3), .val (.int x4), .val (.int x5), .val (.ref b1), .val (.int nn), .val (.ref b6), .unset] [(.int ((x3 &&& (255 : Int32)).toInt8.toInt32)), (.int (4 : Int32)), (.ref b6)]))
  obtain ⟨cl15, Ar15, qa15, Sa15, Na15, Ha15, Ga15⟩ := V_b6
  have hin15 : ¬ ((4 : Int32) < 0 ∨ cl15.slots.size ≤ ((4 : Int32)).toNatClampNeg) := inb_of Sa15 ⟨by decide, by decide⟩
  obtain ⟨T15, h15, X15, e15, W15, st15⟩ := stB X13 hx hZ e13 Ar15 (j := (4 : Int32)) hin15 (g := (mkF m 98 #[.val (.int x0), .val (.int x1), .val (.int x2), .val (.int x3), .val (.int x4), .val (.int x5), .val (.ref b1), .val (.int nn), .val (.ref b6), .unset] [(.int ((x3 &&& (255 : Int32)).toInt8.toInt32)), (.int (4 : Int32)), (.ref b6)])) rfl rfl (hb hby at_98)
  have V_b6 : Arv Z h15 b6 k6 .byte (6 : Int32) [(.int (nar .byte (x5.toInt8.toInt32))), (.int (nar .byte ((x0 &&& (255 : Int32)).toInt8.toInt32))), (.int (nar .byte ((x1 &&& (255 : Int32)).toInt8.toInt32))), (.int (nar .byte ((x2 &&& (255 : Int32)).toInt8.toInt32))), (.int (nar .byte ((x3 &&& (255 : Int32)).toInt8.toInt32))), (.int (0 : Int32))] (.int (0 : Int32)) := Arv.set Ar15 qa15 Sa15 Na15 Ha15 Ga15 (fits_nar_byte _) W15 4 rfl (Nat.le_of_ble_eq_true rfl)
  replace V_b1 := V_b1.other W15 ne_b1_b6
  replace Z0 := Nat.le_trans Z0 (Keep.of_wr W15).1
  replace N0 := Fr.snoc X15 N0 g_b6
  refine own_st st15 ?_
  show own_Go p e below G (T15.setTop (mkF m 99 #[.val (.int x0), .val (.int x1), .val (.int x2), .val (.int x3), .val (.int x4), .val (.int x5), .val (.ref b1), .val (.int nn), .val (.ref b6), .unset] []))
  refine own_st (fun t k => XS.aload X15.here hx rfl (hb hby at_99) rfl rfl  k) ?_
  show own_Go p e below G (T15.setTop (mkF m 101 #[.val (.int x0), .val (.int x1), .val (.int x2), .val (.int x3), .val (.int x4), .val (.int x5), .val (.ref b1), .val (.int nn), .val (.ref b6), .unset] [(.ref b6)]))
  refine own_st (fun t k => XS.iconst X15.here hx rfl (hb hby at_101) k) ?_
  show own_Go p e below G (T15.setTop (mkF m 102 #[.val (.int x0), .val (.int x1), .val (.int x2), .val (.int x3), .val (.int x4), .val (.int x5), .val (.ref b1), .val (.int nn), .val (.ref b6), .unset] [(.int (5 : Int32)), (.ref b6)]))
  refine own_st (fun t k => XS.iload X15.here hx rfl (hb hby at_102) rfl  k) ?_
  show own_Go p e below G (T15.setTop (mkF m 104 #[.val (.int x0), .val (.int x1), .val (.int x2), .val (.int x3), .val (.int x4), .val (.int x5), .val (.ref b1), .val (.int nn), .val (.ref b6), .unset] [(.int x5), (.int (5 : Int32)), (.ref b6)]))
  refine own_st (fun t k => XS.bipush X15.here hx rfl (hb hby at_104) k) ?_
  show own_Go p e below G (T15.setTop (mkF m 106 #[.val (.int x0), .val (.int x1), .val (.int x2), .val (.int x3), .val (.int x4), .val (.int x5), .val (.ref b1), .val (.int nn), .val (.ref b6), .unset] [(.int (8 : Int32)), (.int x5), (.int (5 : Int32)), (.ref b6)]))
  refine own_st (fun t k => XS.iushr X15.here hx rfl (hb hby at_106) rfl k) ?_
  show own_Go p e below G (T15.setTop (mkF m 107 #[.val (.int x0), .val (.int x1), .val (.int x2), .val (.int x3), .val (.int x4), .val (.int x5), .val (.ref b1), .val (.int nn), .val (.ref b6), .unset] [(.int ((x5.toUInt32 >>> ((8 : Int32) &&& 31).toUInt32).toInt32)), (.int (5 : Int32)), (.ref b6)]))
  refine own_st (fun t k => XS.i2b X15.here hx rfl (hb hby at_107) rfl k) ?_
  show own_Go p e below G (T15.setTop (mkF m 108 #[.val (.int x0), .val (.int x1), .val (.int x2), .val (.int x3), .val (.int x4), .val (.int x5), .val (.ref b1), .val (.int nn), .val (.ref b6), .unset] [(.int (((x5.toUInt32 >>> ((8 : Int32) &&& 31).toUInt32).toInt32).toInt8.toInt32)), (.int (5 : Int32)), (.ref b6)]))
  obtain ⟨cl16, Ar16, qa16, Sa16, Na16, Ha16, Ga16⟩ := V_b6
  have hin16 : ¬ ((5 : Int32) < 0 ∨ cl16.slots.size ≤ ((5 : Int32)).toNatClampNeg) := inb_of Sa16 ⟨by decide, by decide⟩
  obtain ⟨T16, h16, X16, e16, W16, st16⟩ := stB X15 hx hZ e15 Ar16 (j := (5 : Int32)) hin16 (g := (mkF m 108 #[.val (.int x0), .val (.int x1), .val (.int x2), .val (.int x3), .val (.int x4), .val (.int x5), .val (.ref b1), .val (.int nn), .val (.ref b6), .unset] [(.int (((x5.toUInt32 >>> ((8 : Int32) &&& 31).toUInt32).toInt32).toInt8.toInt32)), (.int (5 : Int32)), (.ref b6)])) rfl rfl (hb hby at_108)
  have V_b6 : Arv Z h16 b6 k6 .byte (6 : Int32) [(.int (nar .byte (x5.toInt8.toInt32))), (.int (nar .byte ((x0 &&& (255 : Int32)).toInt8.toInt32))), (.int (nar .byte ((x1 &&& (255 : Int32)).toInt8.toInt32))), (.int (nar .byte ((x2 &&& (255 : Int32)).toInt8.toInt32))), (.int (nar .byte ((x3 &&& (255 : Int32)).toInt8.toInt32))), (.int (nar .byte (((x5.toUInt32 >>> ((8 : Int32) &&& 31).toUInt32).toInt32).toInt8.toInt32)))] (.int (0 : Int32)) := Arv.set Ar16 qa16 Sa16 Na16 Ha16 Ga16 (fits_nar_byte _) W16 5 rfl (Nat.le_of_ble_eq_true rfl)
  replace V_b1 := V_b1.other W16 ne_b1_b6
  replace Z0 := Nat.le_trans Z0 (Keep.of_wr W16).1
  replace N0 := Fr.snoc X16 N0 g_b6
  refine own_st st16 ?_
  show own_Go p e below G (T16.setTop (mkF m 109 #[.val (.int x0), .val (.int x1), .val (.int x2), .val (.int x3), .val (.int x4), .val (.int x5), .val (.ref b1), .val (.int nn), .val (.ref b6), .unset] []))
  refine own_st (fun t k => XS.aload X16.here hx rfl (hb hby at_109) rfl rfl  k) ?_
  show own_Go p e below G (T16.setTop (mkF m 111 #[.val (.int x0), .val (.int x1), .val (.int x2), .val (.int x3), .val (.int x4), .val (.int x5), .val (.ref b1), .val (.int nn), .val (.ref b6), .unset] [(.ref b6)]))
  refine own_st (fun t k => XS.iconst X16.here hx rfl (hb hby at_111) k) ?_
  show own_Go p e below G (T16.setTop (mkF m 112 #[.val (.int x0), .val (.int x1), .val (.int x2), .val (.int x3), .val (.int x4), .val (.int x5), .val (.ref b1), .val (.int nn), .val (.ref b6), .unset] [(.int (1 : Int32)), (.ref b6)]))
  refine own_st (fun t k => XS.iconst X16.here hx rfl (hb hby at_112) k) ?_
  show own_Go p e below G (T16.setTop (mkF m 113 #[.val (.int x0), .val (.int x1), .val (.int x2), .val (.int x3), .val (.int x4), .val (.int x5), .val (.ref b1), .val (.int nn), .val (.ref b6), .unset] [(.int (1 : Int32)), (.int (1 : Int32)), (.ref b6)]))
  refine own_st (fun t k => XS.iload X16.here hx rfl (hb hby at_113) rfl  k) ?_
  show own_Go p e below G (T16.setTop (mkF m 115 #[.val (.int x0), .val (.int x1), .val (.int x2), .val (.int x3), .val (.int x4), .val (.int x5), .val (.ref b1), .val (.int nn), .val (.ref b6), .unset] [(.int nn), (.int (1 : Int32)), (.int (1 : Int32)), (.ref b6)]))
  refine own_st (fun t k => XS.iadd X16.here hx rfl (hb hby at_115) rfl k) ?_
  show own_Go p e below G (T16.setTop (mkF m 116 #[.val (.int x0), .val (.int x1), .val (.int x2), .val (.int x3), .val (.int x4), .val (.int x5), .val (.ref b1), .val (.int nn), .val (.ref b6), .unset] [(.int ((1 : Int32) + nn)), (.int (1 : Int32)), (.ref b6)]))
  have Vb := V_b6
  obtain ⟨clb, Arb, -, Sb, -, Hb, -⟩ := Vb
  have he1 : 1 ≤ ((1 : Int32) + nn).toInt ∧ ((1 : Int32) + nn).toInt ≤ 5 := by rw [own_add (i := 1) (j := nn) (by decide) (by decide) hnn.1 hnn.2, show (1 : Int32).toInt = 1 from rfl]; omega
  obtain ⟨v17, T17, L17, X17, Q17, st17⟩ := own_callS X16 hx hZ (y := (⟨"com/example/tidewater_cube/tidewatercube/source/Utf8", "isValid", "([BII)Z"⟩ : MethodName)) hown (hw _ (List.mem_of_getElem? (i := 3) rfl)) (hw _ (List.mem_of_getElem? (i := 4) rfl)) (hw _ (List.mem_of_getElem? (i := 5) rfl)) (hw _ (List.mem_of_getElem? (i := 6) rfl)) (by decide) (W := 0) (rm1 l Z a0 hw b6 ((1 : Int32) + nn) clb (own_B (nar .byte (x5.toInt8.toInt32)) (nar .byte ((x0 &&& (255 : Int32)).toInt8.toInt32)) (nar .byte ((x1 &&& (255 : Int32)).toInt8.toInt32)) (nar .byte ((x2 &&& (255 : Int32)).toInt8.toInt32)) (nar .byte ((x3 &&& (255 : Int32)).toInt8.toInt32)) (nar .byte (((x5.toUInt32 >>> ((8 : Int32) &&& 31).toUInt32).toInt32).toInt8.toInt32))) h16 he1 Arb Sb (own_hB Hb Sb)) (by decide) (by decide) e16 (g := (mkF m 116 #[.val (.int x0), .val (.int x1), .val (.int x2), .val (.int x3), .val (.int x4), .val (.int x5), .val (.ref b1), .val (.int nn), .val (.ref b6), .unset] [(.int ((1 : Int32) + nn)), (.int (1 : Int32)), (.ref b6)])) rfl (by rw [hml]; rfl) (argsL := [(.ref b6), (.int (1 : Int32)), (.int ((1 : Int32) + nn))]) (rest := []) own_pd1 rfl rfl (by show 2 * 0 + _ ≤ _; exact Nat.le_of_eq rfl) (hb hby at_116) rfl (by decide) (by decide)
  obtain ⟨rfl, rfl, e17⟩ := Q17
  simp only [List.append_nil, Nat.add_zero] at X17
  refine own_st st17 ?_
  show own_Go p e below G (T17.setTop (mkF m 119 #[.val (.int x0), .val (.int x1), .val (.int x2), .val (.int x3), .val (.int x4), .val (.int x5), .val (.ref b1), .val (.int nn), .val (.ref b6), .unset] [(.int (own_vr (own_B (nar .byte (x5.toInt8.toInt32)) (nar .byte ((x0 &&& (255 : Int32)).toInt8.toInt32)) (nar .byte ((x1 &&& (255 : Int32)).toInt8.toInt32)) (nar .byte ((x2 &&& (255 : Int32)).toInt8.toInt32)) (nar .byte ((x3 &&& (255 : Int32)).toInt8.toInt32)) (nar .byte (((x5.toUInt32 >>> ((8 : Int32) &&& 31).toUInt32).toInt32).toInt8.toInt32))) ((1 : Int32) + nn) 4 1))]))
  refine own_st (fun t k => XS.istore X17.here hx rfl (hb hby at_119) rfl (l' := #[.val (.int x0), .val (.int x1), .val (.int x2), .val (.int x3), .val (.int x4), .val (.int x5), .val (.ref b1), .val (.int nn), .val (.ref b6), .val (.int (own_vr (own_B (nar .byte (x5.toInt8.toInt32)) (nar .byte ((x0 &&& (255 : Int32)).toInt8.toInt32)) (nar .byte ((x1 &&& (255 : Int32)).toInt8.toInt32)) (nar .byte ((x2 &&& (255 : Int32)).toInt8.toInt32)) (nar .byte ((x3 &&& (255 : Int32)).toInt8.toInt32)) (nar .byte (((x5.toUInt32 >>> ((8 : Int32) &&& 31).toUInt32).toInt32).toInt8.toInt32))) ((1 : Int32) + nn) 4 1))]) rfl k) ?_
  show own_Go p e below G (T17.setTop (mkF m 121 #[.val (.int x0), .val (.int x1), .val (.int x2), .val (.int x3), .val (.int x4), .val (.int x5), .val (.ref b1), .val (.int nn), .val (.ref b6), .val (.int (own_vr (own_B (nar .byte (x5.toInt8.toInt32)) (nar .byte ((x0 &&& (255 : Int32)).toInt8.toInt32)) (nar .byte ((x1 &&& (255 : Int32)).toInt8.toInt32)) (nar .byte ((x2 &&& (255 : Int32)).toInt8.toInt32)) (nar .byte ((x3 &&& (255 : Int32)).toInt8.toInt32)) (nar .byte (((x5.toUInt32 >>> ((8 : Int32) &&& 31).toUInt32).toInt32).toInt8.toInt32))) ((1 : Int32) + nn) 4 1))] []))
  refine own_st (fun t k => XS.iload X17.here hx rfl (hb hby at_121) rfl  k) ?_
  show own_Go p e below G (T17.setTop (mkF m 123 #[.val (.int x0), .val (.int x1), .val (.int x2), .val (.int x3), .val (.int x4), .val (.int x5), .val (.ref b1), .val (.int nn), .val (.ref b6), .val (.int (own_vr (own_B (nar .byte (x5.toInt8.toInt32)) (nar .byte ((x0 &&& (255 : Int32)).toInt8.toInt32)) (nar .byte ((x1 &&& (255 : Int32)).toInt8.toInt32)) (nar .byte ((x2 &&& (255 : Int32)).toInt8.toInt32)) (nar .byte ((x3 &&& (255 : Int32)).toInt8.toInt32)) (nar .byte (((x5.toUInt32 >>> ((8 : Int32) &&& 31).toUInt32).toInt32).toInt8.toInt32))) ((1 : Int32) + nn) 4 1))] [(.int (own_vr (own_B (nar .byte (x5.toInt8.toInt32)) (nar .byte ((x0 &&& (255 : Int32)).toInt8.toInt32)) (nar .byte ((x1 &&& (255 : Int32)).toInt8.toInt32)) (nar .byte ((x2 &&& (255 : Int32)).toInt8.toInt32)) (nar .byte ((x3 &&& (255 : Int32)).toInt8.toInt32)) (nar .byte (((x5.toUInt32 >>> ((8 : Int32) &&& 31).toUInt32).toInt32).toInt8.toInt32))) ((1 : Int32) + nn) 4 1))]))
  refine own_st (fun t k => XS.aload X17.here hx rfl (hb hby at_123) rfl rfl  k) ?_
  show own_Go p e below G (T17.setTop (mkF m 125 #[.val (.int x0), .val (.int x1), .val (.int x2), .val (.int x3), .val (.int x4), .val (.int x5), .val (.ref b1), .val (.int nn), .val (.ref b6), .val (.int (own_vr (own_B (nar .byte (x5.toInt8.toInt32)) (nar .byte ((x0 &&& (255 : Int32)).toInt8.toInt32)) (nar .byte ((x1 &&& (255 : Int32)).toInt8.toInt32)) (nar .byte ((x2 &&& (255 : Int32)).toInt8.toInt32)) (nar .byte ((x3 &&& (255 : Int32)).toInt8.toInt32)) (nar .byte (((x5.toUInt32 >>> ((8 : Int32) &&& 31).toUInt32).toInt32).toInt8.toInt32))) ((1 : Int32) + nn) 4 1))] [(.ref b1), (.int (own_vr (own_B (nar .byte (x5.toInt8.toInt32)) (nar .byte ((x0 &&& (255 : Int32)).toInt8.toInt32)) (nar .byte ((x1 &&& (255 : Int32)).toInt8.toInt32)) (nar .byte ((x2 &&& (255 : Int32)).toInt8.toInt32)) (nar .byte ((x3 &&& (255 : Int32)).toInt8.toInt32)) (nar .byte (((x5.toUInt32 >>> ((8 : Int32) &&& 31).toUInt32).toInt32).toInt8.toInt32))) ((1 : Int32) + nn) 4 1))]))
  refine own_st (fun t k => XS.iload X17.here hx rfl (hb hby at_125) rfl  k) ?_
  show own_Go p e below G (T17.setTop (mkF m 127 #[.val (.int x0), .val (.int x1), .val (.int x2), .val (.int x3), .val (.int x4), .val (.int x5), .val (.ref b1), .val (.int nn), .val (.ref b6), .val (.int (own_vr (own_B (nar .byte (x5.toInt8.toInt32)) (nar .byte ((x0 &&& (255 : Int32)).toInt8.toInt32)) (nar .byte ((x1 &&& (255 : Int32)).toInt8.toInt32)) (nar .byte ((x2 &&& (255 : Int32)).toInt8.toInt32)) (nar .byte ((x3 &&& (255 : Int32)).toInt8.toInt32)) (nar .byte (((x5.toUInt32 >>> ((8 : Int32) &&& 31).toUInt32).toInt32).toInt8.toInt32))) ((1 : Int32) + nn) 4 1))] [(.int nn), (.ref b1), (.int (own_vr (own_B (nar .byte (x5.toInt8.toInt32)) (nar .byte ((x0 &&& (255 : Int32)).toInt8.toInt32)) (nar .byte ((x1 &&& (255 : Int32)).toInt8.toInt32)) (nar .byte ((x2 &&& (255 : Int32)).toInt8.toInt32)) (nar .byte ((x3 &&& (255 : Int32)).toInt8.toInt32)) (nar .byte (((x5.toUInt32 >>> ((8 : Int32) &&& 31).toUInt32).toInt32).toInt8.toInt32))) ((1 : Int32) + nn) 4 1))]))
  have Vw := V_b1
  obtain ⟨clw, Arw, -, Sw, -, Hw, -⟩ := Vw
  obtain ⟨v18, T18, L18, X18, Q18, st18⟩ := own_callS X17 hx hZ (y := (⟨"com/example/tidewater_cube/tidewatercube/source/Utf8IsValidPinLaw", "reference", "([II)Z"⟩ : MethodName)) hown (hw _ (List.mem_of_getElem? (i := 7) rfl)) (hw _ (List.mem_of_getElem? (i := 8) rfl)) (hw _ (List.mem_of_getElem? (i := 9) rfl)) (hw _ (List.mem_of_getElem? (i := 10) rfl)) (by decide) (W := 1) (rm3 l Z a0 hw b1 nn clw (fun j => (own_B (nar .byte (x5.toInt8.toInt32)) (nar .byte ((x0 &&& (255 : Int32)).toInt8.toInt32)) (nar .byte ((x1 &&& (255 : Int32)).toInt8.toInt32)) (nar .byte ((x2 &&& (255 : Int32)).toInt8.toInt32)) (nar .byte ((x3 &&& (255 : Int32)).toInt8.toInt32)) (nar .byte (((x5.toUInt32 >>> ((8 : Int32) &&& 31).toUInt32).toInt32).toInt8.toInt32))) (j + 1) &&& 255) h16 hnn Arw Sw (own_hW Hw Sw (own_byte x0) (own_byte x1) (own_byte x2) (own_byte x3))) (by decide) (by decide) e17 (g := (mkF m 127 #[.val (.int x0), .val (.int x1), .val (.int x2), .val (.int x3), .val (.int x4), .val (.int x5), .val (.ref b1), .val (.int nn), .val (.ref b6), .val (.int (own_vr (own_B (nar .byte (x5.toInt8.toInt32)) (nar .byte ((x0 &&& (255 : Int32)).toInt8.toInt32)) (nar .byte ((x1 &&& (255 : Int32)).toInt8.toInt32)) (nar .byte ((x2 &&& (255 : Int32)).toInt8.toInt32)) (nar .byte ((x3 &&& (255 : Int32)).toInt8.toInt32)) (nar .byte (((x5.toUInt32 >>> ((8 : Int32) &&& 31).toUInt32).toInt32).toInt8.toInt32))) ((1 : Int32) + nn) 4 1))] [(.int nn), (.ref b1), (.int (own_vr (own_B (nar .byte (x5.toInt8.toInt32)) (nar .byte ((x0 &&& (255 : Int32)).toInt8.toInt32)) (nar .byte ((x1 &&& (255 : Int32)).toInt8.toInt32)) (nar .byte ((x2 &&& (255 : Int32)).toInt8.toInt32)) (nar .byte ((x3 &&& (255 : Int32)).toInt8.toInt32)) (nar .byte (((x5.toUInt32 >>> ((8 : Int32) &&& 31).toUInt32).toInt32).toInt8.toInt32))) ((1 : Int32) + nn) 4 1))])) rfl (by rw [hml]; rfl) (argsL := [(.ref b1), (.int nn)]) (rest := [(.int (own_vr (own_B (nar .byte (x5.toInt8.toInt32)) (nar .byte ((x0 &&& (255 : Int32)).toInt8.toInt32)) (nar .byte ((x1 &&& (255 : Int32)).toInt8.toInt32)) (nar .byte ((x2 &&& (255 : Int32)).toInt8.toInt32)) (nar .byte ((x3 &&& (255 : Int32)).toInt8.toInt32)) (nar .byte (((x5.toUInt32 >>> ((8 : Int32) &&& 31).toUInt32).toInt32).toInt8.toInt32))) ((1 : Int32) + nn) 4 1))]) own_pd2 rfl rfl (by show 2 * 0 + _ ≤ _; exact Nat.le_of_eq rfl) (hb hby at_127) rfl (by decide) (by decide)
  obtain ⟨rfl, rfl, e18⟩ := Q18
  simp only [List.append_nil, Nat.add_zero] at X18
  refine own_st st18 ?_
  show own_Go p e below G (T18.setTop (mkF m 130 #[.val (.int x0), .val (.int x1), .val (.int x2), .val (.int x3), .val (.int x4), .val (.int x5), .val (.ref b1), .val (.int nn), .val (.ref b6), .val (.int (own_vr (own_B (nar .byte (x5.toInt8.toInt32)) (nar .byte ((x0 &&& (255 : Int32)).toInt8.toInt32)) (nar .byte ((x1 &&& (255 : Int32)).toInt8.toInt32)) (nar .byte ((x2 &&& (255 : Int32)).toInt8.toInt32)) (nar .byte ((x3 &&& (255 : Int32)).toInt8.toInt32)) (nar .byte (((x5.toUInt32 >>> ((8 : Int32) &&& 31).toUInt32).toInt32).toInt8.toInt32))) ((1 : Int32) + nn) 4 1))] [(.int (own_rf (fun j => (own_B (nar .byte (x5.toInt8.toInt32)) (nar .byte ((x0 &&& (255 : Int32)).toInt8.toInt32)) (nar .byte ((x1 &&& (255 : Int32)).toInt8.toInt32)) (nar .byte ((x2 &&& (255 : Int32)).toInt8.toInt32)) (nar .byte ((x3 &&& (255 : Int32)).toInt8.toInt32)) (nar .byte (((x5.toUInt32 >>> ((8 : Int32) &&& 31).toUInt32).toInt32).toInt8.toInt32))) (j + 1) &&& 255) nn 4 0)), (.int (own_vr (own_B (nar .byte (x5.toInt8.toInt32)) (nar .byte ((x0 &&& (255 : Int32)).toInt8.toInt32)) (nar .byte ((x1 &&& (255 : Int32)).toInt8.toInt32)) (nar .byte ((x2 &&& (255 : Int32)).toInt8.toInt32)) (nar .byte ((x3 &&& (255 : Int32)).toInt8.toInt32)) (nar .byte (((x5.toUInt32 >>> ((8 : Int32) &&& 31).toUInt32).toInt32).toInt8.toInt32))) ((1 : Int32) + nn) 4 1))]))
  refine own_st (fun t k => XS.icmpNo X18.here hx rfl (hb hby at_130) rfl (teq (own_same (own_B (nar .byte (x5.toInt8.toInt32)) (nar .byte ((x0 &&& (255 : Int32)).toInt8.toInt32)) (nar .byte ((x1 &&& (255 : Int32)).toInt8.toInt32)) (nar .byte ((x2 &&& (255 : Int32)).toInt8.toInt32)) (nar .byte ((x3 &&& (255 : Int32)).toInt8.toInt32)) (nar .byte (((x5.toUInt32 >>> ((8 : Int32) &&& 31).toUInt32).toInt32).toInt8.toInt32))) nn hnn 4 0 (by decide) (by decide))).2 k) ?_
  show own_Go p e below G (T18.setTop (mkF m 133 #[.val (.int x0), .val (.int x1), .val (.int x2), .val (.int x3), .val (.int x4), .val (.int x5), .val (.ref b1), .val (.int nn), .val (.ref b6), .val (.int (own_vr (own_B (nar .byte (x5.toInt8.toInt32)) (nar .byte ((x0 &&& (255 : Int32)).toInt8.toInt32)) (nar .byte ((x1 &&& (255 : Int32)).toInt8.toInt32)) (nar .byte ((x2 &&& (255 : Int32)).toInt8.toInt32)) (nar .byte ((x3 &&& (255 : Int32)).toInt8.toInt32)) (nar .byte (((x5.toUInt32 >>> ((8 : Int32) &&& 31).toUInt32).toInt32).toInt8.toInt32))) ((1 : Int32) + nn) 4 1))] []))
  refine own_st (fun t k => XS.iconst X18.here hx rfl (hb hby at_133) k) ?_
  show own_Go p e below G (T18.setTop (mkF m 134 #[.val (.int x0), .val (.int x1), .val (.int x2), .val (.int x3), .val (.int x4), .val (.int x5), .val (.ref b1), .val (.int nn), .val (.ref b6), .val (.int (own_vr (own_B (nar .byte (x5.toInt8.toInt32)) (nar .byte ((x0 &&& (255 : Int32)).toInt8.toInt32)) (nar .byte ((x1 &&& (255 : Int32)).toInt8.toInt32)) (nar .byte ((x2 &&& (255 : Int32)).toInt8.toInt32)) (nar .byte ((x3 &&& (255 : Int32)).toInt8.toInt32)) (nar .byte (((x5.toUInt32 >>> ((8 : Int32) &&& 31).toUInt32).toInt32).toInt8.toInt32))) ((1 : Int32) + nn) 4 1))] [(.int (1 : Int32))]))
  refine own_st (fun t k => XS.goto X18.here hx rfl (pc0 := 134) (pc' := 138) rfl (hb hby at_134) (by decide) (by decide) k) ?_
  show own_Go p e below G (T18.setTop (mkF m 138 #[.val (.int x0), .val (.int x1), .val (.int x2), .val (.int x3), .val (.int x4), .val (.int x5), .val (.ref b1), .val (.int nn), .val (.ref b6), .val (.int (own_vr (own_B (nar .byte (x5.toInt8.toInt32)) (nar .byte ((x0 &&& (255 : Int32)).toInt8.toInt32)) (nar .byte ((x1 &&& (255 : Int32)).toInt8.toInt32)) (nar .byte ((x2 &&& (255 : Int32)).toInt8.toInt32)) (nar .byte ((x3 &&& (255 : Int32)).toInt8.toInt32)) (nar .byte (((x5.toUInt32 >>> ((8 : Int32) &&& 31).toUInt32).toInt32).toInt8.toInt32))) ((1 : Int32) + nn) 4 1))] [(.int (1 : Int32))]))
  rw [hG]
  exact own_retZ X18 hx hlk (t := .boolean) hret (by simp) (hb hby at_138) ⟨rfl, N0⟩ (by decide) (by decide)
set_option maxRecDepth 65536 in
set_option maxHeartbeats 40000000 in
theorem comes_1 {Post : Tables → Env → Array Value → State → Outcome → State → Prop} (hpost : ∀ tb e args s v u, (limb_1_1.after args s (.returned v) u = true ∧ limb_1_2.after args s (.returned v) u = true) → FrameEnd s (.returned v) u (Jvm.fieldLocs frame_1_writes args s ++ Jvm.arrayLocs frame_1_arrays args s ++ Jvm.staticLocs frame_1_statics s) 16 128 → Post tb e args s (.returned v) u) :
    ArmFor flags0 classFile x code maxLocals ret World_1 tables_1 room_1 Calls_1 rest_1 Pre_1 Post := by
  intro l hfl _ _ p e ha hc hk s m args below hf hA hF happ hP
  obtain ⟨hcalls, hrest, hpre⟩ := hP
  obtain ⟨-, -, -, hnamed, -, -, -, hat⟩ := (Spec.applies_iff hf).mp happ
  obtain ⟨hg, hn⟩ := and_e (Cond.before_iff.mp (show (Jvm.Cond.and given_1 narrow_1).before args s = true from hpre))
  obtain ⟨gc, gr0⟩ := and_e hg
  obtain ⟨gv0, gr1⟩ := and_e gr0
  obtain ⟨gv1, gr2⟩ := and_e gr1
  obtain ⟨gv2, gr3⟩ := and_e gr2
  obtain ⟨gv3, gr4⟩ := and_e gr3
  obtain ⟨gv4, gv5⟩ := and_e gr4
  obtain ⟨w0, w1, w2, w3, w4, w5, rfl⟩ : ∃ w0 w1 w2 w3 w4 w5 : Value, args = #[w0, w1, w2, w3, w4, w5] := by
    have hs : args.size = 6 := by simpa [Cond.value, given_1] using gc
    obtain ⟨L⟩ := args
    match L, hs with
    | [w0, w1, w2, w3, w4, w5], _ => exact ⟨w0, w1, w2, w3, w4, w5, rfl⟩
  have hw := fun d (hd : d ∈ tables_1) => atoms_spec (ws := Jvm.Cond.code x code maxLocals ret :: tables_1) hat d (List.mem_cons_of_mem _ hd)
  have hfit : Fit s := fun {y c} hc i hi => by
    obtain ⟨ha, rfl⟩ := Array.getElem?_eq_some_iff.mp hc
    have q := List.all_eq_true.mp ((Array.all_eq_true_iff_forall_mem.mp hF) _ (Array.getElem_mem ha)) i (List.mem_range.mpr hi)
    simpa [Array.getElem?_eq_getElem hi] using q
  obtain ⟨i0, ei0⟩ := is_v gv0
  obtain rfl : w0 = (.int i0) := Option.some.inj ei0
  obtain ⟨i1, ei1⟩ := is_v gv1
  obtain rfl : w1 = (.int i1) := Option.some.inj ei1
  obtain ⟨i2, ei2⟩ := is_v gv2
  obtain rfl : w2 = (.int i2) := Option.some.inj ei2
  obtain ⟨i3, ei3⟩ := is_v gv3
  obtain rfl : w3 = (.int i3) := Option.some.inj ei3
  obtain ⟨i4, ei4⟩ := is_v gv4
  obtain rfl : w4 = (.int i4) := Option.some.inj ei4
  obtain ⟨i5, ei5⟩ := is_v gv5
  obtain rfl : w5 = (.int i5) := Option.some.inj ei5
  obtain ⟨n, o, h1, h2, h3, _, L, rfl, ⟨rfl, N⟩, hq⟩ := rm0 l s _ hw tables_1 i0 i1 i2 i3 i4 i5 s.heap s.heap.size (Nat.le_refl _) p e ha hc hk s m _ below hf ((Spec.applies_iff_loose hf).mp happ).1 ⟨rfl, State.Warmed39.refl s, rfl⟩ trivial
  refine ⟨n, _, h1, h2, h3, hpost _ _ _ _ _ _ ⟨Cond.after_iff.mpr rfl, Cond.after_iff.mpr (eq_i res_at (Term.int_eval (1)) rfl)⟩ ⟨hq.1, hq.2.1, (hq.2.2.sift fun y hy => Or.inr (N y hy)).mono (by decide) (by decide)⟩⟩
theorem main_1_1 : Claimed_1_1 := comes_1 fun _ _ _ _ _ _ h hF => ⟨h.1, hF⟩
theorem main_1_2 : Claimed_1_2 := comes_1 fun _ _ _ _ _ _ h hF => ⟨h.2, hF⟩
end Jvm.Pilot.@@N@@
namespace Jvm.Pilot.@@N@@
open Jvm Jvm.ClassFile Sem Op Lib Jvm.Free Jvm.Stand Jvm.Pilot.@@N@@.Jvm.D
/-! MADE BY PROGRAM (witnessworld.py) out of the Statement's table words and the real class files: 9 classes; the members and pool entries that the words name. The judged class is class 1, her method 1. -/
namespace start1
open Jvm.ClassFile
def u (s : String) : CpInfo := .utf8 (stringToUtf16 s)
/-- a pool by its gaps: so many unusable entries, then the entry; so many at the end -/
def gap : Nat → List CpInfo → List CpInfo
  | 0, r => r
  | n + 1, r => .unusable :: gap n r
def poolList (es : List (Nat × CpInfo)) (last : Nat) : List CpInfo := es.foldr (fun e r => gap e.1 (e.2 :: r)) (gap last [])
def pool (es : List (Nat × CpInfo)) (last : Nat) : Array CpInfo := ⟨poolList es last⟩
def fileOf (pool : Array CpInfo) (this : Nat) (attrs : Array Attribute := #[]) (ms : Array MethodInfo := #[]) (fl : Nat := 33) (sup : Nat := 0) (ifs : Array Nat := #[]) (fds : Array FieldInfo := #[]) : ClassFile where
  minorVersion := 0
  majorVersion := 65
  constantPool := pool
  accessFlags := fl
  thisClass := this
  superClass := sup
  interfaces := ifs
  fields := fds
  methods := ms
  attributes := attrs
def plain (name : String) (sup : Option ClassId) : Class where
  name := name
  kind := .ordinary
  loader := none
  accessFlags := 33
  super := sup
  interfaces := #[]
  cf := none
  fields := #[]
  methods := #[]
  instanceTypes := #[]
  staticTypes := #[]
  resolved := #[]
  callSites := []
  init := .initialized
  statics := none
  mirror := none

def pool0 : Array CpInfo := pool [(5, u "<init>"), (0, u "()V"), (1, .class_ 10), (1, u "java/lang/Object")] 113

def k0m0 : Method := { name := "<init>", desc := "()V", sig := { parameters := [], returnType := none }, accessFlags := 1, code := none }
/-- java/lang/Object -/
def k0 : Class := { plain "java/lang/Object" none with
  accessFlags := 33
  interfaces := #[]
  cf := some (fileOf pool0 8 #[] #[{ accessFlags := 1, nameIndex := 5, descriptorIndex := 6, attributes := #[] }] 33 0 #[] #[])
  fields := #[]
  methods := #[k0m0]
  instanceTypes := #[]
  staticTypes := #[]
  resolved := Array.replicate 124 none
  statics := none }

def pool1 : Array CpInfo := pool [(2, .class_ 4), (1, u "java/lang/Object"), (0, u "<init>"), (0, u "()V"), (0, .integer 2147483647), (0, .methodref 9 10), (0, .class_ 11), (0, .nameAndType 12 13), (0, u "com/example/tidewater_cube/tidewatercube/source/Utf8"), (0, u "isValid"), (0, u "([BII)Z"), (0, .methodref 15 16), (0, .class_ 17), (0, .nameAndType 18 19), (0, u "com/example/tidewater_cube/tidewatercube/source/Utf8IsValidPinLaw"), (0, u "reference"), (0, u "([II)Z"), (0, .methodref 15 21), (0, .nameAndType 22 23), (0, u "charLen"), (0, u "([III)I"), (0, .integer 55296), (0, .integer 57343), (0, .integer 65536), (0, .integer 1114111), (2, u "law"), (0, u "(IIIIII)Z")] 7

def k1m0 : Method := { name := "<init>", desc := "()V", sig := { parameters := [], returnType := none }, accessFlags := 1, code := none }
def k1c1 : Code := { maxStack := 4, maxLocals := 10, code := code, exceptionTable := #[], attributes := #[] }
def k1m1 : Method := { name := "law", desc := "(IIIIII)Z", sig := { parameters := [.int, .int, .int, .int, .int, .int], returnType := some .boolean }, accessFlags := 9, code := some k1c1 }
def k1c2 : Code := { maxStack := 3, maxLocals := 4, code := method_3_code, exceptionTable := #[], attributes := #[] }
def k1m2 : Method := { name := "reference", desc := "([II)Z", sig := { parameters := [(.array .int), .int], returnType := some .boolean }, accessFlags := 10, code := some k1c2 }
def k1c3 : Code := { maxStack := 3, maxLocals := 9, code := method_4_code, exceptionTable := #[], attributes := #[] }
def k1m3 : Method := { name := "charLen", desc := "([III)I", sig := { parameters := [(.array .int), .int, .int], returnType := some .int }, accessFlags := 10, code := some k1c3 }
/-- com/example/tidewater_cube/tidewatercube/source/Utf8IsValidPinLaw -/
def k1 : Class := { plain "com/example/tidewater_cube/tidewatercube/source/Utf8IsValidPinLaw" (some 0) with
  accessFlags := 49
  interfaces := #[]
  cf := some (fileOf pool1 15 #[] #[{ accessFlags := 1, nameIndex := 5, descriptorIndex := 6, attributes := #[] }, { accessFlags := 9, nameIndex := 30, descriptorIndex := 31, attributes := #[] }, { accessFlags := 10, nameIndex := 18, descriptorIndex := 19, attributes := #[] }, { accessFlags := 10, nameIndex := 22, descriptorIndex := 23, attributes := #[] }] 49 2 #[] #[])
  fields := #[]
  methods := #[k1m0, k1m1, k1m2, k1m3]
  instanceTypes := #[]
  staticTypes := #[]
  resolved := Array.replicate 39 none
  statics := none }

def pool2 : Array CpInfo := pool [(2, .class_ 4), (1, u "java/lang/Object"), (0, u "<init>"), (0, u "()V"), (0, .class_ 8), (0, u "com/example/tidewater_cube/tidewatercube/source/Utf8"), (2, u "isValid"), (0, u "([BII)Z")] 5

def k2m0 : Method := { name := "<init>", desc := "()V", sig := { parameters := [], returnType := none }, accessFlags := 2, code := none }
def k2c1 : Code := { maxStack := 3, maxLocals := 11, code := prog_107_method_2_code, exceptionTable := #[], attributes := #[] }
def k2m1 : Method := { name := "isValid", desc := "([BII)Z", sig := { parameters := [(.array .byte), .int, .int], returnType := some .boolean }, accessFlags := 9, code := some k2c1 }
/-- com/example/tidewater_cube/tidewatercube/source/Utf8 -/
def k2 : Class := { plain "com/example/tidewater_cube/tidewatercube/source/Utf8" (some 0) with
  accessFlags := 49
  interfaces := #[]
  cf := some (fileOf pool2 7 #[] #[{ accessFlags := 2, nameIndex := 5, descriptorIndex := 6, attributes := #[] }, { accessFlags := 9, nameIndex := 11, descriptorIndex := 12, attributes := #[] }] 49 2 #[] #[])
  fields := #[]
  methods := #[k2m0, k2m1]
  instanceTypes := #[]
  staticTypes := #[]
  resolved := Array.replicate 18 none
  statics := none }

def pool3 : Array CpInfo := pool [(1, u "java/lang/Cloneable"), (0, .class_ 1), (0, u "java/lang/Object"), (0, .class_ 3)] 3

/-- java/lang/Cloneable -/
def k3 : Class := { plain "java/lang/Cloneable" (some 0) with
  accessFlags := 1537
  interfaces := #[]
  cf := some (fileOf pool3 2 #[] #[] 1537 4 #[] #[])
  fields := #[]
  methods := #[]
  instanceTypes := #[]
  staticTypes := #[]
  resolved := Array.replicate 8 none
  statics := none }

def pool4 : Array CpInfo := pool [(1, u "java/io/Serializable"), (0, .class_ 1), (0, u "java/lang/Object"), (0, .class_ 3)] 3

/-- java/io/Serializable -/
def k4 : Class := { plain "java/io/Serializable" (some 0) with
  accessFlags := 1537
  interfaces := #[]
  cf := some (fileOf pool4 2 #[] #[] 1537 4 #[] #[])
  fields := #[]
  methods := #[]
  instanceTypes := #[]
  staticTypes := #[]
  resolved := Array.replicate 8 none
  statics := none }

/-- the primitive byte -/
def k5 : Class := { plain "byte" none with kind := .primitive 'B', accessFlags := 0x411 }
/-- [B -/
def k6 : Class := { plain "[B" (some 0) with kind := .array 5 .byte, interfaces := #[3, 4], accessFlags := 1041 }

/-- the primitive int -/
def k7 : Class := { plain "int" none with kind := .primitive 'I', accessFlags := 0x411 }
/-- [I -/
def k8 : Class := { plain "[I" (some 0) with kind := .array 7 .int, interfaces := #[3, 4], accessFlags := 1041 }

def heap : Heap := #[]
def classes : Array Class := #[k0, k1, k2, k3, k4, k5, k6, k7, k8]
def interned : List (Array UInt16 × Addr) := []
def slotsUsed : Nat := 0
def theMethod : MethodId := ⟨1, 1⟩
def args0 : Array Value := #[.int 5, .int 5, .int 5, .int 5, .int 5, .int 5]
def aboutOver (below : List Frame) : State where
  vm := { classes := classes, interned := interned.toArray }
  heap := heap
  slotsUsed := slotsUsed
  threads := #[{ frames := .invoking theMethod args0 :: below }]
def below0 : List Frame := [.native { method := ⟨0, 0⟩, args := #[] }]
def about1 : State := aboutOver below0
def p0 : Program := .bare "" "" ""
def e0 : Env := launch0.env 0 0 0
theorem w_frames : about1.frames = Frame.invoking theMethod args0 :: below0 := rfl
set_option maxRecDepth 65536 in
theorem w_args : argsFit about1.vm theMethod args0 = true := by decide +kernel
set_option maxRecDepth 65536 in
theorem w_heap : heapFits about1 = true := by decide +kernel
set_option maxRecDepth 65536 in
theorem w_runnable : about1.curStatus? = some .runnable := by decide +kernel
set_option maxRecDepth 65536 in
theorem w_alone : about1.alone = true := by decide +kernel
set_option maxRecDepth 65536 in
theorem w_named : about1.methodNamed? x = some theMethod := by decide +kernel
set_option maxRecDepth 65536 in
theorem w_hears : about1.hears theMethod below0 = true := by decide +kernel
set_option maxRecDepth 65536 in
theorem w_ripe : about1.ripe theMethod args0 below0 = true := by decide +kernel
theorem w_running : about1.status = .running := rfl
set_option maxRecDepth 65536 in
theorem w_room : about1.hasRoom e0.platform room_1 = true :=
  launch0.hasRoom_least _ room_1 (by decide +kernel) (by decide +kernel) (by decide +kernel) (by decide +kernel) (by decide +kernel) (by decide +kernel)
theorem allAtoms_all (ts : List Jvm.Cond) (a : Array Jvm.Value) (st : Jvm.State) : (allAtoms ts).before a st = ts.all (fun c => c.before a st) := by
  induction ts with
  | nil => rfl
  | cons c t ih =>
    show (Jvm.Cond.and c (allAtoms t)).before a st = _
    rw [Jvm.Cond.before_and, ih, List.all_cons]
def words1 : List Jvm.Cond := Jvm.Cond.code x code maxLocals ret :: tables_1
/-- a 'code' word, met by the world's own term for the bytes: nothing is compared byte by byte -/
theorem code_word {y : MethodName} {bytes : ByteArray} {mx : Nat} {rt : Option FieldType} {a : Array Value} {s : State} {m : MethodId} {meth : Method} {c : Code} (h1 : s.methodNamed? y = some m) (h2 : s.vm.method? m = some meth) (h3 : meth.code = some c) (h4 : c.code = bytes)
    (h5 : (c.maxLocals == mx && c.exceptionTable.isEmpty && decide (c.maxStack ≤ mostOperands) && decide (meth.sig.returnType = rt) && !meth.locks && decide (parseMethodDescriptor y.desc = some meth.sig)) = true) : (Jvm.Cond.code y bytes mx rt).before a s = true := by
  simp only [Bool.and_eq_true, beq_iff_eq, Bool.not_eq_true', decide_eq_true_eq] at h5
  obtain ⟨⟨⟨⟨⟨g1, g2⟩, g3⟩, g4⟩, g5⟩, g6⟩ := h5
  simp [Cond.before, Cond.holds, Cond.value, h1, h2, h3, h4, g1, g2, g3, g4, g5, g6]
def isCode : Jvm.Cond → Bool
  | .code _ _ _ _ => true
  | _ => false
theorem all_split {L : List Jvm.Cond} {P : Jvm.Cond → Bool} (h1 : L.all (fun c => isCode c || P c) = true) (h2 : ∀ c ∈ L.filter isCode, P c = true) : L.all P = true := by
  refine List.all_eq_true.mpr fun c hc => ?_
  have h := List.all_eq_true.mp h1 c hc
  rcases Bool.eq_false_or_eq_true (isCode c) with hi | hi
  · exact h2 c (List.mem_filter.mpr ⟨hc, hi⟩)
  · simpa [hi] using h
set_option maxRecDepth 65536 in
theorem w_c0 : (Jvm.Cond.code x code maxLocals ret).before args0 about1 = true := code_word (m := ⟨1, 1⟩) (meth := k1m1) (c := k1c1) (by decide +kernel) rfl rfl rfl (by decide +kernel)
set_option maxRecDepth 65536 in
theorem w_c1 : (Jvm.Cond.code ({ cls := "com/example/tidewater_cube/tidewatercube/source/Utf8", name := "isValid", desc := "([BII)Z" } : Jvm.MethodName) prog_107_method_2_code (11 : Nat) (Option.some Jvm.ClassFile.FieldType.boolean)).before args0 about1 = true := code_word (m := ⟨2, 1⟩) (meth := k2m1) (c := k2c1) (by decide +kernel) rfl rfl rfl (by decide +kernel)
set_option maxRecDepth 65536 in
theorem w_c2 : (Jvm.Cond.code ({ cls := "com/example/tidewater_cube/tidewatercube/source/Utf8IsValidPinLaw", name := "reference", desc := "([II)Z" } : Jvm.MethodName) method_3_code (4 : Nat) (Option.some Jvm.ClassFile.FieldType.boolean)).before args0 about1 = true := code_word (m := ⟨1, 2⟩) (meth := k1m2) (c := k1c2) (by decide +kernel) rfl rfl rfl (by decide +kernel)
set_option maxRecDepth 65536 in
theorem w_c3 : (Jvm.Cond.code ({ cls := "com/example/tidewater_cube/tidewatercube/source/Utf8IsValidPinLaw", name := "charLen", desc := "([III)I" } : Jvm.MethodName) method_4_code (9 : Nat) (Option.some Jvm.ClassFile.FieldType.int)).before args0 about1 = true := code_word (m := ⟨1, 3⟩) (meth := k1m3) (c := k1c3) (by decide +kernel) rfl rfl rfl (by decide +kernel)
def codes1 : List Jvm.Cond := [Jvm.Cond.code x code maxLocals ret, Jvm.Cond.code ({ cls := "com/example/tidewater_cube/tidewatercube/source/Utf8", name := "isValid", desc := "([BII)Z" } : Jvm.MethodName) prog_107_method_2_code (11 : Nat) (Option.some Jvm.ClassFile.FieldType.boolean), Jvm.Cond.code ({ cls := "com/example/tidewater_cube/tidewatercube/source/Utf8IsValidPinLaw", name := "reference", desc := "([II)Z" } : Jvm.MethodName) method_3_code (4 : Nat) (Option.some Jvm.ClassFile.FieldType.boolean), Jvm.Cond.code ({ cls := "com/example/tidewater_cube/tidewatercube/source/Utf8IsValidPinLaw", name := "charLen", desc := "([III)I" } : Jvm.MethodName) method_4_code (9 : Nat) (Option.some Jvm.ClassFile.FieldType.int)]
set_option maxRecDepth 65536 in
theorem codes_eq : words1.filter isCode = codes1 := rfl
theorem w_codes : ∀ c ∈ words1.filter isCode, c.before args0 about1 = true := by
  rw [codes_eq]
  intro c hc
  simp only [codes1, List.mem_cons, List.not_mem_nil, or_false] at hc
  rcases hc with rfl | rfl | rfl | rfl
  · exact w_c0
  · exact w_c1
  · exact w_c2
  · exact w_c3
set_option maxRecDepth 65536 in
theorem w_t1 : words1.all (fun c => isCode c || c.before args0 about1) = true := by decide +kernel
theorem w_tables : (allAtoms (Jvm.Cond.code x code maxLocals ret :: tables_1)).before args0 about1 = true := by
  rw [allAtoms_all]
  show words1.all (fun c => c.before args0 about1) = true
  refine all_split ?_ w_codes
  rw [w_t1]
set_option maxRecDepth 65536 in
theorem w_case : (Jvm.Cond.and given_1 narrow_1).before args0 about1 = true := by decide +kernel
theorem w_applies : (headSpec (Jvm.Cond.code x code maxLocals ret :: tables_1) room_1).applies x e0.platform about1 = true :=
  (Spec.applies_iff w_frames).mpr ⟨w_running, w_runnable, w_alone, w_named, w_hears, w_ripe, w_room, w_tables⟩
theorem atStart : AtStart classFile x code maxLocals ret World_1 tables_1 room_1 Calls_1 rest_1 Pre_1 launch0 p0 e0 about1 theMethod args0 below0 :=
  ⟨lists_1, trivial, launch0.admits_env _ _ _, launch0.least_env, fairChoices_fair.cas, fairChoices_fair.clock, w_frames, w_args, w_heap, w_applies, trivial, trivial, w_case⟩
end start1
theorem witness_1 : WitnessClaimed_1 := ⟨start1.p0, start1.e0, start1.about1, start1.theMethod, start1.args0, start1.below0, start1.atStart⟩
end Jvm.Pilot.@@N@@
