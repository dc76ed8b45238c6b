import JvmDerived
import JvmDerived.Pilot.@@N@@Statement
import JvmDerived.Pilot.@@N@@Code
set_option linter.unusedVariables false
set_option linter.unusedSimpArgs false
namespace Jvm.RoadKit
open Sem ClassFile Op Lib Jvm.Stand Jvm.Free Jvm.LawKit
section New
variable {p : Program} {l : Launch} {e : Env} {R : Room} {s : State} {m : MethodId} {args : Array Value} {below : List Frame} {meth : Method} {c : Code} {T : State} {locs : List Loc} {cells slots : Nat}
theorem retI (X : Stand p l e R s m args below meth c T locs cells slots) (hx : p.tables.exec = Jvm.exec) {pc : Nat} {Ls : Array Slot} {z : Int32} {rest : List Value} (hret : meth.sig.returnType = some .int) (hd : decode c.code pc = .ok (.ireturn, 1)) {fs : List Frame}
    (hl : ∀ (f : JFrame) (acts : List Action), f.method = m → f.locked = none → f.entered = [] → (doReturn e (T.setTop f) acts (some (.int z))).1 = T.setFrames fs) : Steps p.tables e below (T.setTop (mkF m pc Ls (.int z :: rest))) (T.setFrames fs) := by
  have hm' : T.vm.method? m = some meth := X.method'
  have hn : narrow .int (.int z) = .int z := rfl
  show Steps p.tables e below (T.setTop { method := m, pc := pc, locals := Ls, stack := _ :: rest, locked := none }) _
  jvm_step X.here [X.here.top, hx, hd, hm', hret, hn]
  first | (intro acts; rw [hl _ acts rfl rfl rfl]) | rw [hl _ _ rfl rfl rfl]
  exact Steps.refl _
/-- where a run is to come: it has ended, returning, with Q of what it returned, its heap and what it wrote -/
def own_End (s : State) (below : List Frame) (Q : Option Value → Heap → List Loc → Prop) (cc nn : Nat) (t : State) (o : Outcome) : Prop :=
  t.status = .running ∧ Ended t below o ∧ ∃ v L, o = .returned v ∧ Q v t.heap L ∧ FrameEnd s o t L cc nn
/-- from A the run comes to such an end -/
def own_Go (p : Program) (e : Env) (below : List Frame) (G : State → Outcome → Prop) (A : State) : Prop := ∃ t o, Steps p.tables e below A t ∧ G t o
theorem own_st {G : State → Outcome → Prop} {A B : State} (h : ∀ t, Steps p.tables e below B t → Steps p.tables e below A t) (k : own_Go p e below G B) : own_Go p e below G A := by
  obtain ⟨t, o, h1, h2⟩ := k
  exact ⟨t, o, h t h1, h2⟩
theorem own_retZ (X : Stand p l e R s m args below meth c T locs cells slots) (hx : p.tables.exec = Jvm.exec) (hlk : meth.locks = false) {t : FieldType} (hret : meth.sig.returnType = some t) (ht : t = .boolean ∨ t = .byte ∨ t = .char ∨ t = .short)
    {pc : Nat} {Ls : Array Slot} {z : Int32} {rest : List Value} (hd : decode c.code pc = .ok (.ireturn, 1)) {Q : Option Value → Heap → List Loc → Prop} {cc nn : Nat} (hq : Q (some (.int (nar t z))) T.heap locs) (hc : cells ≤ cc) (hn : slots ≤ nn) :
    own_Go p e below (own_End s below Q cc nn) (T.setTop (mkF m pc Ls (.int z :: rest))) := by
  obtain ⟨fs, hr, hrun, hended, hW, hsame⟩ := X.leave (v := some (.int (nar t z))) (fun h => by rw [hret] at h; cases h) hlk
  exact ⟨_, _, retN X hx hret ht hd hr, hrun, hended, _, _, rfl, hq, ⟨_, rfl⟩, hW, hsame.mono hc hn⟩
theorem own_retI (X : Stand p l e R s m args below meth c T locs cells slots) (hx : p.tables.exec = Jvm.exec) (hlk : meth.locks = false) (hret : meth.sig.returnType = some .int)
    {pc : Nat} {Ls : Array Slot} {z : Int32} {rest : List Value} (hd : decode c.code pc = .ok (.ireturn, 1)) {Q : Option Value → Heap → List Loc → Prop} {cc nn : Nat} (hq : Q (some (.int z)) T.heap locs) (hc : cells ≤ cc) (hn : slots ≤ nn) :
    own_Go p e below (own_End s below Q cc nn) (T.setTop (mkF m pc Ls (.int z :: rest))) := by
  obtain ⟨fs, hr, hrun, hended, hW, hsame⟩ := X.leave (v := some (.int z)) (fun h => by rw [hret] at h; cases h) hlk
  exact ⟨_, _, retI X hx hret hd hr, hrun, hended, _, _, rfl, hq, ⟨_, rfl⟩, hW, hsame.mono hc hn⟩
theorem own_retA (X : Stand p l e R s m args below meth c T locs cells slots) (hx : p.tables.exec = Jvm.exec) (hlk : meth.locks = false) {ty : FieldType} (hret : meth.sig.returnType = some ty) (hty : ty.isReference = true)
    {pc : Nat} {Ls : Array Slot} {v : Value} (hv : v.isRef = true) {rest : List Value} (hd : decode c.code pc = .ok (.areturn, 1)) {Q : Option Value → Heap → List Loc → Prop} {cc nn : Nat} (hq : Q (some v) T.heap locs) (hc : cells ≤ cc) (hn : slots ≤ nn) :
    own_Go p e below (own_End s below Q cc nn) (T.setTop (mkF m pc Ls (v :: rest))) := by
  obtain ⟨fs, hr, hrun, hended, hW, hsame⟩ := X.leave (v := some v) (fun h => by rw [hret] at h; cases h) hlk
  refine ⟨_, _, ?_, hrun, hended, _, _, rfl, hq, ⟨_, rfl⟩, hW, hsame.mono hc hn⟩
  have hm' : T.vm.method? m = some meth := X.method'
  show Steps p.tables e below (T.setTop { method := m, pc := pc, locals := Ls, stack := _ :: rest, locked := none }) _
  jvm_step X.here [X.here.top, hx, hd, hm', hret, hv, hty]
  first | (intro acts; rw [hr _ acts rfl rfl rfl]) | rw [hr _ _ rfl rfl rfl]
  exact Steps.refl _
theorem own_retV (X : Stand p l e R s m args below meth c T locs cells slots) (hx : p.tables.exec = Jvm.exec) (hlk : meth.locks = false) (hret : meth.sig.returnType = none)
    {pc : Nat} {Ls : Array Slot} (hd : decode c.code pc = .ok (.return_, 1)) {Q : Option Value → Heap → List Loc → Prop} {cc nn : Nat} (hq : Q none T.heap locs) (hc : cells ≤ cc) (hn : slots ≤ nn) :
    own_Go p e below (own_End s below Q cc nn) (T.setTop (mkF m pc Ls [])) := by
  obtain ⟨fs, hr, hrun, hended, hW, hsame⟩ := X.leave (v := none) (fun _ => rfl) hlk
  exact ⟨_, _, X.returnOut hx hret hd hr, hrun, hended, _, _, rfl, hq, ⟨_, rfl⟩, hW, hsame.mono hc hn⟩
/-- a body's contract: called with these values over this heap it returns, with Q -/
def own_Met (l : Launch) (Z : State) (y : MethodName) (bytes : ByteArray) (maxL : Nat) (ret : Option FieldType) (ws : List Cond) (rm : Room) (as' : Array Value) (h0 : Heap) (Q : Option Value → Heap → List Loc → Prop) : Prop :=
  MetFree l y (head1 (Cond.code y bytes maxL ret :: ws) rm) (fun a U => a = as' ∧ Z.Warmed39 U.vm ∧ U.heap = h0) (fun _ _ _ _ _ => True) (fun _ U o U' => ∃ v L, o = .returned v ∧ Q v U'.heap L ∧ FrameEnd U o U' L rm.cells rm.slots)
theorem own_body {Z : State} {y : MethodName} {bytes : ByteArray} {maxL : Nat} {ret : Option FieldType} {ws : List Cond} {rm : Room} {as' : Array Value} {h0 : Heap} {Q : Option Value → Heap → List Loc → Prop} (hpl : plainFor y = true)
    (k : ∀ (p : Program) (e : Env) (s : State) (m : MethodId) (below : List Frame) (meth : Method) (c : Code) (s₁ : State), p.tables.exec = Jvm.exec → c.code = bytes → c.maxLocals = maxL → s.vm.findClass y.cls = some m.cls → meth.name = y.name → meth.sig.returnType = ret → meth.locks = false → Z.Warmed39 s.vm →
      Stand p l e rm s m as' below meth c s₁ [] 0 0 → s₁.heap = h0 → ∀ G, G = own_End s below Q rm.cells rm.slots → own_Go p e below G (s₁.setTop (entryFrame m as' maxL))) :
    own_Met l Z y bytes maxL ret ws rm as' h0 Q := by
  refine MetFree.of_bodySF hpl hisR ?_
  intro p e s m args below meth c s₁ Bd hml0 hP hK
  obtain ⟨rfl, hZ, hh⟩ := hP
  have e0 : s₁.heap = h0 := by rw [← hh, Bd.state]; rfl
  exact k p e s m below meth c s₁ Bd.exec Bd.bytes hml0 (findClass_of_methodNamed Bd.named) (name_of_methodNamed Bd.named Bd.method).1 Bd.returns Bd.notSynchronized hZ (Stand.of_body Bd) e0 _ rfl
section Calls
variable {Z : State} {a0 : Array Value} {h : Heap}
theorem own_callS (X : Stand p l e R s m args below meth c T locs cells slots) (hx : p.tables.exec = Jvm.exec) (hZ : Z.Warmed39 s.vm) {own : String} {index : Nat} {y : MethodName} {bytes : ByteArray} {maxL : Nat} {ret : Option FieldType} (hown : s.vm.findClass own = some m.cls)
    (w1 : (Cond.methodLink own index y).before a0 Z = true) (w2 : (Cond.static y).before a0 Z = true) (w3 : (Cond.initialized y.cls).before a0 Z = true) (w4 : (Cond.code y bytes maxL ret).before a0 Z = true)
    (hy : y.cls ≠ "java/lang/invoke/MethodHandle" ∧ y.cls ≠ "java/lang/invoke/VarHandle") {rm : Room} {as' : Array Value} {Q : Option Value → Heap → List Loc → Prop} {W : Nat} (hM : own_Met l Z y bytes maxL ret [] rm as' h Q)
    (hf : rm.frames + 1 ≤ R.frames) (hl : W + (maxL + 11) + rm.locals ≤ R.locals) (eT : T.heap = h) {g : JFrame} (hg : g.method = m) (hsize : g.locals.size = c.maxLocals) {argsL rest : List Value}
    {ps : List FieldType} {r : Option FieldType} (hd : parseMethodDescriptor y.desc = some ⟨ps, r⟩) (hlen : argsL.length = ps.length) (hstack : g.stack = argsL.reverse ++ rest) (hW : 2 * g.monitorRoom + (rest.map fun v => v.category).sum ≤ W)
    (hdg : decode c.code g.pc = .ok (.invokestatic index, 3)) (ha : argsL.toArray = as') (hc : cells + rm.cells ≤ R.cells) (hn : slots + rm.slots ≤ R.slots) :
    ∃ (v : Option Value) (T' : State) (L : List Loc), Stand p l e R s m args below meth c T' (locs ++ L) (cells + rm.cells) (slots + rm.slots) ∧ Q v T'.heap L ∧
      ∀ target, Steps p.tables e below (T'.setTop { g with pc := g.pc + 3, stack := v.toList ++ rest }) target → Steps p.tables e below (T.setTop g) target := by
  obtain ⟨v, vm1, ⟨T', L', k', n'⟩, -, X', ⟨Lc, hQ, l1, l2, l3⟩, st⟩ := Jvm.LawKit.callS X hx (y := y) hown (mvT hZ w1) (mvT hZ w2) (mvT hZ w3) (mvT hZ w4) hy (backOf (W := W) hM hZ w4 w3 hf hl) hg hsize (argsL := argsL) (rest := rest) (lenOf hd hlen) hstack hW hdg (fun _ _ => ⟨ha, eT, hc, hn⟩)
  dsimp only [Pt.U, Pt.locs, Pt.cells, Pt.slots] at X' l1 l2 l3 st hQ
  subst l1 l2 l3
  exact ⟨v, T', Lc, X', hQ, st⟩
theorem own_callC (X : Stand p l e R s m args below meth c T locs cells slots) (hx : p.tables.exec = Jvm.exec) (hZ : Z.Warmed39 s.vm) {own : String} {index : Nat} {y : MethodName} {bytes : ByteArray} {maxL : Nat} (hn1 : y.name = "<init>") (hown : s.vm.findClass own = some m.cls)
    (w1 : (Cond.methodLink own index y).before a0 Z = true) (w2 : (Cond.instanceMethod y).before a0 Z = true) (w3 : (Cond.initialized y.cls).before a0 Z = true) (w4 : (Cond.code y bytes maxL none).before a0 Z = true)
    (hy : y.cls ≠ "java/lang/invoke/MethodHandle" ∧ y.cls ≠ "java/lang/invoke/VarHandle") {rm : Room} {as' : Array Value} {Q : Option Value → Heap → List Loc → Prop} {W : Nat} (hM : own_Met l Z y bytes maxL none [] rm as' h Q)
    (hf : rm.frames + 1 ≤ R.frames) (hl : W + (maxL + 11) + rm.locals ≤ R.locals) (eT : T.heap = h) {g : JFrame} (hg : g.method = m) (hsize : g.locals.size = c.maxLocals) {a : Addr} {argsL rest : List Value}
    {ps : List FieldType} {r : Option FieldType} (hd : parseMethodDescriptor y.desc = some ⟨ps, r⟩) (hlen : argsL.length = ps.length) (hstack : g.stack = argsL.reverse ++ .ref a :: rest) (hW : 2 * g.monitorRoom + (rest.map fun v => v.category).sum ≤ W)
    (hdg : decode c.code g.pc = .ok (.invokespecial index, 3)) (ha : (.ref a :: argsL).toArray = as') (hc : cells + rm.cells ≤ R.cells) (hn : slots + rm.slots ≤ R.slots) :
    ∃ (v : Option Value) (T' : State) (L : List Loc), Stand p l e R s m args below meth c T' (locs ++ L) (cells + rm.cells) (slots + rm.slots) ∧ Q v T'.heap L ∧
      ∀ target, Steps p.tables e below (T'.setTop { g with pc := g.pc + 3, stack := v.toList ++ rest }) target → Steps p.tables e below (T.setTop g) target := by
  obtain ⟨v, vm1, ⟨T', L', k', n'⟩, -, X', ⟨Lc, hQ, l1, l2, l3⟩, st⟩ := X.specialBack hx (y := y) hn1 hown (mvT hZ w1) (mvT hZ w2) (mvT hZ w4) hy (backOf (W := W) hM hZ w4 w3 hf hl) hg hsize (Steps.refl _) (a := a) (argsL := argsL) (rest := rest) (lenOf hd hlen) hstack hW hdg (fun _ _ => ⟨ha, eT, hc, hn⟩)
  dsimp only [Pt.U, Pt.locs, Pt.cells, Pt.slots] at X' l1 l2 l3 st hQ
  subst l1 l2 l3
  exact ⟨v, T', Lc, X', hQ, fun t k => st.trans k⟩
theorem own_callV (X : Stand p l e R s m args below meth c T locs cells slots) (hx : p.tables.exec = Jvm.exec) (hZ : Z.Warmed39 s.vm) {own C : String} {index : Nat} {y z : MethodName} {bytes : ByteArray} {maxL : Nat} {ret : Option FieldType} (hown : s.vm.findClass own = some m.cls)
    (w1 : (Cond.methodLink own index y).before a0 Z = true) (w2 : (Cond.declares y).before a0 Z = true) (hnf : NotFace s y) (w5 : (Cond.selects C y z).before a0 Z = true) (w6 : (Cond.instanceMethod z).before a0 Z = true) (w3 : (Cond.initialized z.cls).before a0 Z = true) (w4 : (Cond.code z bytes maxL ret).before a0 Z = true)
    (hy : y.cls ≠ "java/lang/invoke/MethodHandle" ∧ y.cls ≠ "java/lang/invoke/VarHandle") {rm : Room} {as' : Array Value} {Q : Option Value → Heap → List Loc → Prop} {W : Nat} (hM : own_Met l Z z bytes maxL ret [] rm as' h Q)
    (hf : rm.frames + 1 ≤ R.frames) (hl : W + (maxL + 11) + rm.locals ≤ R.locals) (eT : T.heap = h) {a : Addr} (E : Exa Z h a C) {g : JFrame} (hg : g.method = m) (hsize : g.locals.size = c.maxLocals) {argsL rest : List Value}
    {ps : List FieldType} {r : Option FieldType} (hd : parseMethodDescriptor y.desc = some ⟨ps, r⟩) (hlen : argsL.length = ps.length) (hstack : g.stack = argsL.reverse ++ .ref a :: rest) (hW : 2 * g.monitorRoom + (rest.map fun v => v.category).sum ≤ W)
    (hdg : decode c.code g.pc = .ok (.invokevirtual index, 3)) (ha : (.ref a :: argsL).toArray = as') (hc : cells + rm.cells ≤ R.cells) (hn : slots + rm.slots ≤ R.slots) :
    ∃ (v : Option Value) (T' : State) (L : List Loc), Stand p l e R s m args below meth c T' (locs ++ L) (cells + rm.cells) (slots + rm.slots) ∧ Q v T'.heap L ∧
      ∀ target, Steps p.tables e below (T'.setTop { g with pc := g.pc + 3, stack := v.toList ++ rest }) target → Steps p.tables e below (T.setTop g) target := by
  obtain ⟨cq, kq, q1, q2, q3⟩ := isOf hZ eT E
  obtain ⟨v, vm1, ⟨T', L', k', n'⟩, -, X', ⟨Lc, hQ, l1, l2, l3⟩, st⟩ := X.virtualBack hx (y := y) (z := z) hown (mvT hZ w1) (mvT hZ w2) hnf (mvT hZ w5) (mvT hZ w6) hy (backOf (W := W) hM hZ w4 w3 hf hl) q1 q3 hg hsize (Steps.refl _) (argsL := argsL) (rest := rest) (lenOf hd hlen) hstack hW hdg (fun _ _ => ⟨ha, eT, hc, hn⟩)
  dsimp only [Pt.U, Pt.locs, Pt.cells, Pt.slots] at X' l1 l2 l3 st hQ
  subst l1 l2 l3
  exact ⟨v, T', Lc, X', hQ, fun t k => st.trans k⟩
end Calls
section Words
variable {Z : State} {a0 : Array Value}
theorem own_exa {t : Term} {C : String} (h : (Cond.exactly t C).value a0 Z none Z [] = some true) : ∃ a, t.eval a0 Z none [] Z = some (.ref a) ∧ Exa Z Z.heap a C := by
  obtain ⟨a, e⟩ := exa_v h
  exact ⟨a, e, Exa.start e h⟩
theorem own_fldI {t : Term} {O n d : String} {k : Int32} {a : Addr} (h : (Cond.eq (.field t O n d) (.int k)).value a0 Z none Z [] = some true) (e : t.eval a0 Z none [] Z = some (.ref a)) : Fld Z Z.heap a O n d (.int k) := by
  obtain ⟨x, y, h1, h2, h3, h4⟩ := cmp_v (Or.inl h)
  cases (Term.int_eval k).symm.trans h2
  obtain ⟨q, rfl⟩ := h4
  obtain rfl := gotT (Cond.eq_ints h1 (Term.int_eval k)) h
  exact Fld.start ((fld_at e).symm.trans h1)
theorem own_fldJ {t : Term} {O n d : String} {k : Int64} {a : Addr} (h : (Cond.eq (.field t O n d) (.long k)).value a0 Z none Z [] = some true) (e : t.eval a0 Z none [] Z = some (.ref a)) : Fld Z Z.heap a O n d (.long k) := by
  obtain ⟨x, y, h1, h2, h3, h4⟩ := cmp_v (Or.inl h)
  cases (long_at k).symm.trans h2
  obtain ⟨q, rfl⟩ := h4
  obtain rfl := gotT (eq_L h1 (long_at k)) h
  exact Fld.start ((fld_at e).symm.trans h1)
theorem own_el {t u : Term} {i : Int32} {ca a : Addr} {cl : Cell} (h : (Cond.eq (.elem t (.int i)) u).value a0 Z none Z [] = some true) (ht : t.eval a0 Z none [] Z = some (.ref ca)) (hu : u.eval a0 Z none [] Z = some (.ref a)) (hc : Z.heap[ca]? = some cl) : cl.slots[i.toNatClampNeg]? = some (.ref a) := by
  obtain ⟨x, y, h1, h2, h3, h4⟩ := cmp_v (Or.inl h)
  cases hu.symm.trans h2
  have hx : x.isRef = true := by cases x <;> simp [Kin, Value.isRef] at h3 h4 ⊢
  have e := gotT (eq_R h1 h2 hx rfl) h
  subst e
  exact (elem_in h1 ht (Term.int_eval i) hc).2
theorem own_len {t : Term} {n : Int32} {ca : Addr} {cl : Cell} (h : (Cond.eq (.length t) (.int n)).value a0 Z none Z [] = some true) (ht : t.eval a0 Z none [] Z = some (.ref ca)) (hc : Z.heap[ca]? = some cl) : cl.slots.size < 2 ^ 31 ∧ cl.slots.size.toInt32 = n := by
  obtain ⟨x, y, h1, h2, h3, h4⟩ := cmp_v (Or.inl h)
  obtain ⟨b, cell, e1, e2, e3, rfl⟩ := Jvm.Lib.length_spec h1
  cases ht.symm.trans e1
  cases hc.symm.trans (Jvm.Lib.arrayAt_spec e2).1
  exact ⟨e3, gotT (Cond.eq_ints h1 (Term.int_eval n)) h⟩
end Words
end New
end Jvm.RoadKit
namespace Jvm.Pilot.@@N@@
open Jvm Jvm.ClassFile Sem Op Lib Jvm.Free Jvm.Stand Jvm.LawKit Jvm.RoadKit Bundle Jvm.Pilot.@@N@@.Jvm.D
theorem own_pd0 : parseMethodDescriptor "(C)Z" = some ⟨[.char], some .boolean⟩ := by decide +kernel
def own_sp (x : Int32) : Int32 := if x = 32 ∨ x = 9 ∨ x = 10 ∨ x = 12 ∨ x = 13 then 1 else 0
theorem own_i32 {x : Int32} {k : Int32} : x = k ↔ x.toInt = k.toInt := Int32.toInt_inj.symm
theorem own_sp_eq (v : Int32) : own_sp v = if v = 32 ∨ (¬ v < 9 ∧ ¬ 13 < v ∧ ¬ v = 11) then 1 else 0 := by
  unfold own_sp
  have h : (v = 32 ∨ v = 9 ∨ v = 10 ∨ v = 12 ∨ v = 13) ↔ (v = 32 ∨ (¬ v < 9 ∧ ¬ 13 < v ∧ ¬ v = 11)) := by
    simp only [Int32.lt_iff_toInt_lt, own_i32, show (32 : Int32).toInt = 32 from rfl, show (9 : Int32).toInt = 9 from rfl, show (10 : Int32).toInt = 10 from rfl, show (12 : Int32).toInt = 12 from rfl, show (13 : Int32).toInt = 13 from rfl, show (11 : Int32).toInt = 11 from rfl]
    omega
  simp only [h]
theorem d1_0 : decode prog_128_method_14_code 0 = .ok (.iload_n 0, 1) := by decide +kernel
theorem d1_1 : decode prog_128_method_14_code 1 = .ok (.bipush 32, 2) := by decide +kernel
theorem d1_3 : decode prog_128_method_14_code 3 = .ok (.if_icmp .eq 27, 3) := by decide +kernel
theorem d1_6 : decode prog_128_method_14_code 6 = .ok (.iload_n 0, 1) := by decide +kernel
theorem d1_7 : decode prog_128_method_14_code 7 = .ok (.bipush 9, 2) := by decide +kernel
theorem d1_9 : decode prog_128_method_14_code 9 = .ok (.if_icmp .eq 21, 3) := by decide +kernel
theorem d1_12 : decode prog_128_method_14_code 12 = .ok (.iload_n 0, 1) := by decide +kernel
theorem d1_13 : decode prog_128_method_14_code 13 = .ok (.bipush 10, 2) := by decide +kernel
theorem d1_15 : decode prog_128_method_14_code 15 = .ok (.if_icmp .eq 15, 3) := by decide +kernel
theorem d1_18 : decode prog_128_method_14_code 18 = .ok (.iload_n 0, 1) := by decide +kernel
theorem d1_19 : decode prog_128_method_14_code 19 = .ok (.bipush 12, 2) := by decide +kernel
theorem d1_21 : decode prog_128_method_14_code 21 = .ok (.if_icmp .eq 9, 3) := by decide +kernel
theorem d1_24 : decode prog_128_method_14_code 24 = .ok (.iload_n 0, 1) := by decide +kernel
theorem d1_25 : decode prog_128_method_14_code 25 = .ok (.bipush 13, 2) := by decide +kernel
theorem d1_27 : decode prog_128_method_14_code 27 = .ok (.if_icmp .ne 7, 3) := by decide +kernel
theorem d1_30 : decode prog_128_method_14_code 30 = .ok (.iconst 1, 1) := by decide +kernel
theorem d1_31 : decode prog_128_method_14_code 31 = .ok (.goto 4, 3) := by decide +kernel
theorem d1_34 : decode prog_128_method_14_code 34 = .ok (.iconst 0, 1) := by decide +kernel
theorem d1_35 : decode prog_128_method_14_code 35 = .ok (.ireturn, 1) := by decide +kernel
theorem pn_rm1 : plainFor (⟨"com/example/thinleaf/thinleaf/core/trec/Markup", "isSpace", "(C)Z"⟩ : MethodName) = true := by decide +kernel
theorem ef_rm1 (m : MethodId) (x0 : Int32) : entryFrame m #[(.int x0)] 1 = mkF m 0 #[.val (.int x0)] [] := by first | (simp [entryFrame, mkF, argsToLocals, Value.category]; done) | rfl
set_option maxRecDepth 65536 in
set_option maxHeartbeats 40000000 in
theorem rm1 (l : Launch) (Z : State) (a0 : Array Value) (hw : ∀ d ∈ tables_1, d.before a0 Z = true) (x0 : Int32) (h0 : Heap) :
    own_Met l Z (⟨"com/example/thinleaf/thinleaf/core/trec/Markup", "isSpace", "(C)Z"⟩ : MethodName) prog_128_method_14_code 1 (some .boolean) [] ({ frames := 0, cells := 0, slots := 0, locals := 0 } : Room) #[(.int x0)] h0 (fun v h L => v = some (.int (own_sp x0)) ∧ L = [] ∧ h = h0) := by
  refine own_body pn_rm1 ?_
  intro p e s m below meth c s₁ hx hby hml hown hnm hret hlk hZ X0 e0 G hG
  replace hml : c.maxLocals = 1 := hml
  replace hown : s.vm.findClass "com/example/thinleaf/thinleaf/core/trec/Markup" = some m.cls := hown
  rw [ef_rm1]
  show own_Go p e below G (s₁.setTop (mkF m 0 #[.val (.int x0)] []))
  refine own_st (fun t k => XS.iloadN X0.here hx rfl (hb hby d1_0) rfl  k) ?_
  show own_Go p e below G (s₁.setTop (mkF m 1 #[.val (.int x0)] [(.int x0)]))
  refine own_st (fun t k => XS.bipush X0.here hx rfl (hb hby d1_1) k) ?_
  show own_Go p e below G (s₁.setTop (mkF m 3 #[.val (.int x0)] [(.int (32 : Int32)), (.int x0)]))
  by_cases c3_1 : x0 = (32 : Int32)
  · skip
    refine own_st (fun t k => XS.icmpYes X0.here hx rfl (pc0 := 3) (pc' := 30) rfl (hb hby d1_3) rfl (teq c3_1).1 (by decide) (by decide) k) ?_
    show own_Go p e below G (s₁.setTop (mkF m 30 #[.val (.int x0)] []))
    refine own_st (fun t k => XS.iconst X0.here hx rfl (hb hby d1_30) k) ?_
    show own_Go p e below G (s₁.setTop (mkF m 31 #[.val (.int x0)] [(.int (1 : Int32))]))
    refine own_st (fun t k => XS.goto X0.here hx rfl (pc0 := 31) (pc' := 35) rfl (hb hby d1_31) (by decide) (by decide) k) ?_
    show own_Go p e below G (s₁.setTop (mkF m 35 #[.val (.int x0)] [(.int (1 : Int32))]))
    rw [hG]
    exact own_retZ X0 hx hlk (t := .boolean) hret (by simp) (hb hby d1_35) ⟨congrArg (fun z => some (Value.int z)) (show (1 : Int32) = own_sp x0 by simp [own_sp, c3_1]), rfl, e0⟩ (by decide) (by decide)
  · skip
    refine own_st (fun t k => XS.icmpNo X0.here hx rfl (hb hby d1_3) rfl (feq c3_1).1 k) ?_
    show own_Go p e below G (s₁.setTop (mkF m 6 #[.val (.int x0)] []))
    refine own_st (fun t k => XS.iloadN X0.here hx rfl (hb hby d1_6) rfl  k) ?_
    show own_Go p e below G (s₁.setTop (mkF m 7 #[.val (.int x0)] [(.int x0)]))
    refine own_st (fun t k => XS.bipush X0.here hx rfl (hb hby d1_7) k) ?_
    show own_Go p e below G (s₁.setTop (mkF m 9 #[.val (.int x0)] [(.int (9 : Int32)), (.int x0)]))
    by_cases c9_2 : x0 = (9 : Int32)
    · skip
      refine own_st (fun t k => XS.icmpYes X0.here hx rfl (pc0 := 9) (pc' := 30) rfl (hb hby d1_9) rfl (teq c9_2).1 (by decide) (by decide) k) ?_
      show own_Go p e below G (s₁.setTop (mkF m 30 #[.val (.int x0)] []))
      refine own_st (fun t k => XS.iconst X0.here hx rfl (hb hby d1_30) k) ?_
      show own_Go p e below G (s₁.setTop (mkF m 31 #[.val (.int x0)] [(.int (1 : Int32))]))
      refine own_st (fun t k => XS.goto X0.here hx rfl (pc0 := 31) (pc' := 35) rfl (hb hby d1_31) (by decide) (by decide) k) ?_
      show own_Go p e below G (s₁.setTop (mkF m 35 #[.val (.int x0)] [(.int (1 : Int32))]))
      rw [hG]
      exact own_retZ X0 hx hlk (t := .boolean) hret (by simp) (hb hby d1_35) ⟨congrArg (fun z => some (Value.int z)) (show (1 : Int32) = own_sp x0 by simp [own_sp, c3_1, c9_2]), rfl, e0⟩ (by decide) (by decide)
    · skip
      refine own_st (fun t k => XS.icmpNo X0.here hx rfl (hb hby d1_9) rfl (feq c9_2).1 k) ?_
      show own_Go p e below G (s₁.setTop (mkF m 12 #[.val (.int x0)] []))
      refine own_st (fun t k => XS.iloadN X0.here hx rfl (hb hby d1_12) rfl  k) ?_
      show own_Go p e below G (s₁.setTop (mkF m 13 #[.val (.int x0)] [(.int x0)]))
      refine own_st (fun t k => XS.bipush X0.here hx rfl (hb hby d1_13) k) ?_
      show own_Go p e below G (s₁.setTop (mkF m 15 #[.val (.int x0)] [(.int (10 : Int32)), (.int x0)]))
      by_cases c15_3 : x0 = (10 : Int32)
      · skip
        refine own_st (fun t k => XS.icmpYes X0.here hx rfl (pc0 := 15) (pc' := 30) rfl (hb hby d1_15) rfl (teq c15_3).1 (by decide) (by decide) k) ?_
        show own_Go p e below G (s₁.setTop (mkF m 30 #[.val (.int x0)] []))
        refine own_st (fun t k => XS.iconst X0.here hx rfl (hb hby d1_30) k) ?_
        show own_Go p e below G (s₁.setTop (mkF m 31 #[.val (.int x0)] [(.int (1 : Int32))]))
        refine own_st (fun t k => XS.goto X0.here hx rfl (pc0 := 31) (pc' := 35) rfl (hb hby d1_31) (by decide) (by decide) k) ?_
        show own_Go p e below G (s₁.setTop (mkF m 35 #[.val (.int x0)] [(.int (1 : Int32))]))
        rw [hG]
        exact own_retZ X0 hx hlk (t := .boolean) hret (by simp) (hb hby d1_35) ⟨congrArg (fun z => some (Value.int z)) (show (1 : Int32) = own_sp x0 by simp [own_sp, c3_1, c9_2, c15_3]), rfl, e0⟩ (by decide) (by decide)
      · skip
        refine own_st (fun t k => XS.icmpNo X0.here hx rfl (hb hby d1_15) rfl (feq c15_3).1 k) ?_
        show own_Go p e below G (s₁.setTop (mkF m 18 #[.val (.int x0)] []))
        refine own_st (fun t k => XS.iloadN X0.here hx rfl (hb hby d1_18) rfl  k) ?_
        show own_Go p e below G (s₁.setTop (mkF m 19 #[.val (.int x0)] [(.int x0)]))
        refine own_st (fun t k => XS.bipush X0.here hx rfl (hb hby d1_19) k) ?_
        show own_Go p e below G (s₁.setTop (mkF m 21 #[.val (.int x0)] [(.int (12 : Int32)), (.int x0)]))
        by_cases c21_4 : x0 = (12 : Int32)
        · skip
          refine own_st (fun t k => XS.icmpYes X0.here hx rfl (pc0 := 21) (pc' := 30) rfl (hb hby d1_21) rfl (teq c21_4).1 (by decide) (by decide) k) ?_
          show own_Go p e below G (s₁.setTop (mkF m 30 #[.val (.int x0)] []))
          refine own_st (fun t k => XS.iconst X0.here hx rfl (hb hby d1_30) k) ?_
          show own_Go p e below G (s₁.setTop (mkF m 31 #[.val (.int x0)] [(.int (1 : Int32))]))
          refine own_st (fun t k => XS.goto X0.here hx rfl (pc0 := 31) (pc' := 35) rfl (hb hby d1_31) (by decide) (by decide) k) ?_
          show own_Go p e below G (s₁.setTop (mkF m 35 #[.val (.int x0)] [(.int (1 : Int32))]))
          rw [hG]
          exact own_retZ X0 hx hlk (t := .boolean) hret (by simp) (hb hby d1_35) ⟨congrArg (fun z => some (Value.int z)) (show (1 : Int32) = own_sp x0 by simp [own_sp, c3_1, c9_2, c15_3, c21_4]), rfl, e0⟩ (by decide) (by decide)
        · skip
          refine own_st (fun t k => XS.icmpNo X0.here hx rfl (hb hby d1_21) rfl (feq c21_4).1 k) ?_
          show own_Go p e below G (s₁.setTop (mkF m 24 #[.val (.int x0)] []))
          refine own_st (fun t k => XS.iloadN X0.here hx rfl (hb hby d1_24) rfl  k) ?_
          show own_Go p e below G (s₁.setTop (mkF m 25 #[.val (.int x0)] [(.int x0)]))
          refine own_st (fun t k => XS.bipush X0.here hx rfl (hb hby d1_25) k) ?_
          show own_Go p e below G (s₁.setTop (mkF m 27 #[.val (.int x0)] [(.int (13 : Int32)), (.int x0)]))
          by_cases c27_5 : x0 = (13 : Int32)
          · skip
            refine own_st (fun t k => XS.icmpNo X0.here hx rfl (hb hby d1_27) rfl (teq c27_5).2 k) ?_
            show own_Go p e below G (s₁.setTop (mkF m 30 #[.val (.int x0)] []))
            refine own_st (fun t k => XS.iconst X0.here hx rfl (hb hby d1_30) k) ?_
            show own_Go p e below G (s₁.setTop (mkF m 31 #[.val (.int x0)] [(.int (1 : Int32))]))
            refine own_st (fun t k => XS.goto X0.here hx rfl (pc0 := 31) (pc' := 35) rfl (hb hby d1_31) (by decide) (by decide) k) ?_
            show own_Go p e below G (s₁.setTop (mkF m 35 #[.val (.int x0)] [(.int (1 : Int32))]))
            rw [hG]
            exact own_retZ X0 hx hlk (t := .boolean) hret (by simp) (hb hby d1_35) ⟨congrArg (fun z => some (Value.int z)) (show (1 : Int32) = own_sp x0 by simp [own_sp, c3_1, c9_2, c15_3, c21_4, c27_5]), rfl, e0⟩ (by decide) (by decide)
          · skip
            refine own_st (fun t k => XS.icmpYes X0.here hx rfl (pc0 := 27) (pc' := 34) rfl (hb hby d1_27) rfl (feq c27_5).2 (by decide) (by decide) k) ?_
            show own_Go p e below G (s₁.setTop (mkF m 34 #[.val (.int x0)] []))
            refine own_st (fun t k => XS.iconst X0.here hx rfl (hb hby d1_34) k) ?_
            show own_Go p e below G (s₁.setTop (mkF m 35 #[.val (.int x0)] [(.int (0 : Int32))]))
            rw [hG]
            exact own_retZ X0 hx hlk (t := .boolean) hret (by simp) (hb hby d1_35) ⟨congrArg (fun z => some (Value.int z)) (show (0 : Int32) = own_sp x0 by simp [own_sp, c3_1, c9_2, c15_3, c21_4, c27_5]), rfl, e0⟩ (by decide) (by decide)
theorem pn_rm0 : plainFor (⟨"com/example/thinleaf/thinleaf/core/trec/MarkupIsSpacePinLaw", "law", "(I)Z"⟩ : MethodName) = true := by decide +kernel
theorem ef_rm0 (m : MethodId) (x0 : Int32) : entryFrame m #[(.int x0)] maxLocals = mkF m 0 #[.val (.int x0), .unset, .unset, .unset] [] := by first | (simp [entryFrame, mkF, argsToLocals, Value.category, maxLocals]; done) | rfl
set_option maxRecDepth 65536 in
set_option maxHeartbeats 40000000 in
theorem rm0 (l : Launch) (Z : State) (a0 : Array Value) (hw : ∀ d ∈ tables_1, d.before a0 Z = true) (ws : List Jvm.Cond) (x0 : Int32) (h0 : Heap) (n0 : Nat) :
    own_Met l Z x code maxLocals ret ws room_1 #[(.int x0)] h0 (fun v h L => v = some (.int 1) ∧ Fr n0 L) := by
  refine own_body pn_rm0 ?_
  intro p e s m below meth c s₁ hx hby hml hown hnm hret hlk hZ X0 e0 G hG
  replace hml : c.maxLocals = 4 := hml
  replace hown : s.vm.findClass "com/example/thinleaf/thinleaf/core/trec/MarkupIsSpacePinLaw" = some m.cls := hown
  rw [ef_rm0]
  show own_Go p e below G (s₁.setTop (mkF m 0 #[.val (.int x0), .unset, .unset, .unset] []))
  refine own_st (fun t k => XS.iloadN X0.here hx rfl (hb hby at_0) rfl  k) ?_
  show own_Go p e below G (s₁.setTop (mkF m 1 #[.val (.int x0), .unset, .unset, .unset] [(.int x0)]))
  refine own_st (fun t k => XS.i2c X0.here hx rfl (hb hby at_1) rfl k) ?_
  show own_Go p e below G (s₁.setTop (mkF m 2 #[.val (.int x0), .unset, .unset, .unset] [(.int (x0.toUInt32.toUInt16.toUInt32.toInt32))]))
  refine own_st (fun t k => XS.istoreN X0.here hx rfl (hb hby at_2) rfl (l' := #[.val (.int x0), .val (.int (x0.toUInt32.toUInt16.toUInt32.toInt32)), .unset, .unset]) rfl k) ?_
  show own_Go p e below G (s₁.setTop (mkF m 3 #[.val (.int x0), .val (.int (x0.toUInt32.toUInt16.toUInt32.toInt32)), .unset, .unset] []))
  generalize hv : (x0.toUInt32.toUInt16.toUInt32.toInt32) = y0
  refine own_st (fun t k => XS.iloadN X0.here hx rfl (hb hby at_3) rfl  k) ?_
  show own_Go p e below G (s₁.setTop (mkF m 4 #[.val (.int x0), .val (.int y0), .unset, .unset] [(.int y0)]))
  refine own_st (fun t k => XS.istoreN X0.here hx rfl (hb hby at_4) rfl (l' := #[.val (.int x0), .val (.int y0), .val (.int y0), .unset]) rfl k) ?_
  show own_Go p e below G (s₁.setTop (mkF m 5 #[.val (.int x0), .val (.int y0), .val (.int y0), .unset] []))
  refine own_st (fun t k => XS.iloadN X0.here hx rfl (hb hby at_5) rfl  k) ?_
  show own_Go p e below G (s₁.setTop (mkF m 6 #[.val (.int x0), .val (.int y0), .val (.int y0), .unset] [(.int y0)]))
  refine own_st (fun t k => XS.bipush X0.here hx rfl (hb hby at_6) k) ?_
  show own_Go p e below G (s₁.setTop (mkF m 8 #[.val (.int x0), .val (.int y0), .val (.int y0), .unset] [(.int (32 : Int32)), (.int y0)]))
  by_cases c8_1 : y0 = (32 : Int32)
  · skip
    refine own_st (fun t k => XS.icmpYes X0.here hx rfl (pc0 := 8) (pc' := 29) rfl (hb hby at_8) rfl (teq c8_1).1 (by decide) (by decide) k) ?_
    show own_Go p e below G (s₁.setTop (mkF m 29 #[.val (.int x0), .val (.int y0), .val (.int y0), .unset] []))
    refine own_st (fun t k => XS.iconst X0.here hx rfl (hb hby at_29) k) ?_
    show own_Go p e below G (s₁.setTop (mkF m 30 #[.val (.int x0), .val (.int y0), .val (.int y0), .unset] [(.int (1 : Int32))]))
    refine own_st (fun t k => XS.goto X0.here hx rfl (pc0 := 30) (pc' := 34) rfl (hb hby at_30) (by decide) (by decide) k) ?_
    show own_Go p e below G (s₁.setTop (mkF m 34 #[.val (.int x0), .val (.int y0), .val (.int y0), .unset] [(.int (1 : Int32))]))
    refine own_st (fun t k => XS.istoreN X0.here hx rfl (hb hby at_34) rfl (l' := #[.val (.int x0), .val (.int y0), .val (.int y0), .val (.int (1 : Int32))]) rfl k) ?_
    show own_Go p e below G (s₁.setTop (mkF m 35 #[.val (.int x0), .val (.int y0), .val (.int y0), .val (.int (1 : Int32))] []))
    refine own_st (fun t k => XS.iloadN X0.here hx rfl (hb hby at_35) rfl  k) ?_
    show own_Go p e below G (s₁.setTop (mkF m 36 #[.val (.int x0), .val (.int y0), .val (.int y0), .val (.int (1 : Int32))] [(.int y0)]))
    obtain ⟨v2, T2, L2, X2, Q2, st2⟩ := own_callS X0 hx hZ (y := (⟨"com/example/thinleaf/thinleaf/core/trec/Markup", "isSpace", "(C)Z"⟩ : MethodName)) hown (hw _ (List.mem_of_getElem? (i := 0) rfl)) (hw _ (List.mem_of_getElem? (i := 1) rfl)) (hw _ (List.mem_of_getElem? (i := 2) rfl)) (hw _ (List.mem_of_getElem? (i := 3) rfl)) (by decide) (W := 0) (rm1 l Z a0 hw y0 h0) (by decide) (by decide) e0 (g := (mkF m 36 #[.val (.int x0), .val (.int y0), .val (.int y0), .val (.int (1 : Int32))] [(.int y0)])) rfl (by rw [hml]; rfl) (argsL := [(.int y0)]) (rest := []) own_pd0 rfl rfl (by show 2 * 0 + _ ≤ _; exact Nat.le_of_eq rfl) (hb hby at_36) rfl (by decide) (by decide)
    obtain ⟨rfl, rfl, e2⟩ := Q2
    simp only [List.append_nil, Nat.add_zero] at X2
    refine own_st st2 ?_
    show own_Go p e below G (T2.setTop (mkF m 39 #[.val (.int x0), .val (.int y0), .val (.int y0), .val (.int (1 : Int32))] [(.int (own_sp y0))]))
    refine own_st (fun t k => XS.iloadN X2.here hx rfl (hb hby at_39) rfl  k) ?_
    show own_Go p e below G (T2.setTop (mkF m 40 #[.val (.int x0), .val (.int y0), .val (.int y0), .val (.int (1 : Int32))] [(.int (1 : Int32)), (.int (own_sp y0))]))
    refine own_st (fun t k => XS.icmpNo X2.here hx rfl (hb hby at_40) rfl (teq (show own_sp y0 = (1 : Int32) by simp [own_sp_eq, c8_1])).2 k) ?_
    show own_Go p e below G (T2.setTop (mkF m 43 #[.val (.int x0), .val (.int y0), .val (.int y0), .val (.int (1 : Int32))] []))
    refine own_st (fun t k => XS.iconst X2.here hx rfl (hb hby at_43) k) ?_
    show own_Go p e below G (T2.setTop (mkF m 44 #[.val (.int x0), .val (.int y0), .val (.int y0), .val (.int (1 : Int32))] [(.int (1 : Int32))]))
    refine own_st (fun t k => XS.goto X2.here hx rfl (pc0 := 44) (pc' := 48) rfl (hb hby at_44) (by decide) (by decide) k) ?_
    show own_Go p e below G (T2.setTop (mkF m 48 #[.val (.int x0), .val (.int y0), .val (.int y0), .val (.int (1 : Int32))] [(.int (1 : Int32))]))
    rw [hG]
    exact own_retZ X2 hx hlk (t := .boolean) hret (by simp) (hb hby at_48) ⟨rfl, Fr.nil _⟩ (by decide) (by decide)
  · skip
    refine own_st (fun t k => XS.icmpNo X0.here hx rfl (hb hby at_8) rfl (feq c8_1).1 k) ?_
    show own_Go p e below G (s₁.setTop (mkF m 11 #[.val (.int x0), .val (.int y0), .val (.int y0), .unset] []))
    refine own_st (fun t k => XS.iloadN X0.here hx rfl (hb hby at_11) rfl  k) ?_
    show own_Go p e below G (s₁.setTop (mkF m 12 #[.val (.int x0), .val (.int y0), .val (.int y0), .unset] [(.int y0)]))
    refine own_st (fun t k => XS.bipush X0.here hx rfl (hb hby at_12) k) ?_
    show own_Go p e below G (s₁.setTop (mkF m 14 #[.val (.int x0), .val (.int y0), .val (.int y0), .unset] [(.int (9 : Int32)), (.int y0)]))
    by_cases c14_3 : y0 < (9 : Int32)
    · skip
      refine own_st (fun t k => XS.icmpYes X0.here hx rfl (pc0 := 14) (pc' := 33) rfl (hb hby at_14) rfl (tlt c14_3).1 (by decide) (by decide) k) ?_
      show own_Go p e below G (s₁.setTop (mkF m 33 #[.val (.int x0), .val (.int y0), .val (.int y0), .unset] []))
      refine own_st (fun t k => XS.iconst X0.here hx rfl (hb hby at_33) k) ?_
      show own_Go p e below G (s₁.setTop (mkF m 34 #[.val (.int x0), .val (.int y0), .val (.int y0), .unset] [(.int (0 : Int32))]))
      refine own_st (fun t k => XS.istoreN X0.here hx rfl (hb hby at_34) rfl (l' := #[.val (.int x0), .val (.int y0), .val (.int y0), .val (.int (0 : Int32))]) rfl k) ?_
      show own_Go p e below G (s₁.setTop (mkF m 35 #[.val (.int x0), .val (.int y0), .val (.int y0), .val (.int (0 : Int32))] []))
      refine own_st (fun t k => XS.iloadN X0.here hx rfl (hb hby at_35) rfl  k) ?_
      show own_Go p e below G (s₁.setTop (mkF m 36 #[.val (.int x0), .val (.int y0), .val (.int y0), .val (.int (0 : Int32))] [(.int y0)]))
      obtain ⟨v4, T4, L4, X4, Q4, st4⟩ := own_callS X0 hx hZ (y := (⟨"com/example/thinleaf/thinleaf/core/trec/Markup", "isSpace", "(C)Z"⟩ : MethodName)) hown (hw _ (List.mem_of_getElem? (i := 0) rfl)) (hw _ (List.mem_of_getElem? (i := 1) rfl)) (hw _ (List.mem_of_getElem? (i := 2) rfl)) (hw _ (List.mem_of_getElem? (i := 3) rfl)) (by decide) (W := 0) (rm1 l Z a0 hw y0 h0) (by decide) (by decide) e0 (g := (mkF m 36 #[.val (.int x0), .val (.int y0), .val (.int y0), .val (.int (0 : Int32))] [(.int y0)])) rfl (by rw [hml]; rfl) (argsL := [(.int y0)]) (rest := []) own_pd0 rfl rfl (by show 2 * 0 + _ ≤ _; exact Nat.le_of_eq rfl) (hb hby at_36) rfl (by decide) (by decide)
      obtain ⟨rfl, rfl, e4⟩ := Q4
      simp only [List.append_nil, Nat.add_zero] at X4
      refine own_st st4 ?_
      show own_Go p e below G (T4.setTop (mkF m 39 #[.val (.int x0), .val (.int y0), .val (.int y0), .val (.int (0 : Int32))] [(.int (own_sp y0))]))
      refine own_st (fun t k => XS.iloadN X4.here hx rfl (hb hby at_39) rfl  k) ?_
      show own_Go p e below G (T4.setTop (mkF m 40 #[.val (.int x0), .val (.int y0), .val (.int y0), .val (.int (0 : Int32))] [(.int (0 : Int32)), (.int (own_sp y0))]))
      refine own_st (fun t k => XS.icmpNo X4.here hx rfl (hb hby at_40) rfl (teq (show own_sp y0 = (0 : Int32) by simp [own_sp_eq, c8_1, c14_3])).2 k) ?_
      show own_Go p e below G (T4.setTop (mkF m 43 #[.val (.int x0), .val (.int y0), .val (.int y0), .val (.int (0 : Int32))] []))
      refine own_st (fun t k => XS.iconst X4.here hx rfl (hb hby at_43) k) ?_
      show own_Go p e below G (T4.setTop (mkF m 44 #[.val (.int x0), .val (.int y0), .val (.int y0), .val (.int (0 : Int32))] [(.int (1 : Int32))]))
      refine own_st (fun t k => XS.goto X4.here hx rfl (pc0 := 44) (pc' := 48) rfl (hb hby at_44) (by decide) (by decide) k) ?_
      show own_Go p e below G (T4.setTop (mkF m 48 #[.val (.int x0), .val (.int y0), .val (.int y0), .val (.int (0 : Int32))] [(.int (1 : Int32))]))
      rw [hG]
      exact own_retZ X4 hx hlk (t := .boolean) hret (by simp) (hb hby at_48) ⟨rfl, Fr.nil _⟩ (by decide) (by decide)
    · skip
      refine own_st (fun t k => XS.icmpNo X0.here hx rfl (hb hby at_14) rfl (flt c14_3).1 k) ?_
      show own_Go p e below G (s₁.setTop (mkF m 17 #[.val (.int x0), .val (.int y0), .val (.int y0), .unset] []))
      refine own_st (fun t k => XS.iloadN X0.here hx rfl (hb hby at_17) rfl  k) ?_
      show own_Go p e below G (s₁.setTop (mkF m 18 #[.val (.int x0), .val (.int y0), .val (.int y0), .unset] [(.int y0)]))
      refine own_st (fun t k => XS.bipush X0.here hx rfl (hb hby at_18) k) ?_
      show own_Go p e below G (s₁.setTop (mkF m 20 #[.val (.int x0), .val (.int y0), .val (.int y0), .unset] [(.int (13 : Int32)), (.int y0)]))
      by_cases c20_5 : (13 : Int32) < y0
      · skip
        refine own_st (fun t k => XS.icmpYes X0.here hx rfl (pc0 := 20) (pc' := 33) rfl (hb hby at_20) rfl (tlt c20_5).2.2.1 (by decide) (by decide) k) ?_
        show own_Go p e below G (s₁.setTop (mkF m 33 #[.val (.int x0), .val (.int y0), .val (.int y0), .unset] []))
        refine own_st (fun t k => XS.iconst X0.here hx rfl (hb hby at_33) k) ?_
        show own_Go p e below G (s₁.setTop (mkF m 34 #[.val (.int x0), .val (.int y0), .val (.int y0), .unset] [(.int (0 : Int32))]))
        refine own_st (fun t k => XS.istoreN X0.here hx rfl (hb hby at_34) rfl (l' := #[.val (.int x0), .val (.int y0), .val (.int y0), .val (.int (0 : Int32))]) rfl k) ?_
        show own_Go p e below G (s₁.setTop (mkF m 35 #[.val (.int x0), .val (.int y0), .val (.int y0), .val (.int (0 : Int32))] []))
        refine own_st (fun t k => XS.iloadN X0.here hx rfl (hb hby at_35) rfl  k) ?_
        show own_Go p e below G (s₁.setTop (mkF m 36 #[.val (.int x0), .val (.int y0), .val (.int y0), .val (.int (0 : Int32))] [(.int y0)]))
        obtain ⟨v6, T6, L6, X6, Q6, st6⟩ := own_callS X0 hx hZ (y := (⟨"com/example/thinleaf/thinleaf/core/trec/Markup", "isSpace", "(C)Z"⟩ : MethodName)) hown (hw _ (List.mem_of_getElem? (i := 0) rfl)) (hw _ (List.mem_of_getElem? (i := 1) rfl)) (hw _ (List.mem_of_getElem? (i := 2) rfl)) (hw _ (List.mem_of_getElem? (i := 3) rfl)) (by decide) (W := 0) (rm1 l Z a0 hw y0 h0) (by decide) (by decide) e0 (g := (mkF m 36 #[.val (.int x0), .val (.int y0), .val (.int y0), .val (.int (0 : Int32))] [(.int y0)])) rfl (by rw [hml]; rfl) (argsL := [(.int y0)]) (rest := []) own_pd0 rfl rfl (by show 2 * 0 + _ ≤ _; exact Nat.le_of_eq rfl) (hb hby at_36) rfl (by decide) (by decide)
        obtain ⟨rfl, rfl, e6⟩ := Q6
        simp only [List.append_nil, Nat.add_zero] at X6
        refine own_st st6 ?_
        show own_Go p e below G (T6.setTop (mkF m 39 #[.val (.int x0), .val (.int y0), .val (.int y0), .val (.int (0 : Int32))] [(.int (own_sp y0))]))
        refine own_st (fun t k => XS.iloadN X6.here hx rfl (hb hby at_39) rfl  k) ?_
        show own_Go p e below G (T6.setTop (mkF m 40 #[.val (.int x0), .val (.int y0), .val (.int y0), .val (.int (0 : Int32))] [(.int (0 : Int32)), (.int (own_sp y0))]))
        refine own_st (fun t k => XS.icmpNo X6.here hx rfl (hb hby at_40) rfl (teq (show own_sp y0 = (0 : Int32) by simp [own_sp_eq, c8_1, c14_3, c20_5])).2 k) ?_
        show own_Go p e below G (T6.setTop (mkF m 43 #[.val (.int x0), .val (.int y0), .val (.int y0), .val (.int (0 : Int32))] []))
        refine own_st (fun t k => XS.iconst X6.here hx rfl (hb hby at_43) k) ?_
        show own_Go p e below G (T6.setTop (mkF m 44 #[.val (.int x0), .val (.int y0), .val (.int y0), .val (.int (0 : Int32))] [(.int (1 : Int32))]))
        refine own_st (fun t k => XS.goto X6.here hx rfl (pc0 := 44) (pc' := 48) rfl (hb hby at_44) (by decide) (by decide) k) ?_
        show own_Go p e below G (T6.setTop (mkF m 48 #[.val (.int x0), .val (.int y0), .val (.int y0), .val (.int (0 : Int32))] [(.int (1 : Int32))]))
        rw [hG]
        exact own_retZ X6 hx hlk (t := .boolean) hret (by simp) (hb hby at_48) ⟨rfl, Fr.nil _⟩ (by decide) (by decide)
      · skip
        refine own_st (fun t k => XS.icmpNo X0.here hx rfl (hb hby at_20) rfl (flt c20_5).2.2.1 k) ?_
        show own_Go p e below G (s₁.setTop (mkF m 23 #[.val (.int x0), .val (.int y0), .val (.int y0), .unset] []))
        refine own_st (fun t k => XS.iloadN X0.here hx rfl (hb hby at_23) rfl  k) ?_
        show own_Go p e below G (s₁.setTop (mkF m 24 #[.val (.int x0), .val (.int y0), .val (.int y0), .unset] [(.int y0)]))
        refine own_st (fun t k => XS.bipush X0.here hx rfl (hb hby at_24) k) ?_
        show own_Go p e below G (s₁.setTop (mkF m 26 #[.val (.int x0), .val (.int y0), .val (.int y0), .unset] [(.int (11 : Int32)), (.int y0)]))
        by_cases c26_7 : y0 = (11 : Int32)
        · skip
          refine own_st (fun t k => XS.icmpYes X0.here hx rfl (pc0 := 26) (pc' := 33) rfl (hb hby at_26) rfl (teq c26_7).1 (by decide) (by decide) k) ?_
          show own_Go p e below G (s₁.setTop (mkF m 33 #[.val (.int x0), .val (.int y0), .val (.int y0), .unset] []))
          refine own_st (fun t k => XS.iconst X0.here hx rfl (hb hby at_33) k) ?_
          show own_Go p e below G (s₁.setTop (mkF m 34 #[.val (.int x0), .val (.int y0), .val (.int y0), .unset] [(.int (0 : Int32))]))
          refine own_st (fun t k => XS.istoreN X0.here hx rfl (hb hby at_34) rfl (l' := #[.val (.int x0), .val (.int y0), .val (.int y0), .val (.int (0 : Int32))]) rfl k) ?_
          show own_Go p e below G (s₁.setTop (mkF m 35 #[.val (.int x0), .val (.int y0), .val (.int y0), .val (.int (0 : Int32))] []))
          refine own_st (fun t k => XS.iloadN X0.here hx rfl (hb hby at_35) rfl  k) ?_
          show own_Go p e below G (s₁.setTop (mkF m 36 #[.val (.int x0), .val (.int y0), .val (.int y0), .val (.int (0 : Int32))] [(.int y0)]))
          obtain ⟨v8, T8, L8, X8, Q8, st8⟩ := own_callS X0 hx hZ (y := (⟨"com/example/thinleaf/thinleaf/core/trec/Markup", "isSpace", "(C)Z"⟩ : MethodName)) hown (hw _ (List.mem_of_getElem? (i := 0) rfl)) (hw _ (List.mem_of_getElem? (i := 1) rfl)) (hw _ (List.mem_of_getElem? (i := 2) rfl)) (hw _ (List.mem_of_getElem? (i := 3) rfl)) (by decide) (W := 0) (rm1 l Z a0 hw y0 h0) (by decide) (by decide) e0 (g := (mkF m 36 #[.val (.int x0), .val (.int y0), .val (.int y0), .val (.int (0 : Int32))] [(.int y0)])) rfl (by rw [hml]; rfl) (argsL := [(.int y0)]) (rest := []) own_pd0 rfl rfl (by show 2 * 0 + _ ≤ _; exact Nat.le_of_eq rfl) (hb hby at_36) rfl (by decide) (by decide)
          obtain ⟨rfl, rfl, e8⟩ := Q8
          simp only [List.append_nil, Nat.add_zero] at X8
          refine own_st st8 ?_
          show own_Go p e below G (T8.setTop (mkF m 39 #[.val (.int x0), .val (.int y0), .val (.int y0), .val (.int (0 : Int32))] [(.int (own_sp y0))]))
          refine own_st (fun t k => XS.iloadN X8.here hx rfl (hb hby at_39) rfl  k) ?_
          show own_Go p e below G (T8.setTop (mkF m 40 #[.val (.int x0), .val (.int y0), .val (.int y0), .val (.int (0 : Int32))] [(.int (0 : Int32)), (.int (own_sp y0))]))
          refine own_st (fun t k => XS.icmpNo X8.here hx rfl (hb hby at_40) rfl (teq (show own_sp y0 = (0 : Int32) by simp [own_sp_eq, c8_1, c14_3, c20_5, c26_7])).2 k) ?_
          show own_Go p e below G (T8.setTop (mkF m 43 #[.val (.int x0), .val (.int y0), .val (.int y0), .val (.int (0 : Int32))] []))
          refine own_st (fun t k => XS.iconst X8.here hx rfl (hb hby at_43) k) ?_
          show own_Go p e below G (T8.setTop (mkF m 44 #[.val (.int x0), .val (.int y0), .val (.int y0), .val (.int (0 : Int32))] [(.int (1 : Int32))]))
          refine own_st (fun t k => XS.goto X8.here hx rfl (pc0 := 44) (pc' := 48) rfl (hb hby at_44) (by decide) (by decide) k) ?_
          show own_Go p e below G (T8.setTop (mkF m 48 #[.val (.int x0), .val (.int y0), .val (.int y0), .val (.int (0 : Int32))] [(.int (1 : Int32))]))
          rw [hG]
          exact own_retZ X8 hx hlk (t := .boolean) hret (by simp) (hb hby at_48) ⟨rfl, Fr.nil _⟩ (by decide) (by decide)
        · skip
          refine own_st (fun t k => XS.icmpNo X0.here hx rfl (hb hby at_26) rfl (feq c26_7).1 k) ?_
          show own_Go p e below G (s₁.setTop (mkF m 29 #[.val (.int x0), .val (.int y0), .val (.int y0), .unset] []))
          refine own_st (fun t k => XS.iconst X0.here hx rfl (hb hby at_29) k) ?_
          show own_Go p e below G (s₁.setTop (mkF m 30 #[.val (.int x0), .val (.int y0), .val (.int y0), .unset] [(.int (1 : Int32))]))
          refine own_st (fun t k => XS.goto X0.here hx rfl (pc0 := 30) (pc' := 34) rfl (hb hby at_30) (by decide) (by decide) k) ?_
          show own_Go p e below G (s₁.setTop (mkF m 34 #[.val (.int x0), .val (.int y0), .val (.int y0), .unset] [(.int (1 : Int32))]))
          refine own_st (fun t k => XS.istoreN X0.here hx rfl (hb hby at_34) rfl (l' := #[.val (.int x0), .val (.int y0), .val (.int y0), .val (.int (1 : Int32))]) rfl k) ?_
          show own_Go p e below G (s₁.setTop (mkF m 35 #[.val (.int x0), .val (.int y0), .val (.int y0), .val (.int (1 : Int32))] []))
          refine own_st (fun t k => XS.iloadN X0.here hx rfl (hb hby at_35) rfl  k) ?_
          show own_Go p e below G (s₁.setTop (mkF m 36 #[.val (.int x0), .val (.int y0), .val (.int y0), .val (.int (1 : Int32))] [(.int y0)]))
          obtain ⟨v9, T9, L9, X9, Q9, st9⟩ := own_callS X0 hx hZ (y := (⟨"com/example/thinleaf/thinleaf/core/trec/Markup", "isSpace", "(C)Z"⟩ : MethodName)) hown (hw _ (List.mem_of_getElem? (i := 0) rfl)) (hw _ (List.mem_of_getElem? (i := 1) rfl)) (hw _ (List.mem_of_getElem? (i := 2) rfl)) (hw _ (List.mem_of_getElem? (i := 3) rfl)) (by decide) (W := 0) (rm1 l Z a0 hw y0 h0) (by decide) (by decide) e0 (g := (mkF m 36 #[.val (.int x0), .val (.int y0), .val (.int y0), .val (.int (1 : Int32))] [(.int y0)])) rfl (by rw [hml]; rfl) (argsL := [(.int y0)]) (rest := []) own_pd0 rfl rfl (by show 2 * 0 + _ ≤ _; exact Nat.le_of_eq rfl) (hb hby at_36) rfl (by decide) (by decide)
          obtain ⟨rfl, rfl, e9⟩ := Q9
          simp only [List.append_nil, Nat.add_zero] at X9
          refine own_st st9 ?_
          show own_Go p e below G (T9.setTop (mkF m 39 #[.val (.int x0), .val (.int y0), .val (.int y0), .val (.int (1 : Int32))] [(.int (own_sp y0))]))
          refine own_st (fun t k => XS.iloadN X9.here hx rfl (hb hby at_39) rfl  k) ?_
          show own_Go p e below G (T9.setTop (mkF m 40 #[.val (.int x0), .val (.int y0), .val (.int y0), .val (.int (1 : Int32))] [(.int (1 : Int32)), (.int (own_sp y0))]))
          refine own_st (fun t k => XS.icmpNo X9.here hx rfl (hb hby at_40) rfl (teq (show own_sp y0 = (1 : Int32) by simp [own_sp_eq, c8_1, c14_3, c20_5, c26_7])).2 k) ?_
          show own_Go p e below G (T9.setTop (mkF m 43 #[.val (.int x0), .val (.int y0), .val (.int y0), .val (.int (1 : Int32))] []))
          refine own_st (fun t k => XS.iconst X9.here hx rfl (hb hby at_43) k) ?_
          show own_Go p e below G (T9.setTop (mkF m 44 #[.val (.int x0), .val (.int y0), .val (.int y0), .val (.int (1 : Int32))] [(.int (1 : Int32))]))
          refine own_st (fun t k => XS.goto X9.here hx rfl (pc0 := 44) (pc' := 48) rfl (hb hby at_44) (by decide) (by decide) k) ?_
          show own_Go p e below G (T9.setTop (mkF m 48 #[.val (.int x0), .val (.int y0), .val (.int y0), .val (.int (1 : Int32))] [(.int (1 : Int32))]))
          rw [hG]
          exact own_retZ X9 hx hlk (t := .boolean) hret (by simp) (hb hby at_48) ⟨rfl, Fr.nil _⟩ (by decide) (by decide)
set_option maxRecDepth 65536 in
set_option maxHeartbeats 40000000 in
theorem comes_1 {Post : Tables → Env → Array Value → State → Outcome → State → Prop} (hpost : ∀ tb e args s v u, (limb_1_1.after args s (.returned v) u = true ∧ limb_1_2.after args s (.returned v) u = true) → FrameEnd s (.returned v) u (Jvm.fieldLocs frame_1_writes args s ++ Jvm.arrayLocs frame_1_arrays args s ++ Jvm.staticLocs frame_1_statics s) 0 0 → Post tb e args s (.returned v) u) :
    ArmFor flags0 classFile x code maxLocals ret World_1 tables_1 room_1 Calls_1 rest_1 Pre_1 Post := by
  intro l hfl _ _ p e ha hc hk s m args below hf hA hF happ hP
  obtain ⟨hcalls, hrest, hpre⟩ := hP
  obtain ⟨-, -, -, hnamed, -, -, -, hat⟩ := (Spec.applies_iff hf).mp happ
  obtain ⟨hg, hn⟩ := and_e (Cond.before_iff.mp (show (Jvm.Cond.and given_1 narrow_1).before args s = true from hpre))
  obtain ⟨gc, gv0⟩ := and_e hg
  obtain ⟨w0, rfl⟩ : ∃ w0 : Value, args = #[w0] := by
    have hs : args.size = 1 := by simpa [Cond.value, given_1] using gc
    obtain ⟨L⟩ := args
    match L, hs with
    | [w0], _ => exact ⟨w0, rfl⟩
  have hw := fun d (hd : d ∈ tables_1) => atoms_spec (ws := Jvm.Cond.code x code maxLocals ret :: tables_1) hat d (List.mem_cons_of_mem _ hd)
  have hfit : Fit s := fun {y c} hc i hi => by
    obtain ⟨ha, rfl⟩ := Array.getElem?_eq_some_iff.mp hc
    have q := List.all_eq_true.mp ((Array.all_eq_true_iff_forall_mem.mp hF) _ (Array.getElem_mem ha)) i (List.mem_range.mpr hi)
    simpa [Array.getElem?_eq_getElem hi] using q
  obtain ⟨i0, ei0⟩ := is_v gv0
  obtain rfl : w0 = (.int i0) := Option.some.inj ei0
  obtain ⟨n, o, h1, h2, h3, _, L, rfl, ⟨rfl, N⟩, hq⟩ := rm0 l s _ hw tables_1 i0 s.heap s.heap.size p e ha hc hk s m _ below hf ((Spec.applies_iff_loose hf).mp happ).1 ⟨rfl, State.Warmed39.refl s, rfl⟩ trivial
  refine ⟨n, _, h1, h2, h3, hpost _ _ _ _ _ _ ⟨Cond.after_iff.mpr rfl, Cond.after_iff.mpr (eq_i res_at (Term.int_eval (1)) rfl)⟩ ⟨hq.1, hq.2.1, (hq.2.2.sift fun y hy => Or.inr (N y hy)).mono (by decide) (by decide)⟩⟩
theorem main_1_1 : Claimed_1_1 := comes_1 fun _ _ _ _ _ _ h hF => ⟨h.1, hF⟩
theorem main_1_2 : Claimed_1_2 := comes_1 fun _ _ _ _ _ _ h hF => ⟨h.2, hF⟩
end Jvm.Pilot.@@N@@
namespace Jvm.Pilot.@@N@@
open Jvm Jvm.ClassFile Sem Op Lib Jvm.Free Jvm.Stand Jvm.Pilot.@@N@@.Jvm.D
/-! MADE BY PROGRAM (witnessworld.py) out of the Statement's table words and the real class files: 9 classes; the members and pool entries that the words name. The judged class is class 1, her method 1. -/
namespace start1
open Jvm.ClassFile
def u (s : String) : CpInfo := .utf8 (stringToUtf16 s)
/-- a pool by its gaps: so many unusable entries, then the entry; so many at the end -/
def gap : Nat → List CpInfo → List CpInfo
  | 0, r => r
  | n + 1, r => .unusable :: gap n r
def poolList (es : List (Nat × CpInfo)) (last : Nat) : List CpInfo := es.foldr (fun e r => gap e.1 (e.2 :: r)) (gap last [])
def pool (es : List (Nat × CpInfo)) (last : Nat) : Array CpInfo := ⟨poolList es last⟩
def fileOf (pool : Array CpInfo) (this : Nat) (attrs : Array Attribute := #[]) (ms : Array MethodInfo := #[]) (fl : Nat := 33) (sup : Nat := 0) (ifs : Array Nat := #[]) (fds : Array FieldInfo := #[]) : ClassFile where
  minorVersion := 0
  majorVersion := 65
  constantPool := pool
  accessFlags := fl
  thisClass := this
  superClass := sup
  interfaces := ifs
  fields := fds
  methods := ms
  attributes := attrs
def plain (name : String) (sup : Option ClassId) : Class where
  name := name
  kind := .ordinary
  loader := none
  accessFlags := 33
  super := sup
  interfaces := #[]
  cf := none
  fields := #[]
  methods := #[]
  instanceTypes := #[]
  staticTypes := #[]
  resolved := #[]
  callSites := []
  init := .initialized
  statics := none
  mirror := none

def pool0 : Array CpInfo := pool [(5, u "<init>"), (0, u "()V"), (1, .class_ 10), (1, u "java/lang/Object")] 113

def k0m0 : Method := { name := "<init>", desc := "()V", sig := { parameters := [], returnType := none }, accessFlags := 1, code := none }
/-- java/lang/Object -/
def k0 : Class := { plain "java/lang/Object" none with
  accessFlags := 33
  interfaces := #[]
  cf := some (fileOf pool0 8 #[] #[{ accessFlags := 1, nameIndex := 5, descriptorIndex := 6, attributes := #[] }] 33 0 #[] #[])
  fields := #[]
  methods := #[k0m0]
  instanceTypes := #[]
  staticTypes := #[]
  resolved := Array.replicate 124 none
  statics := none }

def pool1 : Array CpInfo := pool [(2, .class_ 4), (1, u "java/lang/Object"), (0, u "<init>"), (0, u "()V"), (0, .methodref 8 9), (0, .class_ 10), (0, .nameAndType 11 12), (0, u "com/example/thinleaf/thinleaf/core/trec/Markup"), (0, u "isSpace"), (0, u "(C)Z"), (0, .class_ 14), (0, u "com/example/thinleaf/thinleaf/core/trec/MarkupIsSpacePinLaw"), (2, u "law"), (0, u "(I)Z")] 3

def k1m0 : Method := { name := "<init>", desc := "()V", sig := { parameters := [], returnType := none }, accessFlags := 1, code := none }
def k1c1 : Code := { maxStack := 2, maxLocals := 4, code := code, exceptionTable := #[], attributes := #[] }
def k1m1 : Method := { name := "law", desc := "(I)Z", sig := { parameters := [.int], returnType := some .boolean }, accessFlags := 9, code := some k1c1 }
/-- com/example/thinleaf/thinleaf/core/trec/MarkupIsSpacePinLaw -/
def k1 : Class := { plain "com/example/thinleaf/thinleaf/core/trec/MarkupIsSpacePinLaw" (some 0) with
  accessFlags := 49
  interfaces := #[]
  cf := some (fileOf pool1 13 #[] #[{ accessFlags := 1, nameIndex := 5, descriptorIndex := 6, attributes := #[] }, { accessFlags := 9, nameIndex := 17, descriptorIndex := 18, attributes := #[] }] 49 2 #[] #[])
  fields := #[]
  methods := #[k1m0, k1m1]
  instanceTypes := #[]
  staticTypes := #[]
  resolved := Array.replicate 22 none
  statics := none }

def pool2 : Array CpInfo := pool [(2, .class_ 4), (1, u "java/lang/Object"), (3, .class_ 10), (1, u "com/example/thinleaf/thinleaf/core/trec/Markup"), (0, u "text"), (0, u "Ljava/lang/String;"), (8, u "noCloseFrom"), (0, u "I"), (7, u "(C)Z"), (54, .class_ 87), (1, u "com/example/thinleaf/thinleaf/core/trec/Markup$State"), (11, u "isSpace"), (43, u "noEndFrom"), (0, u "[B")] 31

def k2c0 : Code := { maxStack := 2, maxLocals := 1, code := prog_128_method_14_code, exceptionTable := #[], attributes := #[] }
def k2m0 : Method := { name := "isSpace", desc := "(C)Z", sig := { parameters := [.char], returnType := some .boolean }, accessFlags := 8, code := some k2c0 }
/-- com/example/thinleaf/thinleaf/core/trec/Markup -/
def k2 : Class := { plain "com/example/thinleaf/thinleaf/core/trec/Markup" (some 0) with
  accessFlags := 48
  interfaces := #[]
  cf := some (fileOf pool2 8 #[.nestMembers #[85]] #[{ accessFlags := 8, nameIndex := 99, descriptorIndex := 30, attributes := #[] }] 48 2 #[] #[{ accessFlags := 18, nameIndex := 11, descriptorIndex := 12, attributes := #[] }, { accessFlags := 2, nameIndex := 21, descriptorIndex := 22, attributes := #[] }, { accessFlags := 2, nameIndex := 143, descriptorIndex := 144, attributes := #[] }])
  fields := #[{ name := "text", type := (.object "java/lang/String"), accessFlags := 18, slot := 0, constantValue := 0 }, { name := "noCloseFrom", type := .int, accessFlags := 2, slot := 1, constantValue := 0 }, { name := "noEndFrom", type := (.array .byte), accessFlags := 2, slot := 2, constantValue := 0 }]
  methods := #[k2m0]
  instanceTypes := #[(.object "java/lang/String"), .int, (.array .byte)]
  staticTypes := #[]
  resolved := Array.replicate 176 none
  statics := none }

def pool3 : Array CpInfo := pool [(1, u "java/lang/Cloneable"), (0, .class_ 1), (0, u "java/lang/Object"), (0, .class_ 3)] 3

/-- java/lang/Cloneable -/
def k3 : Class := { plain "java/lang/Cloneable" (some 0) with
  accessFlags := 1537
  interfaces := #[]
  cf := some (fileOf pool3 2 #[] #[] 1537 4 #[] #[])
  fields := #[]
  methods := #[]
  instanceTypes := #[]
  staticTypes := #[]
  resolved := Array.replicate 8 none
  statics := none }

def pool4 : Array CpInfo := pool [(1, u "java/io/Serializable"), (0, .class_ 1), (0, u "java/lang/Object"), (0, .class_ 3)] 3

/-- java/io/Serializable -/
def k4 : Class := { plain "java/io/Serializable" (some 0) with
  accessFlags := 1537
  interfaces := #[]
  cf := some (fileOf pool4 2 #[] #[] 1537 4 #[] #[])
  fields := #[]
  methods := #[]
  instanceTypes := #[]
  staticTypes := #[]
  resolved := Array.replicate 8 none
  statics := none }

/-- the primitive byte -/
def k5 : Class := { plain "byte" none with kind := .primitive 'B', accessFlags := 0x411 }
/-- [B -/
def k6 : Class := { plain "[B" (some 0) with kind := .array 5 .byte, interfaces := #[3, 4], accessFlags := 1041 }

/-- the primitive int -/
def k7 : Class := { plain "int" none with kind := .primitive 'I', accessFlags := 0x411 }
/-- [I -/
def k8 : Class := { plain "[I" (some 0) with kind := .array 7 .int, interfaces := #[3, 4], accessFlags := 1041 }

def heap : Heap := #[]
def classes : Array Class := #[k0, k1, k2, k3, k4, k5, k6, k7, k8]
def interned : List (Array UInt16 × Addr) := []
def slotsUsed : Nat := 0
def theMethod : MethodId := ⟨1, 1⟩
def args0 : Array Value := #[.int 5]
def aboutOver (below : List Frame) : State where
  vm := { classes := classes, interned := interned.toArray }
  heap := heap
  slotsUsed := slotsUsed
  threads := #[{ frames := .invoking theMethod args0 :: below }]
def below0 : List Frame := [.native { method := ⟨0, 0⟩, args := #[] }]
def about1 : State := aboutOver below0
def p0 : Program := .bare "" "" ""
def e0 : Env := launch0.env 0 0 0
theorem w_frames : about1.frames = Frame.invoking theMethod args0 :: below0 := rfl
set_option maxRecDepth 65536 in
theorem w_args : argsFit about1.vm theMethod args0 = true := by decide +kernel
set_option maxRecDepth 65536 in
theorem w_heap : heapFits about1 = true := by decide +kernel
set_option maxRecDepth 65536 in
theorem w_runnable : about1.curStatus? = some .runnable := by decide +kernel
set_option maxRecDepth 65536 in
theorem w_alone : about1.alone = true := by decide +kernel
set_option maxRecDepth 65536 in
theorem w_named : about1.methodNamed? x = some theMethod := by decide +kernel
set_option maxRecDepth 65536 in
theorem w_hears : about1.hears theMethod below0 = true := by decide +kernel
set_option maxRecDepth 65536 in
theorem w_ripe : about1.ripe theMethod args0 below0 = true := by decide +kernel
theorem w_running : about1.status = .running := rfl
set_option maxRecDepth 65536 in
theorem w_room : about1.hasRoom e0.platform room_1 = true :=
  launch0.hasRoom_least _ room_1 (by decide +kernel) (by decide +kernel) (by decide +kernel) (by decide +kernel) (by decide +kernel) (by decide +kernel)
theorem allAtoms_all (ts : List Jvm.Cond) (a : Array Jvm.Value) (st : Jvm.State) : (allAtoms ts).before a st = ts.all (fun c => c.before a st) := by
  induction ts with
  | nil => rfl
  | cons c t ih =>
    show (Jvm.Cond.and c (allAtoms t)).before a st = _
    rw [Jvm.Cond.before_and, ih, List.all_cons]
def words1 : List Jvm.Cond := Jvm.Cond.code x code maxLocals ret :: tables_1
/-- a 'code' word, met by the world's own term for the bytes: nothing is compared byte by byte -/
theorem code_word {y : MethodName} {bytes : ByteArray} {mx : Nat} {rt : Option FieldType} {a : Array Value} {s : State} {m : MethodId} {meth : Method} {c : Code} (h1 : s.methodNamed? y = some m) (h2 : s.vm.method? m = some meth) (h3 : meth.code = some c) (h4 : c.code = bytes)
    (h5 : (c.maxLocals == mx && c.exceptionTable.isEmpty && decide (c.maxStack ≤ mostOperands) && decide (meth.sig.returnType = rt) && !meth.locks && decide (parseMethodDescriptor y.desc = some meth.sig)) = true) : (Jvm.Cond.code y bytes mx rt).before a s = true := by
  simp only [Bool.and_eq_true, beq_iff_eq, Bool.not_eq_true', decide_eq_true_eq] at h5
  obtain ⟨⟨⟨⟨⟨g1, g2⟩, g3⟩, g4⟩, g5⟩, g6⟩ := h5
  simp [Cond.before, Cond.holds, Cond.value, h1, h2, h3, h4, g1, g2, g3, g4, g5, g6]
def isCode : Jvm.Cond → Bool
  | .code _ _ _ _ => true
  | _ => false
theorem all_split {L : List Jvm.Cond} {P : Jvm.Cond → Bool} (h1 : L.all (fun c => isCode c || P c) = true) (h2 : ∀ c ∈ L.filter isCode, P c = true) : L.all P = true := by
  refine List.all_eq_true.mpr fun c hc => ?_
  have h := List.all_eq_true.mp h1 c hc
  rcases Bool.eq_false_or_eq_true (isCode c) with hi | hi
  · exact h2 c (List.mem_filter.mpr ⟨hc, hi⟩)
  · simpa [hi] using h
set_option maxRecDepth 65536 in
theorem w_c0 : (Jvm.Cond.code x code maxLocals ret).before args0 about1 = true := code_word (m := ⟨1, 1⟩) (meth := k1m1) (c := k1c1) (by decide +kernel) rfl rfl rfl (by decide +kernel)
set_option maxRecDepth 65536 in
theorem w_c1 : (Jvm.Cond.code ({ cls := "com/example/thinleaf/thinleaf/core/trec/Markup", name := "isSpace", desc := "(C)Z" } : Jvm.MethodName) prog_128_method_14_code (1 : Nat) (Option.some Jvm.ClassFile.FieldType.boolean)).before args0 about1 = true := code_word (m := ⟨2, 0⟩) (meth := k2m0) (c := k2c0) (by decide +kernel) rfl rfl rfl (by decide +kernel)
def codes1 : List Jvm.Cond := [Jvm.Cond.code x code maxLocals ret, Jvm.Cond.code ({ cls := "com/example/thinleaf/thinleaf/core/trec/Markup", name := "isSpace", desc := "(C)Z" } : Jvm.MethodName) prog_128_method_14_code (1 : Nat) (Option.some Jvm.ClassFile.FieldType.boolean)]
set_option maxRecDepth 65536 in
theorem codes_eq : words1.filter isCode = codes1 := rfl
theorem w_codes : ∀ c ∈ words1.filter isCode, c.before args0 about1 = true := by
  rw [codes_eq]
  intro c hc
  simp only [codes1, List.mem_cons, List.not_mem_nil, or_false] at hc
  rcases hc with rfl | rfl
  · exact w_c0
  · exact w_c1
set_option maxRecDepth 65536 in
theorem w_t1 : words1.all (fun c => isCode c || c.before args0 about1) = true := by decide +kernel
theorem w_tables : (allAtoms (Jvm.Cond.code x code maxLocals ret :: tables_1)).before args0 about1 = true := by
  rw [allAtoms_all]
  show words1.all (fun c => c.before args0 about1) = true
  refine all_split ?_ w_codes
  rw [w_t1]
set_option maxRecDepth 65536 in
theorem w_case : (Jvm.Cond.and given_1 narrow_1).before args0 about1 = true := by decide +kernel
theorem w_applies : (headSpec (Jvm.Cond.code x code maxLocals ret :: tables_1) room_1).applies x e0.platform about1 = true :=
  (Spec.applies_iff w_frames).mpr ⟨w_running, w_runnable, w_alone, w_named, w_hears, w_ripe, w_room, w_tables⟩
theorem atStart : AtStart classFile x code maxLocals ret World_1 tables_1 room_1 Calls_1 rest_1 Pre_1 launch0 p0 e0 about1 theMethod args0 below0 :=
  ⟨lists_1, trivial, launch0.admits_env _ _ _, launch0.least_env, fairChoices_fair.cas, fairChoices_fair.clock, w_frames, w_args, w_heap, w_applies, trivial, trivial, w_case⟩
end start1
theorem witness_1 : WitnessClaimed_1 := ⟨start1.p0, start1.e0, start1.about1, start1.theMethod, start1.args0, start1.below0, start1.atStart⟩
end Jvm.Pilot.@@N@@
