import JvmDerived
import JvmDerived.Pilot.@@N@@Statement
import JvmDerived.Pilot.@@N@@Code
set_option linter.unusedVariables false
set_option linter.unusedSimpArgs false
namespace Jvm.RoadKit
open Sem ClassFile Op Lib Jvm.Stand Jvm.Free Jvm.LawKit
section New
variable {p : Program} {l : Launch} {e : Env} {R : Room} {s : State} {m : MethodId} {args : Array Value} {below : List Frame} {meth : Method} {c : Code} {T : State} {locs : List Loc} {cells slots : Nat}
theorem retI (X : Stand p l e R s m args below meth c T locs cells slots) (hx : p.tables.exec = Jvm.exec) {pc : Nat} {Ls : Array Slot} {z : Int32} {rest : List Value} (hret : meth.sig.returnType = some .int) (hd : decode c.code pc = .ok (.ireturn, 1)) {fs : List Frame}
    (hl : ∀ (f : JFrame) (acts : List Action), f.method = m → f.locked = none → f.entered = [] → (doReturn e (T.setTop f) acts (some (.int z))).1 = T.setFrames fs) : Steps p.tables e below (T.setTop (mkF m pc Ls (.int z :: rest))) (T.setFrames fs) := by
  have hm' : T.vm.method? m = some meth := X.method'
  have hn : narrow .int (.int z) = .int z := rfl
  show Steps p.tables e below (T.setTop { method := m, pc := pc, locals := Ls, stack := _ :: rest, locked := none }) _
  jvm_step X.here [X.here.top, hx, hd, hm', hret, hn]
  first | (intro acts; rw [hl _ acts rfl rfl rfl]) | rw [hl _ _ rfl rfl rfl]
  exact Steps.refl _
/-- where a run is to come: it has ended, returning, with Q of what it returned, its heap and what it wrote -/
def own_End (s : State) (below : List Frame) (Q : Option Value → Heap → List Loc → Prop) (cc nn : Nat) (t : State) (o : Outcome) : Prop :=
  t.status = .running ∧ Ended t below o ∧ ∃ v L, o = .returned v ∧ Q v t.heap L ∧ FrameEnd s o t L cc nn
/-- from A the run comes to such an end -/
def own_Go (p : Program) (e : Env) (below : List Frame) (G : State → Outcome → Prop) (A : State) : Prop := ∃ t o, Steps p.tables e below A t ∧ G t o
theorem own_st {G : State → Outcome → Prop} {A B : State} (h : ∀ t, Steps p.tables e below B t → Steps p.tables e below A t) (k : own_Go p e below G B) : own_Go p e below G A := by
  obtain ⟨t, o, h1, h2⟩ := k
  exact ⟨t, o, h t h1, h2⟩
theorem own_retZ (X : Stand p l e R s m args below meth c T locs cells slots) (hx : p.tables.exec = Jvm.exec) (hlk : meth.locks = false) {t : FieldType} (hret : meth.sig.returnType = some t) (ht : t = .boolean ∨ t = .byte ∨ t = .char ∨ t = .short)
    {pc : Nat} {Ls : Array Slot} {z : Int32} {rest : List Value} (hd : decode c.code pc = .ok (.ireturn, 1)) {Q : Option Value → Heap → List Loc → Prop} {cc nn : Nat} (hq : Q (some (.int (nar t z))) T.heap locs) (hc : cells ≤ cc) (hn : slots ≤ nn) :
    own_Go p e below (own_End s below Q cc nn) (T.setTop (mkF m pc Ls (.int z :: rest))) := by
  obtain ⟨fs, hr, hrun, hended, hW, hsame⟩ := X.leave (v := some (.int (nar t z))) (fun h => by rw [hret] at h; cases h) hlk
  exact ⟨_, _, retN X hx hret ht hd hr, hrun, hended, _, _, rfl, hq, ⟨_, rfl⟩, hW, hsame.mono hc hn⟩
theorem own_retI (X : Stand p l e R s m args below meth c T locs cells slots) (hx : p.tables.exec = Jvm.exec) (hlk : meth.locks = false) (hret : meth.sig.returnType = some .int)
    {pc : Nat} {Ls : Array Slot} {z : Int32} {rest : List Value} (hd : decode c.code pc = .ok (.ireturn, 1)) {Q : Option Value → Heap → List Loc → Prop} {cc nn : Nat} (hq : Q (some (.int z)) T.heap locs) (hc : cells ≤ cc) (hn : slots ≤ nn) :
    own_Go p e below (own_End s below Q cc nn) (T.setTop (mkF m pc Ls (.int z :: rest))) := by
  obtain ⟨fs, hr, hrun, hended, hW, hsame⟩ := X.leave (v := some (.int z)) (fun h => by rw [hret] at h; cases h) hlk
  exact ⟨_, _, retI X hx hret hd hr, hrun, hended, _, _, rfl, hq, ⟨_, rfl⟩, hW, hsame.mono hc hn⟩
theorem own_retA (X : Stand p l e R s m args below meth c T locs cells slots) (hx : p.tables.exec = Jvm.exec) (hlk : meth.locks = false) {ty : FieldType} (hret : meth.sig.returnType = some ty) (hty : ty.isReference = true)
    {pc : Nat} {Ls : Array Slot} {v : Value} (hv : v.isRef = true) {rest : List Value} (hd : decode c.code pc = .ok (.areturn, 1)) {Q : Option Value → Heap → List Loc → Prop} {cc nn : Nat} (hq : Q (some v) T.heap locs) (hc : cells ≤ cc) (hn : slots ≤ nn) :
    own_Go p e below (own_End s below Q cc nn) (T.setTop (mkF m pc Ls (v :: rest))) := by
  obtain ⟨fs, hr, hrun, hended, hW, hsame⟩ := X.leave (v := some v) (fun h => by rw [hret] at h; cases h) hlk
  refine ⟨_, _, ?_, hrun, hended, _, _, rfl, hq, ⟨_, rfl⟩, hW, hsame.mono hc hn⟩
  have hm' : T.vm.method? m = some meth := X.method'
  show Steps p.tables e below (T.setTop { method := m, pc := pc, locals := Ls, stack := _ :: rest, locked := none }) _
  jvm_step X.here [X.here.top, hx, hd, hm', hret, hv, hty]
  first | (intro acts; rw [hr _ acts rfl rfl rfl]) | rw [hr _ _ rfl rfl rfl]
  exact Steps.refl _
theorem own_retV (X : Stand p l e R s m args below meth c T locs cells slots) (hx : p.tables.exec = Jvm.exec) (hlk : meth.locks = false) (hret : meth.sig.returnType = none)
    {pc : Nat} {Ls : Array Slot} (hd : decode c.code pc = .ok (.return_, 1)) {Q : Option Value → Heap → List Loc → Prop} {cc nn : Nat} (hq : Q none T.heap locs) (hc : cells ≤ cc) (hn : slots ≤ nn) :
    own_Go p e below (own_End s below Q cc nn) (T.setTop (mkF m pc Ls [])) := by
  obtain ⟨fs, hr, hrun, hended, hW, hsame⟩ := X.leave (v := none) (fun _ => rfl) hlk
  exact ⟨_, _, X.returnOut hx hret hd hr, hrun, hended, _, _, rfl, hq, ⟨_, rfl⟩, hW, hsame.mono hc hn⟩
/-- a body's contract: called with these values over this heap it returns, with Q -/
def own_Met (l : Launch) (Z : State) (y : MethodName) (bytes : ByteArray) (maxL : Nat) (ret : Option FieldType) (ws : List Cond) (rm : Room) (as' : Array Value) (h0 : Heap) (Q : Option Value → Heap → List Loc → Prop) : Prop :=
  MetFree l y (head1 (Cond.code y bytes maxL ret :: ws) rm) (fun a U => a = as' ∧ Z.Warmed39 U.vm ∧ U.heap = h0) (fun _ _ _ _ _ => True) (fun _ U o U' => ∃ v L, o = .returned v ∧ Q v U'.heap L ∧ FrameEnd U o U' L rm.cells rm.slots)
theorem own_body {Z : State} {y : MethodName} {bytes : ByteArray} {maxL : Nat} {ret : Option FieldType} {ws : List Cond} {rm : Room} {as' : Array Value} {h0 : Heap} {Q : Option Value → Heap → List Loc → Prop} (hpl : plainFor y = true)
    (k : ∀ (p : Program) (e : Env) (s : State) (m : MethodId) (below : List Frame) (meth : Method) (c : Code) (s₁ : State), p.tables.exec = Jvm.exec → c.code = bytes → c.maxLocals = maxL → s.vm.findClass y.cls = some m.cls → meth.name = y.name → meth.sig.returnType = ret → meth.locks = false → Z.Warmed39 s.vm →
      Stand p l e rm s m as' below meth c s₁ [] 0 0 → s₁.heap = h0 → ∀ G, G = own_End s below Q rm.cells rm.slots → own_Go p e below G (s₁.setTop (entryFrame m as' maxL))) :
    own_Met l Z y bytes maxL ret ws rm as' h0 Q := by
  refine MetFree.of_bodySF hpl hisR ?_
  intro p e s m args below meth c s₁ Bd hml0 hP hK
  obtain ⟨rfl, hZ, hh⟩ := hP
  have e0 : s₁.heap = h0 := by rw [← hh, Bd.state]; rfl
  exact k p e s m below meth c s₁ Bd.exec Bd.bytes hml0 (findClass_of_methodNamed Bd.named) (name_of_methodNamed Bd.named Bd.method).1 Bd.returns Bd.notSynchronized hZ (Stand.of_body Bd) e0 _ rfl
section Calls
variable {Z : State} {a0 : Array Value} {h : Heap}
theorem own_callS (X : Stand p l e R s m args below meth c T locs cells slots) (hx : p.tables.exec = Jvm.exec) (hZ : Z.Warmed39 s.vm) {own : String} {index : Nat} {y : MethodName} {bytes : ByteArray} {maxL : Nat} {ret : Option FieldType} (hown : s.vm.findClass own = some m.cls)
    (w1 : (Cond.methodLink own index y).before a0 Z = true) (w2 : (Cond.static y).before a0 Z = true) (w3 : (Cond.initialized y.cls).before a0 Z = true) (w4 : (Cond.code y bytes maxL ret).before a0 Z = true)
    (hy : y.cls ≠ "java/lang/invoke/MethodHandle" ∧ y.cls ≠ "java/lang/invoke/VarHandle") {rm : Room} {as' : Array Value} {Q : Option Value → Heap → List Loc → Prop} {W : Nat} (hM : own_Met l Z y bytes maxL ret [] rm as' h Q)
    (hf : rm.frames + 1 ≤ R.frames) (hl : W + (maxL + 11) + rm.locals ≤ R.locals) (eT : T.heap = h) {g : JFrame} (hg : g.method = m) (hsize : g.locals.size = c.maxLocals) {argsL rest : List Value}
    {ps : List FieldType} {r : Option FieldType} (hd : parseMethodDescriptor y.desc = some ⟨ps, r⟩) (hlen : argsL.length = ps.length) (hstack : g.stack = argsL.reverse ++ rest) (hW : 2 * g.monitorRoom + (rest.map fun v => v.category).sum ≤ W)
    (hdg : decode c.code g.pc = .ok (.invokestatic index, 3)) (ha : argsL.toArray = as') (hc : cells + rm.cells ≤ R.cells) (hn : slots + rm.slots ≤ R.slots) :
    ∃ (v : Option Value) (T' : State) (L : List Loc), Stand p l e R s m args below meth c T' (locs ++ L) (cells + rm.cells) (slots + rm.slots) ∧ Q v T'.heap L ∧
      ∀ target, Steps p.tables e below (T'.setTop { g with pc := g.pc + 3, stack := v.toList ++ rest }) target → Steps p.tables e below (T.setTop g) target := by
  obtain ⟨v, vm1, ⟨T', L', k', n'⟩, -, X', ⟨Lc, hQ, l1, l2, l3⟩, st⟩ := Jvm.LawKit.callS X hx (y := y) hown (mvT hZ w1) (mvT hZ w2) (mvT hZ w3) (mvT hZ w4) hy (backOf (W := W) hM hZ w4 w3 hf hl) hg hsize (argsL := argsL) (rest := rest) (lenOf hd hlen) hstack hW hdg (fun _ _ => ⟨ha, eT, hc, hn⟩)
  dsimp only [Pt.U, Pt.locs, Pt.cells, Pt.slots] at X' l1 l2 l3 st hQ
  subst l1 l2 l3
  exact ⟨v, T', Lc, X', hQ, st⟩
theorem own_callC (X : Stand p l e R s m args below meth c T locs cells slots) (hx : p.tables.exec = Jvm.exec) (hZ : Z.Warmed39 s.vm) {own : String} {index : Nat} {y : MethodName} {bytes : ByteArray} {maxL : Nat} (hn1 : y.name = "<init>") (hown : s.vm.findClass own = some m.cls)
    (w1 : (Cond.methodLink own index y).before a0 Z = true) (w2 : (Cond.instanceMethod y).before a0 Z = true) (w3 : (Cond.initialized y.cls).before a0 Z = true) (w4 : (Cond.code y bytes maxL none).before a0 Z = true)
    (hy : y.cls ≠ "java/lang/invoke/MethodHandle" ∧ y.cls ≠ "java/lang/invoke/VarHandle") {rm : Room} {as' : Array Value} {Q : Option Value → Heap → List Loc → Prop} {W : Nat} (hM : own_Met l Z y bytes maxL none [] rm as' h Q)
    (hf : rm.frames + 1 ≤ R.frames) (hl : W + (maxL + 11) + rm.locals ≤ R.locals) (eT : T.heap = h) {g : JFrame} (hg : g.method = m) (hsize : g.locals.size = c.maxLocals) {a : Addr} {argsL rest : List Value}
    {ps : List FieldType} {r : Option FieldType} (hd : parseMethodDescriptor y.desc = some ⟨ps, r⟩) (hlen : argsL.length = ps.length) (hstack : g.stack = argsL.reverse ++ .ref a :: rest) (hW : 2 * g.monitorRoom + (rest.map fun v => v.category).sum ≤ W)
    (hdg : decode c.code g.pc = .ok (.invokespecial index, 3)) (ha : (.ref a :: argsL).toArray = as') (hc : cells + rm.cells ≤ R.cells) (hn : slots + rm.slots ≤ R.slots) :
    ∃ (v : Option Value) (T' : State) (L : List Loc), Stand p l e R s m args below meth c T' (locs ++ L) (cells + rm.cells) (slots + rm.slots) ∧ Q v T'.heap L ∧
      ∀ target, Steps p.tables e below (T'.setTop { g with pc := g.pc + 3, stack := v.toList ++ rest }) target → Steps p.tables e below (T.setTop g) target := by
  obtain ⟨v, vm1, ⟨T', L', k', n'⟩, -, X', ⟨Lc, hQ, l1, l2, l3⟩, st⟩ := X.specialBack hx (y := y) hn1 hown (mvT hZ w1) (mvT hZ w2) (mvT hZ w4) hy (backOf (W := W) hM hZ w4 w3 hf hl) hg hsize (Steps.refl _) (a := a) (argsL := argsL) (rest := rest) (lenOf hd hlen) hstack hW hdg (fun _ _ => ⟨ha, eT, hc, hn⟩)
  dsimp only [Pt.U, Pt.locs, Pt.cells, Pt.slots] at X' l1 l2 l3 st hQ
  subst l1 l2 l3
  exact ⟨v, T', Lc, X', hQ, fun t k => st.trans k⟩
theorem own_callV (X : Stand p l e R s m args below meth c T locs cells slots) (hx : p.tables.exec = Jvm.exec) (hZ : Z.Warmed39 s.vm) {own C : String} {index : Nat} {y z : MethodName} {bytes : ByteArray} {maxL : Nat} {ret : Option FieldType} (hown : s.vm.findClass own = some m.cls)
    (w1 : (Cond.methodLink own index y).before a0 Z = true) (w2 : (Cond.declares y).before a0 Z = true) (hnf : NotFace s y) (w5 : (Cond.selects C y z).before a0 Z = true) (w6 : (Cond.instanceMethod z).before a0 Z = true) (w3 : (Cond.initialized z.cls).before a0 Z = true) (w4 : (Cond.code z bytes maxL ret).before a0 Z = true)
    (hy : y.cls ≠ "java/lang/invoke/MethodHandle" ∧ y.cls ≠ "java/lang/invoke/VarHandle") {rm : Room} {as' : Array Value} {Q : Option Value → Heap → List Loc → Prop} {W : Nat} (hM : own_Met l Z z bytes maxL ret [] rm as' h Q)
    (hf : rm.frames + 1 ≤ R.frames) (hl : W + (maxL + 11) + rm.locals ≤ R.locals) (eT : T.heap = h) {a : Addr} (E : Exa Z h a C) {g : JFrame} (hg : g.method = m) (hsize : g.locals.size = c.maxLocals) {argsL rest : List Value}
    {ps : List FieldType} {r : Option FieldType} (hd : parseMethodDescriptor y.desc = some ⟨ps, r⟩) (hlen : argsL.length = ps.length) (hstack : g.stack = argsL.reverse ++ .ref a :: rest) (hW : 2 * g.monitorRoom + (rest.map fun v => v.category).sum ≤ W)
    (hdg : decode c.code g.pc = .ok (.invokevirtual index, 3)) (ha : (.ref a :: argsL).toArray = as') (hc : cells + rm.cells ≤ R.cells) (hn : slots + rm.slots ≤ R.slots) :
    ∃ (v : Option Value) (T' : State) (L : List Loc), Stand p l e R s m args below meth c T' (locs ++ L) (cells + rm.cells) (slots + rm.slots) ∧ Q v T'.heap L ∧
      ∀ target, Steps p.tables e below (T'.setTop { g with pc := g.pc + 3, stack := v.toList ++ rest }) target → Steps p.tables e below (T.setTop g) target := by
  obtain ⟨cq, kq, q1, q2, q3⟩ := isOf hZ eT E
  obtain ⟨v, vm1, ⟨T', L', k', n'⟩, -, X', ⟨Lc, hQ, l1, l2, l3⟩, st⟩ := X.virtualBack hx (y := y) (z := z) hown (mvT hZ w1) (mvT hZ w2) hnf (mvT hZ w5) (mvT hZ w6) hy (backOf (W := W) hM hZ w4 w3 hf hl) q1 q3 hg hsize (Steps.refl _) (argsL := argsL) (rest := rest) (lenOf hd hlen) hstack hW hdg (fun _ _ => ⟨ha, eT, hc, hn⟩)
  dsimp only [Pt.U, Pt.locs, Pt.cells, Pt.slots] at X' l1 l2 l3 st hQ
  subst l1 l2 l3
  exact ⟨v, T', Lc, X', hQ, fun t k => st.trans k⟩
end Calls
section Words
variable {Z : State} {a0 : Array Value}
theorem own_exa {t : Term} {C : String} (h : (Cond.exactly t C).value a0 Z none Z [] = some true) : ∃ a, t.eval a0 Z none [] Z = some (.ref a) ∧ Exa Z Z.heap a C := by
  obtain ⟨a, e⟩ := exa_v h
  exact ⟨a, e, Exa.start e h⟩
theorem own_fldI {t : Term} {O n d : String} {k : Int32} {a : Addr} (h : (Cond.eq (.field t O n d) (.int k)).value a0 Z none Z [] = some true) (e : t.eval a0 Z none [] Z = some (.ref a)) : Fld Z Z.heap a O n d (.int k) := by
  obtain ⟨x, y, h1, h2, h3, h4⟩ := cmp_v (Or.inl h)
  cases (Term.int_eval k).symm.trans h2
  obtain ⟨q, rfl⟩ := h4
  obtain rfl := gotT (Cond.eq_ints h1 (Term.int_eval k)) h
  exact Fld.start ((fld_at e).symm.trans h1)
theorem own_fldJ {t : Term} {O n d : String} {k : Int64} {a : Addr} (h : (Cond.eq (.field t O n d) (.long k)).value a0 Z none Z [] = some true) (e : t.eval a0 Z none [] Z = some (.ref a)) : Fld Z Z.heap a O n d (.long k) := by
  obtain ⟨x, y, h1, h2, h3, h4⟩ := cmp_v (Or.inl h)
  cases (long_at k).symm.trans h2
  obtain ⟨q, rfl⟩ := h4
  obtain rfl := gotT (eq_L h1 (long_at k)) h
  exact Fld.start ((fld_at e).symm.trans h1)
theorem own_el {t u : Term} {i : Int32} {ca a : Addr} {cl : Cell} (h : (Cond.eq (.elem t (.int i)) u).value a0 Z none Z [] = some true) (ht : t.eval a0 Z none [] Z = some (.ref ca)) (hu : u.eval a0 Z none [] Z = some (.ref a)) (hc : Z.heap[ca]? = some cl) : cl.slots[i.toNatClampNeg]? = some (.ref a) := by
  obtain ⟨x, y, h1, h2, h3, h4⟩ := cmp_v (Or.inl h)
  cases hu.symm.trans h2
  have hx : x.isRef = true := by cases x <;> simp [Kin, Value.isRef] at h3 h4 ⊢
  have e := gotT (eq_R h1 h2 hx rfl) h
  subst e
  exact (elem_in h1 ht (Term.int_eval i) hc).2
theorem own_len {t : Term} {n : Int32} {ca : Addr} {cl : Cell} (h : (Cond.eq (.length t) (.int n)).value a0 Z none Z [] = some true) (ht : t.eval a0 Z none [] Z = some (.ref ca)) (hc : Z.heap[ca]? = some cl) : cl.slots.size < 2 ^ 31 ∧ cl.slots.size.toInt32 = n := by
  obtain ⟨x, y, h1, h2, h3, h4⟩ := cmp_v (Or.inl h)
  obtain ⟨b, cell, e1, e2, e3, rfl⟩ := Jvm.Lib.length_spec h1
  cases ht.symm.trans e1
  cases hc.symm.trans (Jvm.Lib.arrayAt_spec e2).1
  exact ⟨e3, gotT (Cond.eq_ints h1 (Term.int_eval n)) h⟩
end Words
end New
end Jvm.RoadKit
namespace Jvm.Pilot.@@N@@
open Jvm Jvm.ClassFile Sem Op Lib Jvm.Free Jvm.Stand Jvm.LawKit Jvm.RoadKit Bundle Jvm.Pilot.@@N@@.Jvm.D
theorem own_pd0 : parseMethodDescriptor "(C)Z" = some ⟨[.char], some .boolean⟩ := by decide +kernel
def own_ws (x : Int32) : Int32 := if x = 32 ∨ x = 9 ∨ x = 13 ∨ x = 10 then 1 else 0
theorem own_big (c : Int32) (h : 32 < c) : own_ws c = 0 := by
  unfold own_ws
  rw [if_neg]
  rw [Int32.lt_iff_toInt_lt] at h
  rintro (rfl | rfl | rfl | rfl) <;> revert h <;> decide
theorem own_bits : ∀ k : Fin 33, (((((4294977024 : Int64).toUInt64 >>> ((Int32.ofInt (k.1 : Int)) &&& 0x3f).toInt64.toUInt64).toInt64 &&& (1 : Int64)) = (0 : Int64)) ↔ own_ws (Int32.ofInt (k.1 : Int)) = 0) ∧ (own_ws (Int32.ofInt (k.1 : Int)) = 0 ∨ own_ws (Int32.ofInt (k.1 : Int)) = 1) := by decide
theorem own_small (c : Int32) (h0 : ¬ c < 0) (h : ¬ 32 < c) : (((((4294977024 : Int64).toUInt64 >>> (c &&& 0x3f).toInt64.toUInt64).toInt64 &&& (1 : Int64)) = (0 : Int64)) ↔ own_ws c = 0) ∧ (own_ws c = 0 ∨ own_ws c = 1) := by
  rw [Int32.lt_iff_toInt_lt] at h0 h
  have z0 : (0 : Int32).toInt = 0 := rfl
  have z32 : (32 : Int32).toInt = 32 := rfl
  have e : Int32.ofInt ((c.toInt.toNat : Nat) : Int) = c := by rw [Int.toNat_of_nonneg (by omega)]; exact Int32.ofInt_toInt c
  have := own_bits ⟨c.toInt.toNat, by omega⟩
  rw [e] at this; exact this
theorem own_chr (x : Int32) : ¬ (x.toUInt32.toUInt16.toUInt32.toInt32) < 0 := (rng_char (fits_nar_char x)).1
theorem d1_0 : decode prog_15_method_32_code 0 = .ok (.iload_n 0, 1) := by decide +kernel
theorem d1_1 : decode prog_15_method_32_code 1 = .ok (.bipush 32, 2) := by decide +kernel
theorem d1_3 : decode prog_15_method_32_code 3 = .ok (.if_icmp .eq 21, 3) := by decide +kernel
theorem d1_6 : decode prog_15_method_32_code 6 = .ok (.iload_n 0, 1) := by decide +kernel
theorem d1_7 : decode prog_15_method_32_code 7 = .ok (.bipush 9, 2) := by decide +kernel
theorem d1_9 : decode prog_15_method_32_code 9 = .ok (.if_icmp .eq 15, 3) := by decide +kernel
theorem d1_12 : decode prog_15_method_32_code 12 = .ok (.iload_n 0, 1) := by decide +kernel
theorem d1_13 : decode prog_15_method_32_code 13 = .ok (.bipush 13, 2) := by decide +kernel
theorem d1_15 : decode prog_15_method_32_code 15 = .ok (.if_icmp .eq 9, 3) := by decide +kernel
theorem d1_18 : decode prog_15_method_32_code 18 = .ok (.iload_n 0, 1) := by decide +kernel
theorem d1_19 : decode prog_15_method_32_code 19 = .ok (.bipush 10, 2) := by decide +kernel
theorem d1_21 : decode prog_15_method_32_code 21 = .ok (.if_icmp .ne 7, 3) := by decide +kernel
theorem d1_24 : decode prog_15_method_32_code 24 = .ok (.iconst 1, 1) := by decide +kernel
theorem d1_25 : decode prog_15_method_32_code 25 = .ok (.goto 4, 3) := by decide +kernel
theorem d1_28 : decode prog_15_method_32_code 28 = .ok (.iconst 0, 1) := by decide +kernel
theorem d1_29 : decode prog_15_method_32_code 29 = .ok (.ireturn, 1) := by decide +kernel
theorem pn_rm1 : plainFor (⟨"com/example/knowing_records/knowingrecords/data/ScalarType", "isWhiteSpace", "(C)Z"⟩ : MethodName) = true := by decide +kernel
theorem ef_rm1 (m : MethodId) (x0 : Int32) : entryFrame m #[(.int x0)] 1 = mkF m 0 #[.val (.int x0)] [] := by first | (simp [entryFrame, mkF, argsToLocals, Value.category]; done) | rfl
set_option maxRecDepth 65536 in
set_option maxHeartbeats 40000000 in
theorem rm1 (l : Launch) (Z : State) (a0 : Array Value) (hw : ∀ d ∈ tables_1, d.before a0 Z = true) (x0 : Int32) (h0 : Heap) :
    own_Met l Z (⟨"com/example/knowing_records/knowingrecords/data/ScalarType", "isWhiteSpace", "(C)Z"⟩ : MethodName) prog_15_method_32_code 1 (some .boolean) [] ({ frames := 0, cells := 0, slots := 0, locals := 0 } : Room) #[(.int x0)] h0 (fun v h L => v = some (.int (own_ws x0)) ∧ L = [] ∧ h = h0) := by
  refine own_body pn_rm1 ?_
  intro p e s m below meth c s₁ hx hby hml hown hnm hret hlk hZ X0 e0 G hG
  replace hml : c.maxLocals = 1 := hml
  replace hown : s.vm.findClass "com/example/knowing_records/knowingrecords/data/ScalarType" = some m.cls := hown
  rw [ef_rm1]
  show own_Go p e below G (s₁.setTop (mkF m 0 #[.val (.int x0)] []))
  refine own_st (fun t k => XS.iloadN X0.here hx rfl (hb hby d1_0) rfl  k) ?_
  show own_Go p e below G (s₁.setTop (mkF m 1 #[.val (.int x0)] [(.int x0)]))
  refine own_st (fun t k => XS.bipush X0.here hx rfl (hb hby d1_1) k) ?_
  show own_Go p e below G (s₁.setTop (mkF m 3 #[.val (.int x0)] [(.int (32 : Int32)), (.int x0)]))
  by_cases c3_1 : x0 = (32 : Int32)
  · skip
    refine own_st (fun t k => XS.icmpYes X0.here hx rfl (pc0 := 3) (pc' := 24) rfl (hb hby d1_3) rfl (teq c3_1).1 (by decide) (by decide) k) ?_
    show own_Go p e below G (s₁.setTop (mkF m 24 #[.val (.int x0)] []))
    refine own_st (fun t k => XS.iconst X0.here hx rfl (hb hby d1_24) k) ?_
    show own_Go p e below G (s₁.setTop (mkF m 25 #[.val (.int x0)] [(.int (1 : Int32))]))
    refine own_st (fun t k => XS.goto X0.here hx rfl (pc0 := 25) (pc' := 29) rfl (hb hby d1_25) (by decide) (by decide) k) ?_
    show own_Go p e below G (s₁.setTop (mkF m 29 #[.val (.int x0)] [(.int (1 : Int32))]))
    rw [hG]
    exact own_retZ X0 hx hlk (t := .boolean) hret (by simp) (hb hby d1_29) ⟨congrArg (fun z => some (Value.int z)) (show (1 : Int32) = own_ws x0 by simp [own_ws, c3_1]), rfl, e0⟩ (by decide) (by decide)
  · skip
    refine own_st (fun t k => XS.icmpNo X0.here hx rfl (hb hby d1_3) rfl (feq c3_1).1 k) ?_
    show own_Go p e below G (s₁.setTop (mkF m 6 #[.val (.int x0)] []))
    refine own_st (fun t k => XS.iloadN X0.here hx rfl (hb hby d1_6) rfl  k) ?_
    show own_Go p e below G (s₁.setTop (mkF m 7 #[.val (.int x0)] [(.int x0)]))
    refine own_st (fun t k => XS.bipush X0.here hx rfl (hb hby d1_7) k) ?_
    show own_Go p e below G (s₁.setTop (mkF m 9 #[.val (.int x0)] [(.int (9 : Int32)), (.int x0)]))
    by_cases c9_2 : x0 = (9 : Int32)
    · skip
      refine own_st (fun t k => XS.icmpYes X0.here hx rfl (pc0 := 9) (pc' := 24) rfl (hb hby d1_9) rfl (teq c9_2).1 (by decide) (by decide) k) ?_
      show own_Go p e below G (s₁.setTop (mkF m 24 #[.val (.int x0)] []))
      refine own_st (fun t k => XS.iconst X0.here hx rfl (hb hby d1_24) k) ?_
      show own_Go p e below G (s₁.setTop (mkF m 25 #[.val (.int x0)] [(.int (1 : Int32))]))
      refine own_st (fun t k => XS.goto X0.here hx rfl (pc0 := 25) (pc' := 29) rfl (hb hby d1_25) (by decide) (by decide) k) ?_
      show own_Go p e below G (s₁.setTop (mkF m 29 #[.val (.int x0)] [(.int (1 : Int32))]))
      rw [hG]
      exact own_retZ X0 hx hlk (t := .boolean) hret (by simp) (hb hby d1_29) ⟨congrArg (fun z => some (Value.int z)) (show (1 : Int32) = own_ws x0 by simp [own_ws, c3_1, c9_2]), rfl, e0⟩ (by decide) (by decide)
    · skip
      refine own_st (fun t k => XS.icmpNo X0.here hx rfl (hb hby d1_9) rfl (feq c9_2).1 k) ?_
      show own_Go p e below G (s₁.setTop (mkF m 12 #[.val (.int x0)] []))
      refine own_st (fun t k => XS.iloadN X0.here hx rfl (hb hby d1_12) rfl  k) ?_
      show own_Go p e below G (s₁.setTop (mkF m 13 #[.val (.int x0)] [(.int x0)]))
      refine own_st (fun t k => XS.bipush X0.here hx rfl (hb hby d1_13) k) ?_
      show own_Go p e below G (s₁.setTop (mkF m 15 #[.val (.int x0)] [(.int (13 : Int32)), (.int x0)]))
      by_cases c15_3 : x0 = (13 : Int32)
      · skip
        refine own_st (fun t k => XS.icmpYes X0.here hx rfl (pc0 := 15) (pc' := 24) rfl (hb hby d1_15) rfl (teq c15_3).1 (by decide) (by decide) k) ?_
        show own_Go p e below G (s₁.setTop (mkF m 24 #[.val (.int x0)] []))
        refine own_st (fun t k => XS.iconst X0.here hx rfl (hb hby d1_24) k) ?_
        show own_Go p e below G (s₁.setTop (mkF m 25 #[.val (.int x0)] [(.int (1 : Int32))]))
        refine own_st (fun t k => XS.goto X0.here hx rfl (pc0 := 25) (pc' := 29) rfl (hb hby d1_25) (by decide) (by decide) k) ?_
        show own_Go p e below G (s₁.setTop (mkF m 29 #[.val (.int x0)] [(.int (1 : Int32))]))
        rw [hG]
        exact own_retZ X0 hx hlk (t := .boolean) hret (by simp) (hb hby d1_29) ⟨congrArg (fun z => some (Value.int z)) (show (1 : Int32) = own_ws x0 by simp [own_ws, c3_1, c9_2, c15_3]), rfl, e0⟩ (by decide) (by decide)
      · skip
        refine own_st (fun t k => XS.icmpNo X0.here hx rfl (hb hby d1_15) rfl (feq c15_3).1 k) ?_
        show own_Go p e below G (s₁.setTop (mkF m 18 #[.val (.int x0)] []))
        refine own_st (fun t k => XS.iloadN X0.here hx rfl (hb hby d1_18) rfl  k) ?_
        show own_Go p e below G (s₁.setTop (mkF m 19 #[.val (.int x0)] [(.int x0)]))
        refine own_st (fun t k => XS.bipush X0.here hx rfl (hb hby d1_19) k) ?_
        show own_Go p e below G (s₁.setTop (mkF m 21 #[.val (.int x0)] [(.int (10 : Int32)), (.int x0)]))
        by_cases c21_4 : x0 = (10 : Int32)
        · skip
          refine own_st (fun t k => XS.icmpNo X0.here hx rfl (hb hby d1_21) rfl (teq c21_4).2 k) ?_
          show own_Go p e below G (s₁.setTop (mkF m 24 #[.val (.int x0)] []))
          refine own_st (fun t k => XS.iconst X0.here hx rfl (hb hby d1_24) k) ?_
          show own_Go p e below G (s₁.setTop (mkF m 25 #[.val (.int x0)] [(.int (1 : Int32))]))
          refine own_st (fun t k => XS.goto X0.here hx rfl (pc0 := 25) (pc' := 29) rfl (hb hby d1_25) (by decide) (by decide) k) ?_
          show own_Go p e below G (s₁.setTop (mkF m 29 #[.val (.int x0)] [(.int (1 : Int32))]))
          rw [hG]
          exact own_retZ X0 hx hlk (t := .boolean) hret (by simp) (hb hby d1_29) ⟨congrArg (fun z => some (Value.int z)) (show (1 : Int32) = own_ws x0 by simp [own_ws, c3_1, c9_2, c15_3, c21_4]), rfl, e0⟩ (by decide) (by decide)
        · skip
          refine own_st (fun t k => XS.icmpYes X0.here hx rfl (pc0 := 21) (pc' := 28) rfl (hb hby d1_21) rfl (feq c21_4).2 (by decide) (by decide) k) ?_
          show own_Go p e below G (s₁.setTop (mkF m 28 #[.val (.int x0)] []))
          refine own_st (fun t k => XS.iconst X0.here hx rfl (hb hby d1_28) k) ?_
          show own_Go p e below G (s₁.setTop (mkF m 29 #[.val (.int x0)] [(.int (0 : Int32))]))
          rw [hG]
          exact own_retZ X0 hx hlk (t := .boolean) hret (by simp) (hb hby d1_29) ⟨congrArg (fun z => some (Value.int z)) (show (0 : Int32) = own_ws x0 by simp [own_ws, c3_1, c9_2, c15_3, c21_4]), rfl, e0⟩ (by decide) (by decide)
theorem pn_rm0 : plainFor (⟨"com/example/knowing_records/knowingrecords/data/ScalarTypeIsWhiteSpacePinLaw", "law", "(I)Z"⟩ : MethodName) = true := by decide +kernel
theorem ef_rm0 (m : MethodId) (x0 : Int32) : entryFrame m #[(.int x0)] maxLocals = mkF m 0 #[.val (.int x0), .unset, .unset, .unset, .unset] [] := by first | (simp [entryFrame, mkF, argsToLocals, Value.category, maxLocals]; done) | rfl
set_option maxRecDepth 65536 in
set_option maxHeartbeats 40000000 in
theorem rm0 (l : Launch) (Z : State) (a0 : Array Value) (hw : ∀ d ∈ tables_1, d.before a0 Z = true) (ws : List Jvm.Cond) (x0 : Int32) (h0 : Heap) (n0 : Nat) :
    own_Met l Z x code maxLocals ret ws room_1 #[(.int x0)] h0 (fun v h L => v = some (.int 1) ∧ Fr n0 L) := by
  refine own_body pn_rm0 ?_
  intro p e s m below meth c s₁ hx hby hml hown hnm hret hlk hZ X0 e0 G hG
  replace hml : c.maxLocals = 5 := hml
  replace hown : s.vm.findClass "com/example/knowing_records/knowingrecords/data/ScalarTypeIsWhiteSpacePinLaw" = some m.cls := hown
  rw [ef_rm0]
  show own_Go p e below G (s₁.setTop (mkF m 0 #[.val (.int x0), .unset, .unset, .unset, .unset] []))
  refine own_st (fun t k => XS.iloadN X0.here hx rfl (hb hby at_0) rfl  k) ?_
  show own_Go p e below G (s₁.setTop (mkF m 1 #[.val (.int x0), .unset, .unset, .unset, .unset] [(.int x0)]))
  refine own_st (fun t k => XS.i2c X0.here hx rfl (hb hby at_1) rfl k) ?_
  show own_Go p e below G (s₁.setTop (mkF m 2 #[.val (.int x0), .unset, .unset, .unset, .unset] [(.int (x0.toUInt32.toUInt16.toUInt32.toInt32))]))
  refine own_st (fun t k => XS.istoreN X0.here hx rfl (hb hby at_2) rfl (l' := #[.val (.int x0), .val (.int (x0.toUInt32.toUInt16.toUInt32.toInt32)), .unset, .unset, .unset]) rfl k) ?_
  show own_Go p e below G (s₁.setTop (mkF m 3 #[.val (.int x0), .val (.int (x0.toUInt32.toUInt16.toUInt32.toInt32)), .unset, .unset, .unset] []))
  have hy0 := own_chr x0
  generalize (x0.toUInt32.toUInt16.toUInt32.toInt32) = y0 at hy0 ⊢
  refine own_st (fun t k => XS.iloadN X0.here hx rfl (hb hby at_3) rfl  k) ?_
  show own_Go p e below G (s₁.setTop (mkF m 4 #[.val (.int x0), .val (.int y0), .unset, .unset, .unset] [(.int y0)]))
  refine own_st (fun t k => XS.bipush X0.here hx rfl (hb hby at_4) k) ?_
  show own_Go p e below G (s₁.setTop (mkF m 6 #[.val (.int x0), .val (.int y0), .unset, .unset, .unset] [(.int (32 : Int32)), (.int y0)]))
  by_cases c6_1 : (32 : Int32) < y0
  · skip
    refine own_st (fun t k => XS.icmpNo X0.here hx rfl (hb hby at_6) rfl (tlt c6_1).2.2.2 k) ?_
    show own_Go p e below G (s₁.setTop (mkF m 9 #[.val (.int x0), .val (.int y0), .unset, .unset, .unset] []))
    refine own_st (fun t k => XS.iconst X0.here hx rfl (hb hby at_9) k) ?_
    show own_Go p e below G (s₁.setTop (mkF m 10 #[.val (.int x0), .val (.int y0), .unset, .unset, .unset] [(.int (0 : Int32))]))
    refine own_st (fun t k => XS.istoreN X0.here hx rfl (hb hby at_10) rfl (l' := #[.val (.int x0), .val (.int y0), .val (.int (0 : Int32)), .unset, .unset]) rfl k) ?_
    show own_Go p e below G (s₁.setTop (mkF m 11 #[.val (.int x0), .val (.int y0), .val (.int (0 : Int32)), .unset, .unset] []))
    refine own_st (fun t k => XS.goto X0.here hx rfl (pc0 := 11) (pc' := 34) rfl (hb hby at_11) (by decide) (by decide) k) ?_
    show own_Go p e below G (s₁.setTop (mkF m 34 #[.val (.int x0), .val (.int y0), .val (.int (0 : Int32)), .unset, .unset] []))
    refine own_st (fun t k => XS.iloadN X0.here hx rfl (hb hby at_34) rfl  k) ?_
    show own_Go p e below G (s₁.setTop (mkF m 35 #[.val (.int x0), .val (.int y0), .val (.int (0 : Int32)), .unset, .unset] [(.int y0)]))
    obtain ⟨v2, T2, L2, X2, Q2, st2⟩ := own_callS X0 hx hZ (y := (⟨"com/example/knowing_records/knowingrecords/data/ScalarType", "isWhiteSpace", "(C)Z"⟩ : MethodName)) hown (hw _ (List.mem_of_getElem? (i := 1) rfl)) (hw _ (List.mem_of_getElem? (i := 2) rfl)) (hw _ (List.mem_of_getElem? (i := 3) rfl)) (hw _ (List.mem_of_getElem? (i := 4) rfl)) (by decide) (W := 0) (rm1 l Z a0 hw y0 h0) (by decide) (by decide) e0 (g := (mkF m 35 #[.val (.int x0), .val (.int y0), .val (.int (0 : Int32)), .unset, .unset] [(.int y0)])) rfl (by rw [hml]; rfl) (argsL := [(.int y0)]) (rest := []) own_pd0 rfl rfl (by show 2 * 0 + _ ≤ _; exact Nat.le_of_eq rfl) (hb hby at_35) rfl (by decide) (by decide)
    obtain ⟨rfl, rfl, e2⟩ := Q2
    simp only [List.append_nil, Nat.add_zero] at X2
    refine own_st st2 ?_
    show own_Go p e below G (T2.setTop (mkF m 38 #[.val (.int x0), .val (.int y0), .val (.int (0 : Int32)), .unset, .unset] [(.int (own_ws y0))]))
    refine own_st (fun t k => XS.iloadN X2.here hx rfl (hb hby at_38) rfl  k) ?_
    show own_Go p e below G (T2.setTop (mkF m 39 #[.val (.int x0), .val (.int y0), .val (.int (0 : Int32)), .unset, .unset] [(.int (0 : Int32)), (.int (own_ws y0))]))
    refine own_st (fun t k => XS.icmpNo X2.here hx rfl (hb hby at_39) rfl (teq (own_big y0 c6_1)).2 k) ?_
    show own_Go p e below G (T2.setTop (mkF m 42 #[.val (.int x0), .val (.int y0), .val (.int (0 : Int32)), .unset, .unset] []))
    refine own_st (fun t k => XS.iconst X2.here hx rfl (hb hby at_42) k) ?_
    show own_Go p e below G (T2.setTop (mkF m 43 #[.val (.int x0), .val (.int y0), .val (.int (0 : Int32)), .unset, .unset] [(.int (1 : Int32))]))
    refine own_st (fun t k => XS.goto X2.here hx rfl (pc0 := 43) (pc' := 47) rfl (hb hby at_43) (by decide) (by decide) k) ?_
    show own_Go p e below G (T2.setTop (mkF m 47 #[.val (.int x0), .val (.int y0), .val (.int (0 : Int32)), .unset, .unset] [(.int (1 : Int32))]))
    rw [hG]
    exact own_retZ X2 hx hlk (t := .boolean) hret (by simp) (hb hby at_47) ⟨rfl, Fr.nil _⟩ (by decide) (by decide)
  · skip
    refine own_st (fun t k => XS.icmpYes X0.here hx rfl (pc0 := 6) (pc' := 14) rfl (hb hby at_6) rfl (flt c6_1).2.2.2 (by decide) (by decide) k) ?_
    show own_Go p e below G (s₁.setTop (mkF m 14 #[.val (.int x0), .val (.int y0), .unset, .unset, .unset] []))
    refine own_st (fun t k => X0.ldc2Long hx hown (mvT hZ (hw _ (List.mem_of_getElem? (i := 0) rfl))) (g := (mkF m 14 #[.val (.int x0), .val (.int y0), .unset, .unset, .unset] [])) rfl (hb hby at_14) t k) ?_
    show own_Go p e below G (s₁.setTop (mkF m 17 #[.val (.int x0), .val (.int y0), .unset, .unset, .unset] [(.long (4294977024 : Int64))]))
    refine own_st (fun t k => XS.lstoreN X0.here hx rfl (hb hby at_17) rfl (l' := #[.val (.int x0), .val (.int y0), .unset, .val (.long (4294977024 : Int64)), .second]) rfl k) ?_
    show own_Go p e below G (s₁.setTop (mkF m 18 #[.val (.int x0), .val (.int y0), .unset, .val (.long (4294977024 : Int64)), .second] []))
    refine own_st (fun t k => XS.lloadN X0.here hx rfl (hb hby at_18) rfl  k) ?_
    show own_Go p e below G (s₁.setTop (mkF m 19 #[.val (.int x0), .val (.int y0), .unset, .val (.long (4294977024 : Int64)), .second] [(.long (4294977024 : Int64))]))
    refine own_st (fun t k => XS.iloadN X0.here hx rfl (hb hby at_19) rfl  k) ?_
    show own_Go p e below G (s₁.setTop (mkF m 20 #[.val (.int x0), .val (.int y0), .unset, .val (.long (4294977024 : Int64)), .second] [(.int y0), (.long (4294977024 : Int64))]))
    refine own_st (fun t k => XS.lushr X0.here hx rfl (hb hby at_20) rfl k) ?_
    show own_Go p e below G (s₁.setTop (mkF m 21 #[.val (.int x0), .val (.int y0), .unset, .val (.long (4294977024 : Int64)), .second] [(.long (((4294977024 : Int64).toUInt64 >>> (y0 &&& 0x3f).toInt64.toUInt64).toInt64))]))
    refine own_st (fun t k => XS.lconst X0.here hx rfl (hb hby at_21) k) ?_
    show own_Go p e below G (s₁.setTop (mkF m 22 #[.val (.int x0), .val (.int y0), .unset, .val (.long (4294977024 : Int64)), .second] [(.long (1 : Int64)), (.long (((4294977024 : Int64).toUInt64 >>> (y0 &&& 0x3f).toInt64.toUInt64).toInt64))]))
    refine own_st (fun t k => XS.land X0.here hx rfl (hb hby at_22) rfl k) ?_
    show own_Go p e below G (s₁.setTop (mkF m 23 #[.val (.int x0), .val (.int y0), .unset, .val (.long (4294977024 : Int64)), .second] [(.long ((((4294977024 : Int64).toUInt64 >>> (y0 &&& 0x3f).toInt64.toUInt64).toInt64) &&& (1 : Int64)))]))
    refine own_st (fun t k => XS.lconst X0.here hx rfl (hb hby at_23) k) ?_
    show own_Go p e below G (s₁.setTop (mkF m 24 #[.val (.int x0), .val (.int y0), .unset, .val (.long (4294977024 : Int64)), .second] [(.long (0 : Int64)), (.long ((((4294977024 : Int64).toUInt64 >>> (y0 &&& 0x3f).toInt64.toUInt64).toInt64) &&& (1 : Int64)))]))
    refine own_st (fun t k => XS.lcmp X0.here hx rfl (hb hby at_24) rfl k) ?_
    show own_Go p e below G (s₁.setTop (mkF m 25 #[.val (.int x0), .val (.int y0), .unset, .val (.long (4294977024 : Int64)), .second] [(.int (lcmpW ((((4294977024 : Int64).toUInt64 >>> (y0 &&& 0x3f).toInt64.toUInt64).toInt64) &&& (1 : Int64)) (0 : Int64)))]))
    by_cases c25_3 : ((((4294977024 : Int64).toUInt64 >>> (y0 &&& 0x3f).toInt64.toUInt64).toInt64) &&& (1 : Int64)) = (0 : Int64)
    · skip
      refine own_st (fun t k => XS.ifYes X0.here hx rfl (pc0 := 25) (pc' := 32) rfl (hb hby at_25) rfl ((if0 _ _).trans (teq ((lw_eq _ _).2 c25_3)).1) (by decide) (by decide) k) ?_
      show own_Go p e below G (s₁.setTop (mkF m 32 #[.val (.int x0), .val (.int y0), .unset, .val (.long (4294977024 : Int64)), .second] []))
      refine own_st (fun t k => XS.iconst X0.here hx rfl (hb hby at_32) k) ?_
      show own_Go p e below G (s₁.setTop (mkF m 33 #[.val (.int x0), .val (.int y0), .unset, .val (.long (4294977024 : Int64)), .second] [(.int (0 : Int32))]))
      refine own_st (fun t k => XS.istoreN X0.here hx rfl (hb hby at_33) rfl (l' := #[.val (.int x0), .val (.int y0), .val (.int (0 : Int32)), .val (.long (4294977024 : Int64)), .second]) rfl k) ?_
      show own_Go p e below G (s₁.setTop (mkF m 34 #[.val (.int x0), .val (.int y0), .val (.int (0 : Int32)), .val (.long (4294977024 : Int64)), .second] []))
      refine own_st (fun t k => XS.iloadN X0.here hx rfl (hb hby at_34) rfl  k) ?_
      show own_Go p e below G (s₁.setTop (mkF m 35 #[.val (.int x0), .val (.int y0), .val (.int (0 : Int32)), .val (.long (4294977024 : Int64)), .second] [(.int y0)]))
      obtain ⟨v4, T4, L4, X4, Q4, st4⟩ := own_callS X0 hx hZ (y := (⟨"com/example/knowing_records/knowingrecords/data/ScalarType", "isWhiteSpace", "(C)Z"⟩ : MethodName)) hown (hw _ (List.mem_of_getElem? (i := 1) rfl)) (hw _ (List.mem_of_getElem? (i := 2) rfl)) (hw _ (List.mem_of_getElem? (i := 3) rfl)) (hw _ (List.mem_of_getElem? (i := 4) rfl)) (by decide) (W := 0) (rm1 l Z a0 hw y0 h0) (by decide) (by decide) e0 (g := (mkF m 35 #[.val (.int x0), .val (.int y0), .val (.int (0 : Int32)), .val (.long (4294977024 : Int64)), .second] [(.int y0)])) rfl (by rw [hml]; rfl) (argsL := [(.int y0)]) (rest := []) own_pd0 rfl rfl (by show 2 * 0 + _ ≤ _; exact Nat.le_of_eq rfl) (hb hby at_35) rfl (by decide) (by decide)
      obtain ⟨rfl, rfl, e4⟩ := Q4
      simp only [List.append_nil, Nat.add_zero] at X4
      refine own_st st4 ?_
      show own_Go p e below G (T4.setTop (mkF m 38 #[.val (.int x0), .val (.int y0), .val (.int (0 : Int32)), .val (.long (4294977024 : Int64)), .second] [(.int (own_ws y0))]))
      refine own_st (fun t k => XS.iloadN X4.here hx rfl (hb hby at_38) rfl  k) ?_
      show own_Go p e below G (T4.setTop (mkF m 39 #[.val (.int x0), .val (.int y0), .val (.int (0 : Int32)), .val (.long (4294977024 : Int64)), .second] [(.int (0 : Int32)), (.int (own_ws y0))]))
      refine own_st (fun t k => XS.icmpNo X4.here hx rfl (hb hby at_39) rfl (teq ((own_small y0 hy0 c6_1).1.1 c25_3)).2 k) ?_
      show own_Go p e below G (T4.setTop (mkF m 42 #[.val (.int x0), .val (.int y0), .val (.int (0 : Int32)), .val (.long (4294977024 : Int64)), .second] []))
      refine own_st (fun t k => XS.iconst X4.here hx rfl (hb hby at_42) k) ?_
      show own_Go p e below G (T4.setTop (mkF m 43 #[.val (.int x0), .val (.int y0), .val (.int (0 : Int32)), .val (.long (4294977024 : Int64)), .second] [(.int (1 : Int32))]))
      refine own_st (fun t k => XS.goto X4.here hx rfl (pc0 := 43) (pc' := 47) rfl (hb hby at_43) (by decide) (by decide) k) ?_
      show own_Go p e below G (T4.setTop (mkF m 47 #[.val (.int x0), .val (.int y0), .val (.int (0 : Int32)), .val (.long (4294977024 : Int64)), .second] [(.int (1 : Int32))]))
      rw [hG]
      exact own_retZ X4 hx hlk (t := .boolean) hret (by simp) (hb hby at_47) ⟨rfl, Fr.nil _⟩ (by decide) (by decide)
    · skip
      refine own_st (fun t k => XS.ifNo X0.here hx rfl (hb hby at_25) rfl ((if0 _ _).trans (feq (fun q => c25_3 ((lw_eq _ _).1 q))).1) k) ?_
      show own_Go p e below G (s₁.setTop (mkF m 28 #[.val (.int x0), .val (.int y0), .unset, .val (.long (4294977024 : Int64)), .second] []))
      refine own_st (fun t k => XS.iconst X0.here hx rfl (hb hby at_28) k) ?_
      show own_Go p e below G (s₁.setTop (mkF m 29 #[.val (.int x0), .val (.int y0), .unset, .val (.long (4294977024 : Int64)), .second] [(.int (1 : Int32))]))
      refine own_st (fun t k => XS.goto X0.here hx rfl (pc0 := 29) (pc' := 33) rfl (hb hby at_29) (by decide) (by decide) k) ?_
      show own_Go p e below G (s₁.setTop (mkF m 33 #[.val (.int x0), .val (.int y0), .unset, .val (.long (4294977024 : Int64)), .second] [(.int (1 : Int32))]))
      refine own_st (fun t k => XS.istoreN X0.here hx rfl (hb hby at_33) rfl (l' := #[.val (.int x0), .val (.int y0), .val (.int (1 : Int32)), .val (.long (4294977024 : Int64)), .second]) rfl k) ?_
      show own_Go p e below G (s₁.setTop (mkF m 34 #[.val (.int x0), .val (.int y0), .val (.int (1 : Int32)), .val (.long (4294977024 : Int64)), .second] []))
      refine own_st (fun t k => XS.iloadN X0.here hx rfl (hb hby at_34) rfl  k) ?_
      show own_Go p e below G (s₁.setTop (mkF m 35 #[.val (.int x0), .val (.int y0), .val (.int (1 : Int32)), .val (.long (4294977024 : Int64)), .second] [(.int y0)]))
      obtain ⟨v5, T5, L5, X5, Q5, st5⟩ := own_callS X0 hx hZ (y := (⟨"com/example/knowing_records/knowingrecords/data/ScalarType", "isWhiteSpace", "(C)Z"⟩ : MethodName)) hown (hw _ (List.mem_of_getElem? (i := 1) rfl)) (hw _ (List.mem_of_getElem? (i := 2) rfl)) (hw _ (List.mem_of_getElem? (i := 3) rfl)) (hw _ (List.mem_of_getElem? (i := 4) rfl)) (by decide) (W := 0) (rm1 l Z a0 hw y0 h0) (by decide) (by decide) e0 (g := (mkF m 35 #[.val (.int x0), .val (.int y0), .val (.int (1 : Int32)), .val (.long (4294977024 : Int64)), .second] [(.int y0)])) rfl (by rw [hml]; rfl) (argsL := [(.int y0)]) (rest := []) own_pd0 rfl rfl (by show 2 * 0 + _ ≤ _; exact Nat.le_of_eq rfl) (hb hby at_35) rfl (by decide) (by decide)
      obtain ⟨rfl, rfl, e5⟩ := Q5
      simp only [List.append_nil, Nat.add_zero] at X5
      refine own_st st5 ?_
      show own_Go p e below G (T5.setTop (mkF m 38 #[.val (.int x0), .val (.int y0), .val (.int (1 : Int32)), .val (.long (4294977024 : Int64)), .second] [(.int (own_ws y0))]))
      refine own_st (fun t k => XS.iloadN X5.here hx rfl (hb hby at_38) rfl  k) ?_
      show own_Go p e below G (T5.setTop (mkF m 39 #[.val (.int x0), .val (.int y0), .val (.int (1 : Int32)), .val (.long (4294977024 : Int64)), .second] [(.int (1 : Int32)), (.int (own_ws y0))]))
      refine own_st (fun t k => XS.icmpNo X5.here hx rfl (hb hby at_39) rfl (teq ((own_small y0 hy0 c6_1).2.resolve_left (fun q => c25_3 ((own_small y0 hy0 c6_1).1.2 q)))).2 k) ?_
      show own_Go p e below G (T5.setTop (mkF m 42 #[.val (.int x0), .val (.int y0), .val (.int (1 : Int32)), .val (.long (4294977024 : Int64)), .second] []))
      refine own_st (fun t k => XS.iconst X5.here hx rfl (hb hby at_42) k) ?_
      show own_Go p e below G (T5.setTop (mkF m 43 #[.val (.int x0), .val (.int y0), .val (.int (1 : Int32)), .val (.long (4294977024 : Int64)), .second] [(.int (1 : Int32))]))
      refine own_st (fun t k => XS.goto X5.here hx rfl (pc0 := 43) (pc' := 47) rfl (hb hby at_43) (by decide) (by decide) k) ?_
      show own_Go p e below G (T5.setTop (mkF m 47 #[.val (.int x0), .val (.int y0), .val (.int (1 : Int32)), .val (.long (4294977024 : Int64)), .second] [(.int (1 : Int32))]))
      rw [hG]
      exact own_retZ X5 hx hlk (t := .boolean) hret (by simp) (hb hby at_47) ⟨rfl, Fr.nil _⟩ (by decide) (by decide)
set_option maxRecDepth 65536 in
set_option maxHeartbeats 40000000 in
theorem comes_1 {Post : Tables → Env → Array Value → State → Outcome → State → Prop} (hpost : ∀ tb e args s v u, (limb_1_1.after args s (.returned v) u = true ∧ limb_1_2.after args s (.returned v) u = true) → FrameEnd s (.returned v) u (Jvm.fieldLocs frame_1_writes args s ++ Jvm.arrayLocs frame_1_arrays args s ++ Jvm.staticLocs frame_1_statics s) 0 0 → Post tb e args s (.returned v) u) :
    ArmFor flags0 classFile x code maxLocals ret World_1 tables_1 room_1 Calls_1 rest_1 Pre_1 Post := by
  intro l hfl _ _ p e ha hc hk s m args below hf hA hF happ hP
  obtain ⟨hcalls, hrest, hpre⟩ := hP
  obtain ⟨-, -, -, hnamed, -, -, -, hat⟩ := (Spec.applies_iff hf).mp happ
  obtain ⟨hg, hn⟩ := and_e (Cond.before_iff.mp (show (Jvm.Cond.and given_1 narrow_1).before args s = true from hpre))
  obtain ⟨gc, gv0⟩ := and_e hg
  obtain ⟨w0, rfl⟩ : ∃ w0 : Value, args = #[w0] := by
    have hs : args.size = 1 := by simpa [Cond.value, given_1] using gc
    obtain ⟨L⟩ := args
    match L, hs with
    | [w0], _ => exact ⟨w0, rfl⟩
  have hw := fun d (hd : d ∈ tables_1) => atoms_spec (ws := Jvm.Cond.code x code maxLocals ret :: tables_1) hat d (List.mem_cons_of_mem _ hd)
  have hfit : Fit s := fun {y c} hc i hi => by
    obtain ⟨ha, rfl⟩ := Array.getElem?_eq_some_iff.mp hc
    have q := List.all_eq_true.mp ((Array.all_eq_true_iff_forall_mem.mp hF) _ (Array.getElem_mem ha)) i (List.mem_range.mpr hi)
    simpa [Array.getElem?_eq_getElem hi] using q
  obtain ⟨i0, ei0⟩ := is_v gv0
  obtain rfl : w0 = (.int i0) := Option.some.inj ei0
  obtain ⟨n, o, h1, h2, h3, _, L, rfl, ⟨rfl, N⟩, hq⟩ := rm0 l s _ hw tables_1 i0 s.heap s.heap.size p e ha hc hk s m _ below hf ((Spec.applies_iff_loose hf).mp happ).1 ⟨rfl, State.Warmed39.refl s, rfl⟩ trivial
  refine ⟨n, _, h1, h2, h3, hpost _ _ _ _ _ _ ⟨Cond.after_iff.mpr rfl, Cond.after_iff.mpr (eq_i res_at (Term.int_eval (1)) rfl)⟩ ⟨hq.1, hq.2.1, (hq.2.2.sift fun y hy => Or.inr (N y hy)).mono (by decide) (by decide)⟩⟩
theorem main_1_1 : Claimed_1_1 := comes_1 fun _ _ _ _ _ _ h hF => ⟨h.1, hF⟩
theorem main_1_2 : Claimed_1_2 := comes_1 fun _ _ _ _ _ _ h hF => ⟨h.2, hF⟩
end Jvm.Pilot.@@N@@
namespace Jvm.Pilot.@@N@@
open Jvm Jvm.ClassFile Sem Op Lib Jvm.Free Jvm.Stand Jvm.Pilot.@@N@@.Jvm.D
/-! MADE BY PROGRAM (witnessworld.py) out of the Statement's table words and the real class files: 14 classes; the members and pool entries that the words name. The judged class is class 1, her method 1. -/
namespace start1
open Jvm.ClassFile
def u (s : String) : CpInfo := .utf8 (stringToUtf16 s)
/-- a pool by its gaps: so many unusable entries, then the entry; so many at the end -/
def gap : Nat → List CpInfo → List CpInfo
  | 0, r => r
  | n + 1, r => .unusable :: gap n r
def poolList (es : List (Nat × CpInfo)) (last : Nat) : List CpInfo := es.foldr (fun e r => gap e.1 (e.2 :: r)) (gap last [])
def pool (es : List (Nat × CpInfo)) (last : Nat) : Array CpInfo := ⟨poolList es last⟩
def fileOf (pool : Array CpInfo) (this : Nat) (attrs : Array Attribute := #[]) (ms : Array MethodInfo := #[]) (fl : Nat := 33) (sup : Nat := 0) (ifs : Array Nat := #[]) (fds : Array FieldInfo := #[]) : ClassFile where
  minorVersion := 0
  majorVersion := 65
  constantPool := pool
  accessFlags := fl
  thisClass := this
  superClass := sup
  interfaces := ifs
  fields := fds
  methods := ms
  attributes := attrs
def plain (name : String) (sup : Option ClassId) : Class where
  name := name
  kind := .ordinary
  loader := none
  accessFlags := 33
  super := sup
  interfaces := #[]
  cf := none
  fields := #[]
  methods := #[]
  instanceTypes := #[]
  staticTypes := #[]
  resolved := #[]
  callSites := []
  init := .initialized
  statics := none
  mirror := none

def pool0 : Array CpInfo := pool [(5, u "<init>"), (0, u "()V"), (1, .class_ 10), (1, u "java/lang/Object")] 113

def k0m0 : Method := { name := "<init>", desc := "()V", sig := { parameters := [], returnType := none }, accessFlags := 1, code := none }
/-- java/lang/Object -/
def k0 : Class := { plain "java/lang/Object" none with
  accessFlags := 33
  interfaces := #[]
  cf := some (fileOf pool0 8 #[] #[{ accessFlags := 1, nameIndex := 5, descriptorIndex := 6, attributes := #[] }] 33 0 #[] #[])
  fields := #[]
  methods := #[k0m0]
  instanceTypes := #[]
  staticTypes := #[]
  resolved := Array.replicate 124 none
  statics := none }

def pool1 : Array CpInfo := pool [(2, .class_ 4), (1, u "java/lang/Object"), (0, u "<init>"), (0, u "()V"), (0, .long 4294977024), (1, .methodref 10 11), (0, .class_ 12), (0, .nameAndType 13 14), (0, u "com/example/knowing_records/knowingrecords/data/ScalarType"), (0, u "isWhiteSpace"), (0, u "(C)Z"), (0, .class_ 16), (0, u "com/example/knowing_records/knowingrecords/data/ScalarTypeIsWhiteSpacePinLaw"), (2, u "law"), (0, u "(I)Z")] 3

def k1m0 : Method := { name := "<init>", desc := "()V", sig := { parameters := [], returnType := none }, accessFlags := 2, code := none }
def k1c1 : Code := { maxStack := 4, maxLocals := 5, code := code, exceptionTable := #[], attributes := #[] }
def k1m1 : Method := { name := "law", desc := "(I)Z", sig := { parameters := [.int], returnType := some .boolean }, accessFlags := 9, code := some k1c1 }
/-- com/example/knowing_records/knowingrecords/data/ScalarTypeIsWhiteSpacePinLaw -/
def k1 : Class := { plain "com/example/knowing_records/knowingrecords/data/ScalarTypeIsWhiteSpacePinLaw" (some 0) with
  accessFlags := 49
  interfaces := #[]
  cf := some (fileOf pool1 15 #[] #[{ accessFlags := 2, nameIndex := 5, descriptorIndex := 6, attributes := #[] }, { accessFlags := 9, nameIndex := 19, descriptorIndex := 20, attributes := #[] }] 49 2 #[] #[])
  fields := #[]
  methods := #[k1m0, k1m1]
  instanceTypes := #[]
  staticTypes := #[]
  resolved := Array.replicate 24 none
  statics := none }

def pool2 : Array CpInfo := pool [(1, .class_ 2), (0, u "java/lang/constant/Constable"), (0, .class_ 4), (0, u "java/lang/Object")] 6

/-- java/lang/constant/Constable -/
def k2 : Class := { plain "java/lang/constant/Constable" (some 0) with
  accessFlags := 1537
  interfaces := #[]
  cf := some (fileOf pool2 1 #[] #[] 1537 3 #[] #[])
  fields := #[]
  methods := #[]
  instanceTypes := #[]
  staticTypes := #[]
  resolved := Array.replicate 11 none
  statics := none }

def pool3 : Array CpInfo := pool [(1, .class_ 2), (0, u "java/lang/Comparable"), (0, .class_ 4), (0, u "java/lang/Object")] 7

/-- java/lang/Comparable -/
def k3 : Class := { plain "java/lang/Comparable" (some 0) with
  accessFlags := 1537
  interfaces := #[]
  cf := some (fileOf pool3 1 #[] #[] 1537 3 #[] #[])
  fields := #[]
  methods := #[]
  instanceTypes := #[]
  staticTypes := #[]
  resolved := Array.replicate 12 none
  statics := none }

def pool4 : Array CpInfo := pool [(1, .class_ 2), (0, u "java/io/Serializable"), (0, .class_ 4), (0, u "java/lang/Object")] 2

/-- java/io/Serializable -/
def k4 : Class := { plain "java/io/Serializable" (some 0) with
  accessFlags := 1537
  interfaces := #[]
  cf := some (fileOf pool4 1 #[] #[] 1537 3 #[] #[])
  fields := #[]
  methods := #[]
  instanceTypes := #[]
  staticTypes := #[]
  resolved := Array.replicate 7 none
  statics := none }

def pool5 : Array CpInfo := pool [(2, .class_ 4), (1, u "java/lang/Enum"), (0, u "name"), (0, u "Ljava/lang/String;"), (2, u "ordinal"), (0, u "I"), (1, .class_ 14), (1, u "java/lang/Object"), (4, u "hash"), (86, .class_ 108), (1, u "java/lang/Enum$EnumDesc"), (2, .class_ 112), (0, u "java/lang/constant/Constable"), (0, .class_ 114), (0, u "java/lang/Comparable"), (0, .class_ 116), (0, u "java/io/Serializable")] 87

/-- java/lang/Enum -/
def k5 : Class := { plain "java/lang/Enum" (some 0) with
  accessFlags := 1057
  interfaces := #[2, 3, 4]
  cf := some (fileOf pool5 2 #[.nestMembers #[106]] #[] 1057 12 #[111, 113, 115] #[{ accessFlags := 18, nameIndex := 5, descriptorIndex := 6, attributes := #[] }, { accessFlags := 18, nameIndex := 9, descriptorIndex := 10, attributes := #[] }, { accessFlags := 2, nameIndex := 19, descriptorIndex := 10, attributes := #[] }])
  fields := #[{ name := "name", type := (.object "java/lang/String"), accessFlags := 18, slot := 0, constantValue := 0 }, { name := "ordinal", type := .int, accessFlags := 18, slot := 1, constantValue := 0 }, { name := "hash", type := .int, accessFlags := 2, slot := 2, constantValue := 0 }]
  methods := #[]
  instanceTypes := #[(.object "java/lang/String"), .int, .int]
  staticTypes := #[]
  resolved := Array.replicate 204 none
  statics := none }

def pool6 : Array CpInfo := pool [(1, .class_ 2), (0, u "com/example/knowing_records/knowingrecords/data/FieldType"), (0, .class_ 4), (0, u "java/lang/Object")] 11

/-- com/example/knowing_records/knowingrecords/data/FieldType -/
def k6 : Class := { plain "com/example/knowing_records/knowingrecords/data/FieldType" (some 0) with
  accessFlags := 1537
  interfaces := #[]
  cf := some (fileOf pool6 1 #[] #[] 1537 3 #[] #[])
  fields := #[]
  methods := #[]
  instanceTypes := #[]
  staticTypes := #[]
  resolved := Array.replicate 16 none
  statics := none }

def pool7 : Array CpInfo := pool [(1, .class_ 2), (0, u "com/example/knowing_records/knowingrecords/data/LeafType"), (0, .class_ 4), (0, u "java/lang/Object"), (0, .class_ 6), (0, u "com/example/knowing_records/knowingrecords/data/FieldType")] 11

/-- com/example/knowing_records/knowingrecords/data/LeafType -/
def k7 : Class := { plain "com/example/knowing_records/knowingrecords/data/LeafType" (some 0) with
  accessFlags := 1537
  interfaces := #[6]
  cf := some (fileOf pool7 1 #[] #[] 1537 3 #[5] #[])
  fields := #[]
  methods := #[]
  instanceTypes := #[]
  staticTypes := #[]
  resolved := Array.replicate 18 none
  statics := none }

def pool8 : Array CpInfo := pool [(1, .class_ 2), (0, u "com/example/knowing_records/knowingrecords/data/ScalarType"), (2, u "BOOLEAN"), (0, u "Lcom/example/knowing_records/knowingrecords/data/ScalarType;"), (2, u "BYTE"), (2, u "SHORT"), (2, u "INT"), (2, u "LONG"), (2, u "UBYTE"), (2, u "USHORT"), (2, u "UINT"), (2, u "ULONG"), (2, u "FLOAT"), (2, u "DOUBLE"), (2, u "STRING"), (2, u "$VALUES"), (0, u "[Lcom/example/knowing_records/knowingrecords/data/ScalarType;"), (6, .class_ 52), (1, u "java/lang/Enum"), (8, u "typeName"), (0, u "Ljava/lang/String;"), (2, u "zero"), (0, u "Ljava/lang/Object;"), (270, u "FLOATING"), (0, u "Ljava/util/regex/Pattern;"), (32, u "HEXADECIMAL"), (5, u "DECIMAL"), (2, u "SIGN_AND_LEADING_ZEROS"), (68, u "isWhiteSpace"), (0, u "(C)Z"), (61, .class_ 513), (0, u "com/example/knowing_records/knowingrecords/data/LeafType"), (0, u "TWO_TO_THE_63"), (0, u "D"), (1, u "MAX_INTEGER_DIGITS"), (0, u "I")] 59

def k8c0 : Code := { maxStack := 2, maxLocals := 1, code := prog_15_method_32_code, exceptionTable := #[], attributes := #[] }
def k8m0 : Method := { name := "isWhiteSpace", desc := "(C)Z", sig := { parameters := [.char], returnType := some .boolean }, accessFlags := 8, code := some k8c0 }
/-- com/example/knowing_records/knowingrecords/data/ScalarType -/
def k8 : Class := { plain "com/example/knowing_records/knowingrecords/data/ScalarType" (some 5) with
  accessFlags := 16433
  interfaces := #[7]
  cf := some (fileOf pool8 1 #[] #[{ accessFlags := 8, nameIndex := 449, descriptorIndex := 450, attributes := #[] }] 16433 50 #[512] #[{ accessFlags := 16409, nameIndex := 5, descriptorIndex := 6, attributes := #[] }, { accessFlags := 16409, nameIndex := 9, descriptorIndex := 6, attributes := #[] }, { accessFlags := 16409, nameIndex := 12, descriptorIndex := 6, attributes := #[] }, { accessFlags := 16409, nameIndex := 15, descriptorIndex := 6, attributes := #[] }, { accessFlags := 16409, nameIndex := 18, descriptorIndex := 6, attributes := #[] }, { accessFlags := 16409, nameIndex := 21, descriptorIndex := 6, attributes := #[] }, { accessFlags := 16409, nameIndex := 24, descriptorIndex := 6, attributes := #[] }, { accessFlags := 16409, nameIndex := 27, descriptorIndex := 6, attributes := #[] }, { accessFlags := 16409, nameIndex := 30, descriptorIndex := 6, attributes := #[] }, { accessFlags := 16409, nameIndex := 33, descriptorIndex := 6, attributes := #[] }, { accessFlags := 16409, nameIndex := 36, descriptorIndex := 6, attributes := #[] }, { accessFlags := 16409, nameIndex := 39, descriptorIndex := 6, attributes := #[] }, { accessFlags := 26, nameIndex := 377, descriptorIndex := 338, attributes := #[] }, { accessFlags := 26, nameIndex := 371, descriptorIndex := 338, attributes := #[] }, { accessFlags := 26, nameIndex := 380, descriptorIndex := 338, attributes := #[] }, { accessFlags := 26, nameIndex := 337, descriptorIndex := 338, attributes := #[] }, { accessFlags := 26, nameIndex := 514, descriptorIndex := 515, attributes := #[] }, { accessFlags := 26, nameIndex := 517, descriptorIndex := 518, attributes := #[] }, { accessFlags := 18, nameIndex := 61, descriptorIndex := 62, attributes := #[] }, { accessFlags := 18, nameIndex := 65, descriptorIndex := 66, attributes := #[] }, { accessFlags := 4122, nameIndex := 42, descriptorIndex := 43, attributes := #[] }])
  fields := #[{ name := "BOOLEAN", type := (.object "com/example/knowing_records/knowingrecords/data/ScalarType"), accessFlags := 16409, slot := 0, constantValue := 0 }, { name := "BYTE", type := (.object "com/example/knowing_records/knowingrecords/data/ScalarType"), accessFlags := 16409, slot := 1, constantValue := 0 }, { name := "SHORT", type := (.object "com/example/knowing_records/knowingrecords/data/ScalarType"), accessFlags := 16409, slot := 2, constantValue := 0 }, { name := "INT", type := (.object "com/example/knowing_records/knowingrecords/data/ScalarType"), accessFlags := 16409, slot := 3, constantValue := 0 }, { name := "LONG", type := (.object "com/example/knowing_records/knowingrecords/data/ScalarType"), accessFlags := 16409, slot := 4, constantValue := 0 }, { name := "UBYTE", type := (.object "com/example/knowing_records/knowingrecords/data/ScalarType"), accessFlags := 16409, slot := 5, constantValue := 0 }, { name := "USHORT", type := (.object "com/example/knowing_records/knowingrecords/data/ScalarType"), accessFlags := 16409, slot := 6, constantValue := 0 }, { name := "UINT", type := (.object "com/example/knowing_records/knowingrecords/data/ScalarType"), accessFlags := 16409, slot := 7, constantValue := 0 }, { name := "ULONG", type := (.object "com/example/knowing_records/knowingrecords/data/ScalarType"), accessFlags := 16409, slot := 8, constantValue := 0 }, { name := "FLOAT", type := (.object "com/example/knowing_records/knowingrecords/data/ScalarType"), accessFlags := 16409, slot := 9, constantValue := 0 }, { name := "DOUBLE", type := (.object "com/example/knowing_records/knowingrecords/data/ScalarType"), accessFlags := 16409, slot := 10, constantValue := 0 }, { name := "STRING", type := (.object "com/example/knowing_records/knowingrecords/data/ScalarType"), accessFlags := 16409, slot := 11, constantValue := 0 }, { name := "DECIMAL", type := (.object "java/util/regex/Pattern"), accessFlags := 26, slot := 12, constantValue := 0 }, { name := "HEXADECIMAL", type := (.object "java/util/regex/Pattern"), accessFlags := 26, slot := 13, constantValue := 0 }, { name := "SIGN_AND_LEADING_ZEROS", type := (.object "java/util/regex/Pattern"), accessFlags := 26, slot := 14, constantValue := 0 }, { name := "FLOATING", type := (.object "java/util/regex/Pattern"), accessFlags := 26, slot := 15, constantValue := 0 }, { name := "TWO_TO_THE_63", type := .double, accessFlags := 26, slot := 16, constantValue := 0 }, { name := "MAX_INTEGER_DIGITS", type := .int, accessFlags := 26, slot := 17, constantValue := 0 }, { name := "typeName", type := (.object "java/lang/String"), accessFlags := 18, slot := 3, constantValue := 0 }, { name := "zero", type := (.object "java/lang/Object"), accessFlags := 18, slot := 4, constantValue := 0 }, { name := "$VALUES", type := (.array (.object "com/example/knowing_records/knowingrecords/data/ScalarType")), accessFlags := 4122, slot := 18, constantValue := 0 }]
  methods := #[k8m0]
  instanceTypes := #[(.object "java/lang/String"), .int, .int, (.object "java/lang/String"), (.object "java/lang/Object")]
  staticTypes := #[(.object "com/example/knowing_records/knowingrecords/data/ScalarType"), (.object "com/example/knowing_records/knowingrecords/data/ScalarType"), (.object "com/example/knowing_records/knowingrecords/data/ScalarType"), (.object "com/example/knowing_records/knowingrecords/data/ScalarType"), (.object "com/example/knowing_records/knowingrecords/data/ScalarType"), (.object "com/example/knowing_records/knowingrecords/data/ScalarType"), (.object "com/example/knowing_records/knowingrecords/data/ScalarType"), (.object "com/example/knowing_records/knowingrecords/data/ScalarType"), (.object "com/example/knowing_records/knowingrecords/data/ScalarType"), (.object "com/example/knowing_records/knowingrecords/data/ScalarType"), (.object "com/example/knowing_records/knowingrecords/data/ScalarType"), (.object "com/example/knowing_records/knowingrecords/data/ScalarType"), (.object "java/util/regex/Pattern"), (.object "java/util/regex/Pattern"), (.object "java/util/regex/Pattern"), (.object "java/util/regex/Pattern"), .double, .int, (.array (.object "com/example/knowing_records/knowingrecords/data/ScalarType"))]
  resolved := Array.replicate 578 none
  statics := none }

def pool9 : Array CpInfo := pool [(1, u "java/lang/Cloneable"), (0, .class_ 1), (0, u "java/lang/Object"), (0, .class_ 3)] 3

/-- java/lang/Cloneable -/
def k9 : Class := { plain "java/lang/Cloneable" (some 0) with
  accessFlags := 1537
  interfaces := #[]
  cf := some (fileOf pool9 2 #[] #[] 1537 4 #[] #[])
  fields := #[]
  methods := #[]
  instanceTypes := #[]
  staticTypes := #[]
  resolved := Array.replicate 8 none
  statics := none }

/-- the primitive byte -/
def k10 : Class := { plain "byte" none with kind := .primitive 'B', accessFlags := 0x411 }
/-- [B -/
def k11 : Class := { plain "[B" (some 0) with kind := .array 10 .byte, interfaces := #[9, 4], accessFlags := 1041 }

/-- the primitive int -/
def k12 : Class := { plain "int" none with kind := .primitive 'I', accessFlags := 0x411 }
/-- [I -/
def k13 : Class := { plain "[I" (some 0) with kind := .array 12 .int, interfaces := #[9, 4], accessFlags := 1041 }

def heap : Heap := #[]
def classes : Array Class := #[k0, k1, k2, k3, k4, k5, k6, k7, k8, k9, k10, k11, k12, k13]
def interned : List (Array UInt16 × Addr) := []
def slotsUsed : Nat := 0
def theMethod : MethodId := ⟨1, 1⟩
def args0 : Array Value := #[.int 5]
def aboutOver (below : List Frame) : State where
  vm := { classes := classes, interned := interned.toArray }
  heap := heap
  slotsUsed := slotsUsed
  threads := #[{ frames := .invoking theMethod args0 :: below }]
def below0 : List Frame := [.native { method := ⟨0, 0⟩, args := #[] }]
def about1 : State := aboutOver below0
def p0 : Program := .bare "" "" ""
def e0 : Env := launch0.env 0 0 0
theorem w_frames : about1.frames = Frame.invoking theMethod args0 :: below0 := rfl
set_option maxRecDepth 65536 in
theorem w_args : argsFit about1.vm theMethod args0 = true := by decide +kernel
set_option maxRecDepth 65536 in
theorem w_heap : heapFits about1 = true := by decide +kernel
set_option maxRecDepth 65536 in
theorem w_runnable : about1.curStatus? = some .runnable := by decide +kernel
set_option maxRecDepth 65536 in
theorem w_alone : about1.alone = true := by decide +kernel
set_option maxRecDepth 65536 in
theorem w_named : about1.methodNamed? x = some theMethod := by decide +kernel
set_option maxRecDepth 65536 in
theorem w_hears : about1.hears theMethod below0 = true := by decide +kernel
set_option maxRecDepth 65536 in
theorem w_ripe : about1.ripe theMethod args0 below0 = true := by decide +kernel
theorem w_running : about1.status = .running := rfl
set_option maxRecDepth 65536 in
theorem w_room : about1.hasRoom e0.platform room_1 = true :=
  launch0.hasRoom_least _ room_1 (by decide +kernel) (by decide +kernel) (by decide +kernel) (by decide +kernel) (by decide +kernel) (by decide +kernel)
theorem allAtoms_all (ts : List Jvm.Cond) (a : Array Jvm.Value) (st : Jvm.State) : (allAtoms ts).before a st = ts.all (fun c => c.before a st) := by
  induction ts with
  | nil => rfl
  | cons c t ih =>
    show (Jvm.Cond.and c (allAtoms t)).before a st = _
    rw [Jvm.Cond.before_and, ih, List.all_cons]
def words1 : List Jvm.Cond := Jvm.Cond.code x code maxLocals ret :: tables_1
/-- a 'code' word, met by the world's own term for the bytes: nothing is compared byte by byte -/
theorem code_word {y : MethodName} {bytes : ByteArray} {mx : Nat} {rt : Option FieldType} {a : Array Value} {s : State} {m : MethodId} {meth : Method} {c : Code} (h1 : s.methodNamed? y = some m) (h2 : s.vm.method? m = some meth) (h3 : meth.code = some c) (h4 : c.code = bytes)
    (h5 : (c.maxLocals == mx && c.exceptionTable.isEmpty && decide (c.maxStack ≤ mostOperands) && decide (meth.sig.returnType = rt) && !meth.locks && decide (parseMethodDescriptor y.desc = some meth.sig)) = true) : (Jvm.Cond.code y bytes mx rt).before a s = true := by
  simp only [Bool.and_eq_true, beq_iff_eq, Bool.not_eq_true', decide_eq_true_eq] at h5
  obtain ⟨⟨⟨⟨⟨g1, g2⟩, g3⟩, g4⟩, g5⟩, g6⟩ := h5
  simp [Cond.before, Cond.holds, Cond.value, h1, h2, h3, h4, g1, g2, g3, g4, g5, g6]
def isCode : Jvm.Cond → Bool
  | .code _ _ _ _ => true
  | _ => false
theorem all_split {L : List Jvm.Cond} {P : Jvm.Cond → Bool} (h1 : L.all (fun c => isCode c || P c) = true) (h2 : ∀ c ∈ L.filter isCode, P c = true) : L.all P = true := by
  refine List.all_eq_true.mpr fun c hc => ?_
  have h := List.all_eq_true.mp h1 c hc
  rcases Bool.eq_false_or_eq_true (isCode c) with hi | hi
  · exact h2 c (List.mem_filter.mpr ⟨hc, hi⟩)
  · simpa [hi] using h
set_option maxRecDepth 65536 in
theorem w_c0 : (Jvm.Cond.code x code maxLocals ret).before args0 about1 = true := code_word (m := ⟨1, 1⟩) (meth := k1m1) (c := k1c1) (by decide +kernel) rfl rfl rfl (by decide +kernel)
set_option maxRecDepth 65536 in
theorem w_c1 : (Jvm.Cond.code ({ cls := "com/example/knowing_records/knowingrecords/data/ScalarType", name := "isWhiteSpace", desc := "(C)Z" } : Jvm.MethodName) prog_15_method_32_code (1 : Nat) (Option.some Jvm.ClassFile.FieldType.boolean)).before args0 about1 = true := code_word (m := ⟨8, 0⟩) (meth := k8m0) (c := k8c0) (by decide +kernel) rfl rfl rfl (by decide +kernel)
def codes1 : List Jvm.Cond := [Jvm.Cond.code x code maxLocals ret, Jvm.Cond.code ({ cls := "com/example/knowing_records/knowingrecords/data/ScalarType", name := "isWhiteSpace", desc := "(C)Z" } : Jvm.MethodName) prog_15_method_32_code (1 : Nat) (Option.some Jvm.ClassFile.FieldType.boolean)]
set_option maxRecDepth 65536 in
theorem codes_eq : words1.filter isCode = codes1 := rfl
theorem w_codes : ∀ c ∈ words1.filter isCode, c.before args0 about1 = true := by
  rw [codes_eq]
  intro c hc
  simp only [codes1, List.mem_cons, List.not_mem_nil, or_false] at hc
  rcases hc with rfl | rfl
  · exact w_c0
  · exact w_c1
set_option maxRecDepth 65536 in
theorem w_t1 : words1.all (fun c => isCode c || c.before args0 about1) = true := by decide +kernel
theorem w_tables : (allAtoms (Jvm.Cond.code x code maxLocals ret :: tables_1)).before args0 about1 = true := by
  rw [allAtoms_all]
  show words1.all (fun c => c.before args0 about1) = true
  refine all_split ?_ w_codes
  rw [w_t1]
set_option maxRecDepth 65536 in
theorem w_case : (Jvm.Cond.and given_1 narrow_1).before args0 about1 = true := by decide +kernel
theorem w_applies : (headSpec (Jvm.Cond.code x code maxLocals ret :: tables_1) room_1).applies x e0.platform about1 = true :=
  (Spec.applies_iff w_frames).mpr ⟨w_running, w_runnable, w_alone, w_named, w_hears, w_ripe, w_room, w_tables⟩
theorem atStart : AtStart classFile x code maxLocals ret World_1 tables_1 room_1 Calls_1 rest_1 Pre_1 launch0 p0 e0 about1 theMethod args0 below0 :=
  ⟨lists_1, trivial, launch0.admits_env _ _ _, launch0.least_env, fairChoices_fair.cas, fairChoices_fair.clock, w_frames, w_args, w_heap, w_applies, trivial, trivial, w_case⟩
end start1
theorem witness_1 : WitnessClaimed_1 := ⟨start1.p0, start1.e0, start1.about1, start1.theMethod, start1.args0, start1.below0, start1.atStart⟩
end Jvm.Pilot.@@N@@
