import JvmDerived
import JvmDerived.Pilot.@@N@@Statement
import JvmDerived.Pilot.@@N@@Code
set_option linter.unusedVariables false
set_option linter.unusedSimpArgs false
namespace Jvm.RoadKit
open Sem ClassFile Op Lib Jvm.Stand Jvm.Free Jvm.LawKit
section New
variable {p : Program} {l : Launch} {e : Env} {R : Room} {s : State} {m : MethodId} {args : Array Value} {below : List Frame} {meth : Method} {c : Code} {T : State} {locs : List Loc} {cells slots : Nat}
theorem retI (X : Stand p l e R s m args below meth c T locs cells slots) (hx : p.tables.exec = Jvm.exec) {pc : Nat} {Ls : Array Slot} {z : Int32} {rest : List Value} (hret : meth.sig.returnType = some .int) (hd : decode c.code pc = .ok (.ireturn, 1)) {fs : List Frame}
    (hl : ∀ (f : JFrame) (acts : List Action), f.method = m → f.locked = none → f.entered = [] → (doReturn e (T.setTop f) acts (some (.int z))).1 = T.setFrames fs) : Steps p.tables e below (T.setTop (mkF m pc Ls (.int z :: rest))) (T.setFrames fs) := by
  have hm' : T.vm.method? m = some meth := X.method'
  have hn : narrow .int (.int z) = .int z := rfl
  show Steps p.tables e below (T.setTop { method := m, pc := pc, locals := Ls, stack := _ :: rest, locked := none }) _
  jvm_step X.here [X.here.top, hx, hd, hm', hret, hn]
  first | (intro acts; rw [hl _ acts rfl rfl rfl]) | rw [hl _ _ rfl rfl rfl]
  exact Steps.refl _
theorem own_retA (X : Stand p l e R s m args below meth c T locs cells slots) (hx : p.tables.exec = Jvm.exec) {pc : Nat} {Ls : Array Slot} {z : Value} {ty : FieldType} {rest : List Value} (hret : meth.sig.returnType = some ty) (hty : ty.isReference = true) (hz : z.isRef = true) (hd : decode c.code pc = .ok (.areturn, 1)) {fs : List Frame}
    (hl : ∀ (f : JFrame) (acts : List Action), f.method = m → f.locked = none → f.entered = [] → (doReturn e (T.setTop f) acts (some z)).1 = T.setFrames fs) : Steps p.tables e below (T.setTop (mkF m pc Ls (z :: rest))) (T.setFrames fs) := by
  have hm' : T.vm.method? m = some meth := X.method'
  show Steps p.tables e below (T.setTop { method := m, pc := pc, locals := Ls, stack := _ :: rest, locked := none }) _
  jvm_step X.here [X.here.top, hx, hd, hm', hret, hz, hty]
  first | (intro acts; rw [hl _ acts rfl rfl rfl]) | rw [hl _ _ rfl rfl rfl]
  exact Steps.refl _
theorem own_lremM {g : JFrame} {target : State} (X : Stand p l e R s m args below meth c T locs cells slots) (hx : p.tables.exec = Jvm.exec) (hg : g.method = m) {x y : Int64} {rest : List Value} (hd : decode c.code g.pc = .ok (.lrem, 1)) (hs : g.stack = .long y :: .long x :: rest) (hy : y ≠ 0)
    (hr : Steps p.tables e below (T.setTop { g with pc := g.pc + 1, stack := .long (x % y) :: rest }) target) : Steps p.tables e below (T.setTop g) target :=
  XS.lrem X.here hx hg hd hs hy (by rw [lrem_mod]; exact hr)
end New
end Jvm.RoadKit
namespace Jvm.Pilot.@@N@@
open Jvm Jvm.ClassFile Sem Op Lib Jvm.Free Jvm.Stand Jvm.LawKit Jvm.RoadKit Bundle Jvm.Pilot.@@N@@.Jvm.D
theorem own_selP {Z s : State} {args a0 : Array Value} {y : MethodName} {n : Nat} (hZ : Z.Warmed39 s.vm) (wi : (Jvm.Cond.instantiable y.cls n).before a0 Z = true) (wp : (Jvm.Cond.privateMethod y).before a0 Z = true) (wm : (Jvm.Cond.instanceMethod y).before a0 Z = true) (hy : y.cls ≠ "java/lang/invoke/MethodHandle" ∧ y.cls ≠ "java/lang/invoke/VarHandle") : (Jvm.Cond.selects y.cls y y).before args s = true := by
  obtain ⟨c, k, h1, h2, -, h3, -⟩ := Cond.instantiable_spec (mv (args := args) hZ wi)
  exact Jvm.Stand.selects_self_of_private h1 h2 (by simp only [Bool.or_eq_false_iff] at h3; exact h3.1) (Cond.privateMethod_at (mvP hZ wp (args := args))) (mv hZ wm) hy
theorem own_fitC {Z : State} {h : Heap} {a : Addr} {cl : Cell} {ty : FieldType} {vs : List Value} {dv : Value} (A : Arr Z h a cl ty) (H : Has cl vs dv) (G : ∀ i, i < cl.slots.size → fits ty (vs.getD i dv) = true) : FitC Z cl := fun i v hv => by
  obtain ⟨hi, -⟩ := Array.getElem?_eq_some_iff.mp hv
  obtain ⟨hs, k, hk, comp, hkind⟩ := A.2.1
  have e : Z.slotType? cl.cls .none i = some ty := by simp [State.slotType?, hk, hkind]
  have q := G i hi
  have hv' : v = vs.getD i dv := Option.some.inj (hv.symm.trans (H i hi))
  rw [State.fitsSlot, e, hv']
  exact q
theorem own_ibW {Z s : State} {vm₁ : Vm} {Ts : List String} (I : IB Z s.vm Ts) (h : s.WarmedH vm₁) : IB Z vm₁ Ts := by
  obtain ⟨more, q1, q2⟩ := I
  exact ⟨more, by rw [h.interned_eq]; exact q1, q2⟩
theorem own_litS {Z s : State} {vm₁ : Vm} {own : String} {i : Nat} {a : Addr} (L : Lit s own i a) (h : s.Warmed39 vm₁) : Lit (Z.setVm vm₁) own i a := State.resolvedAt?_warmed39 (s := s) h L
theorem own_litW {Z s : State} {vm₁ : Vm} {own : String} {i : Nat} {a : Addr} (L : Lit s own i a) (h : s.WarmedH vm₁) : Lit (Z.setVm vm₁) own i a := own_litS L h.wide
theorem own_backOfV {p : Program} {l : Launch} {e : Env} {R : Room} {s : State} {args : Array Value} {below : List Frame} {Z : State} {a0 : Array Value} {h : Heap} {y : MethodName} {bytes : ByteArray} {maxL : Nat} {ret : Option FieldType} {rm : Room} {len W : Nat} {as' : Array Value} {VP : Vm → Prop} {Q : Option Value → Heap → Vm → List Loc → Prop}
    (hM : MetFree l y (head1 [Jvm.Cond.code y bytes maxL ret] rm) (fun a U => a = as' ∧ Z.Warmed39 U.vm ∧ U.heap = h ∧ VP U.vm) (fun _ _ _ _ _ => True) (fun _ U o U' => ∃ v L, o = .returned v ∧ Q v U'.heap U'.vm L ∧ ReturnedEndW U o U' L rm.cells rm.slots))
    (hZ : Z.Warmed39 s.vm) (wc : (Jvm.Cond.code y bytes maxL ret).before a0 Z = true) (wz : (Jvm.Cond.initialized y.cls).before a0 Z = true) (hf : rm.frames + 1 ≤ R.frames) (hl : W + (maxL + 11) + rm.locals ≤ R.locals) :
    BackS l R p e below s args y len W (fun A a => a = as' ∧ A.U.heap = h ∧ VP A.U.vm ∧ A.cells + rm.cells ≤ R.cells ∧ A.slots + rm.slots ≤ R.slots)
      (fun A _ v B => ∃ L, Q v B.U.heap B.U.vm L ∧ B.locs = A.locs ++ L ∧ B.cells = A.cells + rm.cells ∧ B.slots = A.slots + rm.slots) := by
  refine BackS.of_freeW (bytes := bytes) (maxL := maxL) (ret := ret) (E := fun _ _ o t L k n => k = rm.cells ∧ n = rm.slots ∧ ∃ v, o = .returned v ∧ Q v t.heap t.vm L) hM hf hl ?_ ?_ (fun _ _ _ _ _ _ _ _ _ => trivial) ?_ ?_
  · intro m meth c A a Y hp
    have hU : Z.Warmed39 A.U.vm := wtrans hZ Y.warmed
    refine ⟨?_, mv hU wc, mv hU wz, hp.2.2.2.1, hp.2.2.2.2⟩
    show (Jvm.Cond.and _ .tt).before a A.U = true
    rw [Cond.before_and, mv hU wc]
    rfl
  · intro m meth c A a g mk Y hp
    exact ⟨hp.1, wtrans hZ Y.warmed, hp.2.1, hp.2.2.1⟩
  · rintro _ _ _ _ ⟨v, L, h1, h2, h3⟩
    exact ⟨L, _, _, h3, rfl, rfl, v, h1, h2⟩
  · rintro m meth c A a g mk v t L k n Y hp _ _ ⟨e1, e2, v', e3, e4⟩
    cases e3
    subst e1 e2
    exact ⟨L, e4, rfl, rfl, rfl⟩
theorem own_n0 {Z : State} {n0 : Nat} {h : Heap} (X : Old Z n0 h) : n0 ≤ h.size := X.1 ▸ X.2.1
/-- the run comes from U to an end of which P says enough -/
def Go (p : Program) (e : Env) (below : List Frame) (P : Outcome → State → Prop) (U : State) : Prop := ∃ s₂ o, Steps p.tables e below U s₂ ∧ s₂.status = .running ∧ Ended s₂ below o ∧ P o s₂
theorem Go.st {p : Program} {e : Env} {below : List Frame} {P : Outcome → State → Prop} {U V : State} (k : ∀ t, Steps p.tables e below V t → Steps p.tables e below U t) (g : Go p e below P V) : Go p e below P U := by
  obtain ⟨a, b, h, r⟩ := g
  exact ⟨a, b, k _ h, r⟩
theorem Go.tr {p : Program} {e : Env} {below : List Frame} {P : Outcome → State → Prop} {U V : State} (k : Steps p.tables e below U V) (g : Go p e below P V) : Go p e below P U := by
  obtain ⟨a, b, h, r⟩ := g
  exact ⟨a, b, k.trans h, r⟩
theorem Go.start {p : Program} {e : Env} {below : List Frame} {P : Outcome → State → Prop} {U V : State} (k : ∀ {t}, Steps p.tables e below V t → Steps p.tables e below U t) (g : Go p e below P V) : ∃ s₂ o, Steps p.tables e below U s₂ ∧ s₂.status = .running ∧ Ended s₂ below o ∧ P o s₂ := by
  obtain ⟨a, b, h, r⟩ := g
  exact ⟨a, b, k h, r⟩
set_option maxRecDepth 65536
set_option maxHeartbeats 400000000
abbrev R4 (f c s l : Nat) : Room := { frames := f, cells := c, slots := s, locals := l }
abbrev HW (Z : State) (a0 : Array Value) : Prop := ∀ d ∈ tables_1, d.before a0 Z = true
theorem own_w {Z : State} {a0 : Array Value} (hw : HW Z a0) (i : Nat) {d : Jvm.Cond} (h : tables_1[i]? = some d) : d.before a0 Z = true := hw d (List.mem_of_getElem? h)
abbrev MM (l : Launch) (y : MethodName) (b : ByteArray) (n : Nat) (r : Option FieldType) (rm : Room) (A : Array Value) (Z : State) (h0 : Heap) (Q : Option Value → Heap → List Loc → Prop) : Prop :=
  MetFree l y (head1 [Jvm.Cond.code y b n r] rm) (fun a U => a = A ∧ Z.Warmed39 U.vm ∧ U.heap = h0) (fun _ _ _ _ _ => True) (fun _ U o U' => ∃ v L, o = .returned v ∧ Q v U'.heap L ∧ FrameEnd U o U' L rm.cells rm.slots)
abbrev PP (s : State) (Q : Option Value → Heap → List Loc → Prop) (rm : Room) : Outcome → State → Prop := fun o U' => ∃ v L, o = .returned v ∧ Q v U'.heap L ∧ FrameEnd s o U' L rm.cells rm.slots
theorem own_ct {p : Program} {e : Env} {below : List Frame} {P : Outcome → State → Prop} {T : State} {g : JFrame} (g' : JFrame) (h : g = g') (G : Go p e below P (T.setTop g')) : Go p e below P (T.setTop g) := by rw [h]; exact G
theorem own_hd {l : Launch} {y : MethodName} {b : ByteArray} {n : Nat} {r : Option FieldType} {rm : Room} {A : Array Value} {Z : State} {h0 : Heap} {Q : Option Value → Heap → List Loc → Prop} (n0 : Nat) (C : String) (hC : y.cls = C) (hp : plainFor y = true)
    (H : ∀ (p : Program) (e : Env) (s : State) (m : MethodId) (below : List Frame) (meth : Method) (c : Code) (s₁ : State), p.tables.exec = Jvm.exec → (∀ {pc : Nat} {i : Instr} {k : Nat}, decode b pc = .ok (i, k) → decode c.code pc = .ok (i, k)) → c.maxLocals = n → meth.sig.returnType = r ∧ meth.locks = false → Z.Warmed39 s.vm → s.vm.findClass C = some m.cls → meth.name = y.name → Stand p l e rm s m A below meth c s₁ [] 0 0 → s₁.heap = h0 → Fr n0 [] → Go p e below (PP s Q rm) (s₁.setTop (entryFrame m A n))) : MM l y b n r rm A Z h0 Q := by
  subst hC
  refine MetFree.of_bodySF hp hisR ?_
  intro p e s m args below meth c s₁ Bd hml hP hK
  obtain ⟨rfl, hZ, hh⟩ := hP
  exact H p e s m below meth c s₁ Bd.exec (fun h => by rw [Bd.bytes]; exact h) hml ⟨Bd.returns, Bd.notSynchronized⟩ hZ (findClass_of_methodNamed Bd.named) (name_of_methodNamed Bd.named Bd.method).1 (Stand.of_body Bd) (by rw [← hh, Bd.state]; rfl) (Fr.nil n0)
theorem own_hN {l : Launch} {y : MethodName} {b : ByteArray} {n : Nat} {r : Option FieldType} {rm : Room} {A : Array Value} {Z : State} {h0 : Heap} {Q : Option Value → Heap → List Loc → Prop} {C : String} (n0 : Nat) (hC : y.cls = C) (hp : plainName C = true)
    (H : ∀ (p : Program) (e : Env) (s : State) (m : MethodId) (below : List Frame) (meth : Method) (c : Code) (s₁ : State), p.tables.exec = Jvm.exec → (∀ {pc : Nat} {i : Instr} {k : Nat}, decode b pc = .ok (i, k) → decode c.code pc = .ok (i, k)) → c.maxLocals = n → meth.sig.returnType = r ∧ meth.locks = false → Z.Warmed39 s.vm → s.vm.findClass C = some m.cls → meth.name = y.name → Stand p l e rm s m A below meth c s₁ [] 0 0 → s₁.heap = h0 → Fr n0 [] → Go p e below (PP s Q rm) (s₁.setTop (entryFrame m A n))) : MM l y b n r rm A Z h0 Q := own_hd n0 C hC (plainFor_of_name (hC ▸ hp)) H
theorem own_k32 (z : Int32) (n : Int) (h : z.toInt = n) : n ≤ z.toInt ∧ z.toInt ≤ n := ⟨Int.le_of_eq h.symm, Int.le_of_eq h⟩
theorem own_k64 (z : Int64) (n : Int) (h : z.toInt = n) : n ≤ z.toInt ∧ z.toInt ≤ n := ⟨Int.le_of_eq h.symm, Int.le_of_eq h⟩
section Short
variable {p : Program} {l : Launch} {e : Env} {R : Room} {s : State} {m : MethodId} {args : Array Value} {below : List Frame} {meth : Method} {c : Code} {T : State} {locs : List Loc} {cells slots : Nat} {P : Outcome → State → Prop} {Z : State} {a0 : Array Value} {h h0 : Heap}
theorem g_iload (X : Stand p l e R s m args below meth c T locs cells slots) (hx : p.tables.exec = Jvm.exec) {pc : Nat} {Ls : Array Slot} {st : List Value} {k : Nat} {v : Int32} (hd : decode c.code pc = .ok (.iload k, 2)) (hl : Ls[k]? = some (.val (.int v))) (G : Go p e below P (T.setTop (mkF m (pc + 2) Ls (.int v :: st)))) : Go p e below P (T.setTop (mkF m pc Ls st)) := Go.st (fun t k => XS.iload X.here hx rfl hd hl k) G
theorem g_iloadN (X : Stand p l e R s m args below meth c T locs cells slots) (hx : p.tables.exec = Jvm.exec) {pc : Nat} {Ls : Array Slot} {st : List Value} {k : Fin 4} {v : Int32} (hd : decode c.code pc = .ok (.iload_n k, 1)) (hl : Ls[k.val]? = some (.val (.int v))) (G : Go p e below P (T.setTop (mkF m (pc + 1) Ls (.int v :: st)))) : Go p e below P (T.setTop (mkF m pc Ls st)) := Go.st (fun t k => XS.iloadN X.here hx rfl hd hl k) G
theorem g_aload (X : Stand p l e R s m args below meth c T locs cells slots) (hx : p.tables.exec = Jvm.exec) {pc : Nat} {Ls : Array Slot} {st : List Value} {k : Nat} {v : Value} (hd : decode c.code pc = .ok (.aload k, 2)) (hl : Ls[k]? = some (.val v)) (hv : v.isRef = true) (G : Go p e below P (T.setTop (mkF m (pc + 2) Ls (v :: st)))) : Go p e below P (T.setTop (mkF m pc Ls st)) := Go.st (fun t k => XS.aload X.here hx rfl hd hl hv k) G
theorem g_aloadN (X : Stand p l e R s m args below meth c T locs cells slots) (hx : p.tables.exec = Jvm.exec) {pc : Nat} {Ls : Array Slot} {st : List Value} {k : Fin 4} {v : Value} (hd : decode c.code pc = .ok (.aload_n k, 1)) (hl : Ls[k.val]? = some (.val v)) (hv : v.isRef = true) (G : Go p e below P (T.setTop (mkF m (pc + 1) Ls (v :: st)))) : Go p e below P (T.setTop (mkF m pc Ls st)) := Go.st (fun t k => XS.aloadN X.here hx rfl hd hl hv k) G
theorem g_iconst (X : Stand p l e R s m args below meth c T locs cells slots) (hx : p.tables.exec = Jvm.exec) {pc : Nat} {Ls : Array Slot} {st : List Value} {i : Int} (z : Int32) (hd : decode c.code pc = .ok (.iconst i, 1)) (hz : Int32.ofInt i = z) (G : Go p e below P (T.setTop (mkF m (pc + 1) Ls (.int z :: st)))) : Go p e below P (T.setTop (mkF m pc Ls st)) := Go.st (fun t k => XS.iconst X.here hx rfl hd k) (hz ▸ G)
theorem g_bipush (X : Stand p l e R s m args below meth c T locs cells slots) (hx : p.tables.exec = Jvm.exec) {pc : Nat} {Ls : Array Slot} {st : List Value} {i : Int} (z : Int32) (hd : decode c.code pc = .ok (.bipush i, 2)) (hz : (Int8.ofInt i).toInt32 = z) (G : Go p e below P (T.setTop (mkF m (pc + 2) Ls (.int z :: st)))) : Go p e below P (T.setTop (mkF m pc Ls st)) := Go.st (fun t k => XS.bipush X.here hx rfl hd k) (hz ▸ G)
theorem g_sipush (X : Stand p l e R s m args below meth c T locs cells slots) (hx : p.tables.exec = Jvm.exec) {pc : Nat} {Ls : Array Slot} {st : List Value} {i : Int} (z : Int32) (hd : decode c.code pc = .ok (.sipush i, 3)) (hz : (Int16.ofInt i).toInt32 = z) (G : Go p e below P (T.setTop (mkF m (pc + 3) Ls (.int z :: st)))) : Go p e below P (T.setTop (mkF m pc Ls st)) := Go.st (fun t k => XS.sipush X.here hx rfl hd k) (hz ▸ G)
theorem g_aconstNull (X : Stand p l e R s m args below meth c T locs cells slots) (hx : p.tables.exec = Jvm.exec) {pc : Nat} {Ls : Array Slot} {st : List Value}  (hd : decode c.code pc = .ok (.aconst_null, 1))  (G : Go p e below P (T.setTop (mkF m (pc + 1) Ls (.null :: st)))) : Go p e below P (T.setTop (mkF m pc Ls st)) := Go.st (fun t k => XS.aconstNull X.here hx rfl hd  k) G
theorem g_istore (X : Stand p l e R s m args below meth c T locs cells slots) (hx : p.tables.exec = Jvm.exec) {pc : Nat} {Ls : Array Slot} {st : List Value} {k : Nat} {x : Int32} (hd : decode c.code pc = .ok (.istore k, 2)) {l' : Array Slot} (hl : storeLocals Ls k (.int x) = some l') (G : Go p e below P (T.setTop (mkF m (pc + 2) l' st))) : Go p e below P (T.setTop (mkF m pc Ls (.int x :: st))) := Go.st (fun t k => XS.istore X.here hx rfl hd rfl hl k) G
theorem g_istoreN (X : Stand p l e R s m args below meth c T locs cells slots) (hx : p.tables.exec = Jvm.exec) {pc : Nat} {Ls : Array Slot} {st : List Value} {k : Fin 4} {x : Int32} (hd : decode c.code pc = .ok (.istore_n k, 1)) {l' : Array Slot} (hl : storeLocals Ls k.val (.int x) = some l') (G : Go p e below P (T.setTop (mkF m (pc + 1) l' st))) : Go p e below P (T.setTop (mkF m pc Ls (.int x :: st))) := Go.st (fun t k => XS.istoreN X.here hx rfl hd rfl hl k) G
theorem g_astore (X : Stand p l e R s m args below meth c T locs cells slots) (hx : p.tables.exec = Jvm.exec) {pc : Nat} {Ls : Array Slot} {st : List Value} {k : Nat} {x : Value} (hd : decode c.code pc = .ok (.astore k, 2)) (hv : x.isRef = true) {l' : Array Slot} (hl : storeLocals Ls k x = some l') (G : Go p e below P (T.setTop (mkF m (pc + 2) l' st))) : Go p e below P (T.setTop (mkF m pc Ls (x :: st))) := Go.st (fun t k => XS.astore X.here hx rfl hd rfl hv hl k) G
theorem g_astoreN (X : Stand p l e R s m args below meth c T locs cells slots) (hx : p.tables.exec = Jvm.exec) {pc : Nat} {Ls : Array Slot} {st : List Value} {k : Fin 4} {x : Value} (hd : decode c.code pc = .ok (.astore_n k, 1)) (hv : x.isRef = true) {l' : Array Slot} (hl : storeLocals Ls k.val x = some l') (G : Go p e below P (T.setTop (mkF m (pc + 1) l' st))) : Go p e below P (T.setTop (mkF m pc Ls (x :: st))) := Go.st (fun t k => XS.astoreN X.here hx rfl hd rfl hv hl k) G
theorem g_iinc (X : Stand p l e R s m args below meth c T locs cells slots) (hx : p.tables.exec = Jvm.exec) {pc : Nat} {Ls : Array Slot} {st : List Value} {k : Nat} {cst : Int} {x : Int32} (hd : decode c.code pc = .ok (.iinc k cst, 3)) (hl : Ls[k]? = some (.val (.int x))) {l' : Array Slot} (hl' : storeLocals Ls k (.int (x + Int32.ofInt cst)) = some l') (G : Go p e below P (T.setTop (mkF m (pc + 3) l' st))) : Go p e below P (T.setTop (mkF m pc Ls st)) := Go.st (fun t k => XS.iinc X.here hx rfl hd hl hl' k) G
theorem g_goto (X : Stand p l e R s m args below meth c T locs cells slots) (hx : p.tables.exec = Jvm.exec) {pc : Nat} {Ls : Array Slot} {st : List Value} {o : Int} (q : Nat) (hd : decode c.code pc = .ok (.goto o, 3)) (hp : 0 ≤ (pc : Int) + o ∧ ((pc : Int) + o).toNat = q) (G : Go p e below P (T.setTop (mkF m q Ls st))) : Go p e below P (T.setTop (mkF m pc Ls st)) := Go.st (fun t k => XS.goto X.here hx rfl rfl hd hp.1 hp.2 k) G
theorem g_ifYes (X : Stand p l e R s m args below meth c T locs cells slots) (hx : p.tables.exec = Jvm.exec) {pc : Nat} {Ls : Array Slot} {st : List Value} {o : Int} {cd : ClassFile.Cond} {x : Int32} (q : Nat) (hd : decode c.code pc = .ok (.ifCond cd o, 3)) (hc : ifCond.holds cd x = true) (hp : 0 ≤ (pc : Int) + o ∧ ((pc : Int) + o).toNat = q) (G : Go p e below P (T.setTop (mkF m q Ls st))) : Go p e below P (T.setTop (mkF m pc Ls (.int x :: st))) := Go.st (fun t k => XS.ifYes X.here hx rfl rfl hd rfl hc hp.1 hp.2 k) G
theorem g_ifNo (X : Stand p l e R s m args below meth c T locs cells slots) (hx : p.tables.exec = Jvm.exec) {pc : Nat} {Ls : Array Slot} {st : List Value} {o : Int} {cd : ClassFile.Cond} {x : Int32} (hd : decode c.code pc = .ok (.ifCond cd o, 3)) (hc : ifCond.holds cd x = false) (G : Go p e below P (T.setTop (mkF m (pc + 3) Ls st))) : Go p e below P (T.setTop (mkF m pc Ls (.int x :: st))) := Go.st (fun t k => XS.ifNo X.here hx rfl hd rfl hc k) G
theorem g_icmpYes (X : Stand p l e R s m args below meth c T locs cells slots) (hx : p.tables.exec = Jvm.exec) {pc : Nat} {Ls : Array Slot} {st : List Value} {o : Int} {cd : ClassFile.Cond} {x y : Int32} (q : Nat) (hd : decode c.code pc = .ok (.if_icmp cd o, 3)) (hc : if_icmp.holds cd x y = true) (hp : 0 ≤ (pc : Int) + o ∧ ((pc : Int) + o).toNat = q) (G : Go p e below P (T.setTop (mkF m q Ls st))) : Go p e below P (T.setTop (mkF m pc Ls (.int y :: .int x :: st))) := Go.st (fun t k => XS.icmpYes X.here hx rfl rfl hd rfl hc hp.1 hp.2 k) G
theorem g_icmpNo (X : Stand p l e R s m args below meth c T locs cells slots) (hx : p.tables.exec = Jvm.exec) {pc : Nat} {Ls : Array Slot} {st : List Value} {o : Int} {cd : ClassFile.Cond} {x y : Int32} (hd : decode c.code pc = .ok (.if_icmp cd o, 3)) (hc : if_icmp.holds cd x y = false) (G : Go p e below P (T.setTop (mkF m (pc + 3) Ls st))) : Go p e below P (T.setTop (mkF m pc Ls (.int y :: .int x :: st))) := Go.st (fun t k => XS.icmpNo X.here hx rfl hd rfl hc k) G
theorem g_isub (X : Stand p l e R s m args below meth c T locs cells slots) (hx : p.tables.exec = Jvm.exec) {pc : Nat} {Ls : Array Slot} {st : List Value} {x y : Int32} (hd : decode c.code pc = .ok (.isub, 1)) (G : Go p e below P (T.setTop (mkF m (pc + 1) Ls (.int (x - y) :: st)))) : Go p e below P (T.setTop (mkF m pc Ls (.int y :: .int x :: st))) := Go.st (fun t k => XS.isub X.here hx rfl hd rfl k) G
theorem g_iadd (X : Stand p l e R s m args below meth c T locs cells slots) (hx : p.tables.exec = Jvm.exec) {pc : Nat} {Ls : Array Slot} {st : List Value} {x y : Int32} (hd : decode c.code pc = .ok (.iadd, 1)) (G : Go p e below P (T.setTop (mkF m (pc + 1) Ls (.int (x + y) :: st)))) : Go p e below P (T.setTop (mkF m pc Ls (.int y :: .int x :: st))) := Go.st (fun t k => XS.iadd X.here hx rfl hd rfl k) G
theorem g_iand (X : Stand p l e R s m args below meth c T locs cells slots) (hx : p.tables.exec = Jvm.exec) {pc : Nat} {Ls : Array Slot} {st : List Value} {x y : Int32} (hd : decode c.code pc = .ok (.iand, 1)) (G : Go p e below P (T.setTop (mkF m (pc + 1) Ls (.int (x &&& y) :: st)))) : Go p e below P (T.setTop (mkF m pc Ls (.int y :: .int x :: st))) := Go.st (fun t k => XS.iand X.here hx rfl hd rfl k) G
theorem g_ior (X : Stand p l e R s m args below meth c T locs cells slots) (hx : p.tables.exec = Jvm.exec) {pc : Nat} {Ls : Array Slot} {st : List Value} {x y : Int32} (hd : decode c.code pc = .ok (.ior, 1)) (G : Go p e below P (T.setTop (mkF m (pc + 1) Ls (.int (x ||| y) :: st)))) : Go p e below P (T.setTop (mkF m pc Ls (.int y :: .int x :: st))) := Go.st (fun t k => XS.ior X.here hx rfl hd rfl k) G
theorem g_ishl (X : Stand p l e R s m args below meth c T locs cells slots) (hx : p.tables.exec = Jvm.exec) {pc : Nat} {Ls : Array Slot} {st : List Value} {x y : Int32} (hd : decode c.code pc = .ok (.ishl, 1)) (G : Go p e below P (T.setTop (mkF m (pc + 1) Ls (.int (x <<< (y &&& 31)) :: st)))) : Go p e below P (T.setTop (mkF m pc Ls (.int y :: .int x :: st))) := Go.st (fun t k => XS.ishl X.here hx rfl hd rfl k) G
theorem g_ishr (X : Stand p l e R s m args below meth c T locs cells slots) (hx : p.tables.exec = Jvm.exec) {pc : Nat} {Ls : Array Slot} {st : List Value} {x y : Int32} (hd : decode c.code pc = .ok (.ishr, 1)) (G : Go p e below P (T.setTop (mkF m (pc + 1) Ls (.int (x >>> (y &&& 31)) :: st)))) : Go p e below P (T.setTop (mkF m pc Ls (.int y :: .int x :: st))) := Go.st (fun t k => XS.ishr X.here hx rfl hd rfl k) G
theorem g_isubZ (X : Stand p l e R s m args below meth c T locs cells slots) (hx : p.tables.exec = Jvm.exec) {pc : Nat} {Ls : Array Slot} {st : List Value} {x y : Int32} (z : Int32) (hd : decode c.code pc = .ok (.isub, 1)) (hz : x - y = z) (G : Go p e below P (T.setTop (mkF m (pc + 1) Ls (.int z :: st)))) : Go p e below P (T.setTop (mkF m pc Ls (.int y :: .int x :: st))) := Go.st (fun t k => XS.isub X.here hx rfl hd rfl k) (hz ▸ G)
theorem g_iaddZ (X : Stand p l e R s m args below meth c T locs cells slots) (hx : p.tables.exec = Jvm.exec) {pc : Nat} {Ls : Array Slot} {st : List Value} {x y : Int32} (z : Int32) (hd : decode c.code pc = .ok (.iadd, 1)) (hz : x + y = z) (G : Go p e below P (T.setTop (mkF m (pc + 1) Ls (.int z :: st)))) : Go p e below P (T.setTop (mkF m pc Ls (.int y :: .int x :: st))) := Go.st (fun t k => XS.iadd X.here hx rfl hd rfl k) (hz ▸ G)
theorem g_iandZ (X : Stand p l e R s m args below meth c T locs cells slots) (hx : p.tables.exec = Jvm.exec) {pc : Nat} {Ls : Array Slot} {st : List Value} {x y : Int32} (z : Int32) (hd : decode c.code pc = .ok (.iand, 1)) (hz : x &&& y = z) (G : Go p e below P (T.setTop (mkF m (pc + 1) Ls (.int z :: st)))) : Go p e below P (T.setTop (mkF m pc Ls (.int y :: .int x :: st))) := Go.st (fun t k => XS.iand X.here hx rfl hd rfl k) (hz ▸ G)
theorem g_iorZ (X : Stand p l e R s m args below meth c T locs cells slots) (hx : p.tables.exec = Jvm.exec) {pc : Nat} {Ls : Array Slot} {st : List Value} {x y : Int32} (z : Int32) (hd : decode c.code pc = .ok (.ior, 1)) (hz : x ||| y = z) (G : Go p e below P (T.setTop (mkF m (pc + 1) Ls (.int z :: st)))) : Go p e below P (T.setTop (mkF m pc Ls (.int y :: .int x :: st))) := Go.st (fun t k => XS.ior X.here hx rfl hd rfl k) (hz ▸ G)
theorem g_ishlZ (X : Stand p l e R s m args below meth c T locs cells slots) (hx : p.tables.exec = Jvm.exec) {pc : Nat} {Ls : Array Slot} {st : List Value} {x y : Int32} (z : Int32) (hd : decode c.code pc = .ok (.ishl, 1)) (hz : x <<< (y &&& 31) = z) (G : Go p e below P (T.setTop (mkF m (pc + 1) Ls (.int z :: st)))) : Go p e below P (T.setTop (mkF m pc Ls (.int y :: .int x :: st))) := Go.st (fun t k => XS.ishl X.here hx rfl hd rfl k) (hz ▸ G)
theorem g_ishrZ (X : Stand p l e R s m args below meth c T locs cells slots) (hx : p.tables.exec = Jvm.exec) {pc : Nat} {Ls : Array Slot} {st : List Value} {x y : Int32} (z : Int32) (hd : decode c.code pc = .ok (.ishr, 1)) (hz : x >>> (y &&& 31) = z) (G : Go p e below P (T.setTop (mkF m (pc + 1) Ls (.int z :: st)))) : Go p e below P (T.setTop (mkF m pc Ls (.int y :: .int x :: st))) := Go.st (fun t k => XS.ishr X.here hx rfl hd rfl k) (hz ▸ G)
theorem g_imulZ (X : Stand p l e R s m args below meth c T locs cells slots) (hx : p.tables.exec = Jvm.exec) {pc : Nat} {Ls : Array Slot} {st : List Value} {x y : Int32} (z : Int32) (hd : decode c.code pc = .ok (.imul, 1)) (hz : x * y = z) (G : Go p e below P (T.setTop (mkF m (pc + 1) Ls (.int z :: st)))) : Go p e below P (T.setTop (mkF m pc Ls (.int y :: .int x :: st))) := Go.st (fun t k => XS.imul X.here hx rfl hd rfl k) (hz ▸ G)
theorem g_i2bZ (X : Stand p l e R s m args below meth c T locs cells slots) (hx : p.tables.exec = Jvm.exec) {pc : Nat} {Ls : Array Slot} {st : List Value} {x : Int32} (z : Int32) (hd : decode c.code pc = .ok (.i2b, 1)) (hz : x.toInt8.toInt32 = z) (G : Go p e below P (T.setTop (mkF m (pc + 1) Ls (.int z :: st)))) : Go p e below P (T.setTop (mkF m pc Ls (.int x :: st))) := Go.st (fun t k => XS.i2b X.here hx rfl hd rfl k) (hz ▸ G)
theorem g_i2cZ (X : Stand p l e R s m args below meth c T locs cells slots) (hx : p.tables.exec = Jvm.exec) {pc : Nat} {Ls : Array Slot} {st : List Value} {x : Int32} (z : Int32) (hd : decode c.code pc = .ok (.i2c, 1)) (hz : x.toUInt32.toUInt16.toUInt32.toInt32 = z) (G : Go p e below P (T.setTop (mkF m (pc + 1) Ls (.int z :: st)))) : Go p e below P (T.setTop (mkF m pc Ls (.int x :: st))) := Go.st (fun t k => XS.i2c X.here hx rfl hd rfl k) (hz ▸ G)
theorem own_eA (X : Stand p l e R s m args below meth c T locs cells slots) (hx : p.tables.exec = Jvm.exec) {pc : Nat} {Ls : Array Slot} {rest : List Value} {Q : Option Value → Heap → List Loc → Prop} {rm : Room} {w : Value} {ty : FieldType} (hret : meth.sig.returnType = some ty ∧ meth.locks = false) (hty : ty.isReference = true) (hw : w.isRef = true) (hd : decode c.code pc = .ok (.areturn, 1)) (eT : T.heap = h) (hn : cells ≤ rm.cells ∧ slots ≤ rm.slots) (q : Q (some w) h locs) : Go p e below (PP s Q rm) (T.setTop (mkF m pc Ls (w :: rest))) := by
  subst eT
  obtain ⟨fs, hr, hrun, hended, hWd, hsame⟩ := X.leave (v := some w) (fun h => by rw [hret.1] at h; cases h) hret.2
  exact ⟨_, _, own_retA X hx hret.1 hty hw hd hr, hrun, hended, _, _, rfl, q, ⟨⟨_, rfl⟩, hWd, hsame.mono hn.1 hn.2⟩⟩
theorem own_eI (X : Stand p l e R s m args below meth c T locs cells slots) (hx : p.tables.exec = Jvm.exec) {pc : Nat} {Ls : Array Slot} {rest : List Value} {Q : Option Value → Heap → List Loc → Prop} {rm : Room} {w : Int32} (hret : meth.sig.returnType = some .int ∧ meth.locks = false) (hd : decode c.code pc = .ok (.ireturn, 1)) (eT : T.heap = h) (hn : cells ≤ rm.cells ∧ slots ≤ rm.slots) (q : Q (some (.int w)) h locs) : Go p e below (PP s Q rm) (T.setTop (mkF m pc Ls (.int w :: rest))) := by
  subst eT
  obtain ⟨fs, hr, hrun, hended, hWd, hsame⟩ := X.leave (v := some (.int w)) (fun h => by rw [hret.1] at h; cases h) hret.2
  exact ⟨_, _, retI X hx hret.1 hd hr, hrun, hended, _, _, rfl, q, ⟨⟨_, rfl⟩, hWd, hsame.mono hn.1 hn.2⟩⟩
theorem own_eB (X : Stand p l e R s m args below meth c T locs cells slots) (hx : p.tables.exec = Jvm.exec) {pc : Nat} {Ls : Array Slot} {rest : List Value} {Q : Option Value → Heap → List Loc → Prop} {rm : Room} {z w : Int32} {ty : FieldType} (hret : meth.sig.returnType = some ty ∧ meth.locks = false) (hty : ty = .boolean ∨ ty = .byte ∨ ty = .char ∨ ty = .short) (hw : nar ty z = w) (hd : decode c.code pc = .ok (.ireturn, 1)) (eT : T.heap = h) (hn : cells ≤ rm.cells ∧ slots ≤ rm.slots) (q : Q (some (.int w)) h locs) : Go p e below (PP s Q rm) (T.setTop (mkF m pc Ls (.int z :: rest))) := by
  subst eT hw
  obtain ⟨fs, hr, hrun, hended, hWd, hsame⟩ := X.leave (v := some (.int (nar ty z))) (fun h => by rw [hret.1] at h; cases h) hret.2
  exact ⟨_, _, retN X hx hret.1 hty hd hr, hrun, hended, _, _, rfl, q, ⟨⟨_, rfl⟩, hWd, hsame.mono hn.1 hn.2⟩⟩
theorem own_eL (X : Stand p l e R s m args below meth c T locs cells slots) (hx : p.tables.exec = Jvm.exec) {pc : Nat} {Ls : Array Slot} {Q : Option Value → Heap → List Loc → Prop} {rm : Room} {w : Int64} (hret : meth.sig.returnType = some .long ∧ meth.locks = false) (hd : decode c.code pc = .ok (.lreturn, 1)) (eT : T.heap = h) (hn : cells ≤ rm.cells ∧ slots ≤ rm.slots) (q : Q (some (.long w)) h locs) : Go p e below (PP s Q rm) (T.setTop (mkF m pc Ls [.long w])) := by
  subst eT
  obtain ⟨fs, hr, hrun, hended, hWd, hsame⟩ := X.leave (v := some (.long w)) (fun h => by rw [hret.1] at h; cases h) hret.2
  exact ⟨_, _, X.lreturnOut hx hret.1 hd hr, hrun, hended, _, _, rfl, q, ⟨⟨_, rfl⟩, hWd, hsame.mono hn.1 hn.2⟩⟩
theorem own_eV (X : Stand p l e R s m args below meth c T locs cells slots) (hx : p.tables.exec = Jvm.exec) {pc : Nat} {Ls : Array Slot} {Q : Option Value → Heap → List Loc → Prop} {rm : Room} (hret : meth.sig.returnType = none ∧ meth.locks = false) (hd : decode c.code pc = .ok (.return_, 1)) (eT : T.heap = h) (hn : cells ≤ rm.cells ∧ slots ≤ rm.slots) (q : Q none h locs) : Go p e below (PP s Q rm) (T.setTop (mkF m pc Ls [])) := by
  subst eT
  obtain ⟨fs, hr, hrun, hended, hWd, hsame⟩ := X.leave (v := none) (fun h => rfl) hret.2
  exact ⟨_, _, X.returnOut hx hret.1 hd hr, hrun, hended, _, _, rfl, q, ⟨⟨_, rfl⟩, hWd, hsame.mono hn.1 hn.2⟩⟩
theorem own_cS (X : Stand p l e R s m args below meth c T locs cells slots) (hx : p.tables.exec = Jvm.exec) (hZ : Z.Warmed39 s.vm) {own : String} {index : Nat} {y : MethodName} {bytes : ByteArray} {maxL : Nat} {ret : Option FieldType} {as' : Array Value} {Q : Option Value → Heap → List Loc → Prop} {rm : Room} (hown : s.vm.findClass own = some m.cls) (wl : (Cond.methodLink own index y).before a0 Z = true) (ws : (Cond.static y).before a0 Z = true) (wz : (Cond.initialized y.cls).before a0 Z = true) (wc : (Cond.code y bytes maxL ret).before a0 Z = true) (hM : MM l y bytes maxL ret rm as' Z h Q) (eT : T.heap = h) (W : Nat) (hn : rm.frames + 1 ≤ R.frames ∧ W + (maxL + 11) + rm.locals ≤ R.locals ∧ cells + rm.cells ≤ R.cells ∧ slots + rm.slots ≤ R.slots) (hy : y.cls ≠ "java/lang/invoke/MethodHandle" ∧ y.cls ≠ "java/lang/invoke/VarHandle") {pc : Nat} {Ls : Array Slot} (hsz : Ls.size = c.maxLocals) (argsL rest : List Value) (hlen : ∀ sig, parseMethodDescriptor y.desc = some sig → argsL.length = sig.parameters.length) {st0 : List Value} (hst : st0 = argsL.reverse ++ rest) (has : argsL.toArray = as') (hW : (rest.map fun v => v.category).sum ≤ W) (hd : decode c.code pc = .ok (.invokestatic index, 3)) (K : ∀ (T' : State) (v : Option Value) (L : List Loc), Stand p l e R s m args below meth c T' (locs ++ L) (cells + rm.cells) (slots + rm.slots) → Q v T'.heap L → Go p e below P (T'.setTop (mkF m (pc + 3) Ls (v.toList ++ rest)))) : Go p e below P (T.setTop (mkF m pc Ls st0)) := by
  obtain ⟨_, _, ⟨T', L', k', n'⟩, -, X', ⟨L, hQ, e1, e2, e3⟩, st⟩ := Jvm.LawKit.callS X hx (y := y) hown (mvT hZ wl) (mvT hZ ws) (mvT hZ wz) (mvT hZ wc) hy (backOf (W := W) hM hZ wc wz hn.1 hn.2.1) (g := mkF m pc Ls st0) rfl hsz (argsL := argsL) (rest := rest) hlen hst (by show 2 * 0 + _ ≤ _; rw [Nat.mul_zero, Nat.zero_add]; exact hW) hd (fun vm₁ hw₁ => ⟨has, eT, hn.2.2.1, hn.2.2.2⟩)
  dsimp only [Pt.U, Pt.locs, Pt.cells, Pt.slots] at X' e1 e2 e3 st hQ
  subst e1 e2 e3
  exact Go.st st (K _ _ _ X' hQ)
theorem own_cI (X : Stand p l e R s m args below meth c T locs cells slots) (hx : p.tables.exec = Jvm.exec) (hZ : Z.Warmed39 s.vm) {own : String} {index : Nat} {y : MethodName} {bytes : ByteArray} {maxL : Nat} {as' : Array Value} {Q : Option Value → Heap → List Loc → Prop} {rm : Room} (hown : s.vm.findClass own = some m.cls) (wl : (Cond.methodLink own index y).before a0 Z = true) (hi : y.name = "<init>") (wi : (Cond.instanceMethod y).before a0 Z = true) (wz : (Cond.initialized y.cls).before a0 Z = true) (wc : (Cond.code y bytes maxL none).before a0 Z = true) (hM : MM l y bytes maxL none rm as' Z h Q) (eT : T.heap = h) (W : Nat) (hn : rm.frames + 1 ≤ R.frames ∧ W + (maxL + 11) + rm.locals ≤ R.locals ∧ cells + rm.cells ≤ R.cells ∧ slots + rm.slots ≤ R.slots) (hy : y.cls ≠ "java/lang/invoke/MethodHandle" ∧ y.cls ≠ "java/lang/invoke/VarHandle") {pc : Nat} {Ls : Array Slot} (hsz : Ls.size = c.maxLocals) (a : Addr) (argsL rest : List Value) (hlen : ∀ sig, parseMethodDescriptor y.desc = some sig → argsL.length = sig.parameters.length) {st0 : List Value} (hst : st0 = argsL.reverse ++ .ref a :: rest) (has : (Value.ref a :: argsL).toArray = as') (hW : (rest.map fun v => v.category).sum ≤ W) (hd : decode c.code pc = .ok (.invokespecial index, 3)) (K : ∀ (T' : State) (v : Option Value) (L : List Loc), Stand p l e R s m args below meth c T' (locs ++ L) (cells + rm.cells) (slots + rm.slots) → Q v T'.heap L → Go p e below P (T'.setTop (mkF m (pc + 3) Ls (v.toList ++ rest)))) : Go p e below P (T.setTop (mkF m pc Ls st0)) := by
  obtain ⟨_, _, ⟨T', L', k', n'⟩, -, X', ⟨L, hQ, e1, e2, e3⟩, st⟩ := X.specialBack hx (y := y) hi hown (mvT hZ wl) (mvT hZ wi) (mvT hZ wc) hy (backOf (W := W) hM hZ wc wz hn.1 hn.2.1) (g := mkF m pc Ls st0) rfl hsz (Steps.refl _) (a := a) (argsL := argsL) (rest := rest) hlen hst (by show 2 * 0 + _ ≤ _; rw [Nat.mul_zero, Nat.zero_add]; exact hW) hd (fun vm₁ hw₁ => ⟨has, eT, hn.2.2.1, hn.2.2.2⟩)
  dsimp only [Pt.U, Pt.locs, Pt.cells, Pt.slots] at X' e1 e2 e3 st hQ
  subst e1 e2 e3
  exact Go.tr st (K _ _ _ X' hQ)
theorem own_cV (X : Stand p l e R s m args below meth c T locs cells slots) (hx : p.tables.exec = Jvm.exec) (hZ : Z.Warmed39 s.vm) {own : String} {index : Nat} {y : MethodName} {bytes : ByteArray} {maxL : Nat} {ret : Option FieldType} {as' : Array Value} {Q : Option Value → Heap → List Loc → Prop} {rm : Room} (hown : s.vm.findClass own = some m.cls) (wl : (Cond.methodLink own index y).before a0 Z = true) {z : MethodName} {C : String} (wd : (Cond.declares y).before a0 Z = true) (hnf : NotFace s y) (wse : (Cond.selects C y z).before a0 Z = true) (wi : (Cond.instanceMethod z).before a0 Z = true) (wz : (Cond.initialized z.cls).before a0 Z = true) (wc : (Cond.code z bytes maxL ret).before a0 Z = true) (hM : MM l z bytes maxL ret rm as' Z h Q) (eT : T.heap = h) (W : Nat) (hn : rm.frames + 1 ≤ R.frames ∧ W + (maxL + 11) + rm.locals ≤ R.locals ∧ cells + rm.cells ≤ R.cells ∧ slots + rm.slots ≤ R.slots) (hy : y.cls ≠ "java/lang/invoke/MethodHandle" ∧ y.cls ≠ "java/lang/invoke/VarHandle") {pc : Nat} {Ls : Array Slot} (hsz : Ls.size = c.maxLocals) {a : Addr} (ex : Exa Z h a C) (argsL rest : List Value) (hlen : ∀ sig, parseMethodDescriptor y.desc = some sig → argsL.length = sig.parameters.length) {st0 : List Value} (hst : st0 = argsL.reverse ++ .ref a :: rest) (has : (Value.ref a :: argsL).toArray = as') (hW : (rest.map fun v => v.category).sum ≤ W) (hd : decode c.code pc = .ok (.invokevirtual index, 3)) (K : ∀ (T' : State) (v : Option Value) (L : List Loc), Stand p l e R s m args below meth c T' (locs ++ L) (cells + rm.cells) (slots + rm.slots) → Q v T'.heap L → Go p e below P (T'.setTop (mkF m (pc + 3) Ls (v.toList ++ rest)))) : Go p e below P (T.setTop (mkF m pc Ls st0)) := by
  obtain ⟨cq, kq, qa, qb, qc⟩ := isOf hZ eT ex
  obtain ⟨_, _, ⟨T', L', k', n'⟩, -, X', ⟨L, hQ, e1, e2, e3⟩, st⟩ := X.virtualBack hx (y := y) (z := z) hown (mvT hZ wl) (mvT hZ wd) hnf (mvT hZ wse) (mvT hZ wi) hy (backOf (W := W) hM hZ wc wz hn.1 hn.2.1) qa qc (g := mkF m pc Ls st0) rfl hsz (Steps.refl _) (argsL := argsL) (rest := rest) hlen hst (by show 2 * 0 + _ ≤ _; rw [Nat.mul_zero, Nat.zero_add]; exact hW) hd (fun vm₁ hw₁ => ⟨has, eT, hn.2.2.1, hn.2.2.2⟩)
  dsimp only [Pt.U, Pt.locs, Pt.cells, Pt.slots] at X' e1 e2 e3 st hQ
  subst e1 e2 e3
  exact Go.tr st (K _ _ _ X' hQ)
end Short
theorem own_s0 (x : Int32) : x - 0 = x := Int32.sub_zero x
theorem own_s1 (x : Int32) : x + (-1) = x - 1 := (Int32.sub_eq_add_neg x 1).symm
theorem own_valI {args : Array Value} {s : State} {t : Term} {k : Int32} (h : (Cond.eq t (.int k)).value args s none s [] = some true) : t.eval args s none [] s = some (.int k) := by
  obtain ⟨x, y, h1, h2, h3, -⟩ := cmp_v (Or.inl h)
  have e2 : y = .int k := (Option.some.inj h2).symm
  subst e2
  cases x <;> simp [Kin, Value.isRef] at h3
  simp only [Cond.value, h1, h2] at h
  simp at h
  rw [h1, h]
theorem own_valJ {args : Array Value} {s : State} {t : Term} {k : Int64} (h : (Cond.eq t (.long k)).value args s none s [] = some true) : t.eval args s none [] s = some (.long k) := by
  obtain ⟨x, y, h1, h2, h3, -⟩ := cmp_v (Or.inl h)
  have e2 : y = .long k := (Option.some.inj h2).symm
  subst e2
  cases x <;> simp [Kin, Value.isRef] at h3
  simp only [Cond.value, h1, h2] at h
  simp at h
  rw [h1, h]
theorem own_eqR {args : Array Value} {s : State} {t u : Term} {a : Addr} (ev : t.eval args s none [] s = some (.ref a)) (h : (Cond.eq t u).value args s none s [] = some true) : u.eval args s none [] s = some (.ref a) := by
  obtain ⟨x, y, h1, h2, h3, -⟩ := cmp_v (Or.inl h)
  cases h1.symm.trans ev
  have hy : y.isRef = true := h3.2
  have q := gotT (eq_R h1 h2 rfl hy) h
  rw [h2, ← q]
theorem own_eqL {args : Array Value} {s : State} {t u : Term} {a : Addr} (ev : u.eval args s none [] s = some (.ref a)) (h : (Cond.eq t u).value args s none s [] = some true) : t.eval args s none [] s = some (.ref a) := by
  obtain ⟨x, y, h1, h2, -, h4⟩ := cmp_v (Or.inl h)
  cases h2.symm.trans ev
  have hx : x.isRef = true := h4.2
  have q := gotT (eq_R h1 h2 hx rfl) h
  rw [h1, q]
theorem own_elI {Z : State} {args : Array Value} {t : Term} {a : Addr} {cl : Cell} {ty : FieldType} {i k : Int32} (A : Arr Z Z.heap a cl ty) (ev : t.eval args Z none [] Z = some (.ref a)) (h : (Cond.eq (.elem t (.int i)) (.int k)).value args Z none Z [] = some true) : cl.slots[i.toNatClampNeg]? = some (.int k) := (elem_in (own_valI h) ev rfl A.1).2
theorem own_elJ {Z : State} {args : Array Value} {t : Term} {a : Addr} {cl : Cell} {ty : FieldType} {i : Int32} {k : Int64} (A : Arr Z Z.heap a cl ty) (ev : t.eval args Z none [] Z = some (.ref a)) (h : (Cond.eq (.elem t (.int i)) (.long k)).value args Z none Z [] = some true) : cl.slots[i.toNatClampNeg]? = some (.long k) := (elem_in (own_valJ h) ev rfl A.1).2
theorem own_elR {Z : State} {args : Array Value} {t u : Term} {a b : Addr} {cl : Cell} {ty : FieldType} {i : Int32} (A : Arr Z Z.heap a cl ty) (ev : t.eval args Z none [] Z = some (.ref a)) (eu : u.eval args Z none [] Z = some (.ref b)) (h : (Cond.eq (.elem t (.int i)) u).value args Z none Z [] = some true) : cl.slots[i.toNatClampNeg]? = some (.ref b) := (elem_in (own_eqL eu h) ev rfl A.1).2
theorem own_arv {Z : State} {args : Array Value} {t : Term} {a : Addr} {cl : Cell} {ty : FieldType} {z : Int32} {vs : List Value} {dv : Value} (hf : Fit Z) (A : Arr Z Z.heap a cl ty) (ev : t.eval args Z none [] Z = some (.ref a)) (h : (Cond.eq (.length t) (.int z)).value args Z none Z [] = some true) (hz : ¬ z < 0) (hl : z.toNatClampNeg = vs.length) (H : HasL cl 0 vs) : Arv Z Z.heap a cl.cls ty z vs dv := by
  have hv := own_valI h
  have hA : Z.arrayAt? a = some cl := A.fin (Vm.Alike.refl _)
  have q : cl.slots.size < 2 ^ 31 := by
    simp only [Term.eval, ev, hA] at hv
    by_cases hq : cl.slots.size < 2 ^ 31
    · exact hq
    · simp [hA, hq] at hv
  have e : cl.slots.size.toInt32 = z := by
    have := len_f (args := args) (first := Z) (o := none) (idx := []) ev hA q
    rw [this] at hv
    exact Value.int.inj (Option.some.inj hv)
  exact Arv.start hf A q e hz hl H
theorem own_neI {args : Array Value} {s : State} {t : Term} {x k : Int32} (ev : t.eval args s none [] s = some (.int x)) (h : (Cond.not (Cond.eq t (.int k))).value args s none s [] = some true) : ¬ (x = k) := by
  have h' := not_v h
  intro e
  subst e
  simp [Cond.value, ev, Term.eval] at h'
theorem own_b32 (x : Int32) : -2147483648 ≤ x.toInt ∧ x.toInt < 2147483648 := ⟨Int32.le_toInt x, Int32.toInt_lt x⟩
theorem own_b64 (x : Int64) : -9223372036854775808 ≤ x.toInt ∧ x.toInt < 9223372036854775808 := ⟨Int64.le_toInt x, Int64.toInt_lt x⟩
theorem own_nlt32 {x y : Int32} (h : ¬ x < y) : ¬ x.toInt < y.toInt := fun q => h (Int32.lt_iff_toInt_lt.mpr q)
theorem own_nlt64 {x y : Int64} (h : ¬ x < y) : ¬ x.toInt < y.toInt := fun q => h (Int64.lt_iff_toInt_lt.mpr q)
theorem own_neq32 {x y : Int32} (h : ¬ x = y) : ¬ x.toInt = y.toInt := fun q => h (Int32.toInt_inj.mp q)
theorem own_neq64 {x y : Int64} (h : ¬ x = y) : ¬ x.toInt = y.toInt := fun q => h (Int64.toInt_inj.mp q)
theorem own_mask32 (x m : Int32) (k : Nat) (P : Int) (hk : k ≤ 31) (hm : m.toBitVec.toNat = 2 ^ k - 1) (hP : P = (2 ^ k : Nat)) : (x &&& m).toInt = x.toInt % P := by rw [hP]; exact c_mask x m k hk hm
theorem own_mask64 (x m : Int64) (k : Nat) (P : Int) (hk : k ≤ 63) (hm : m.toBitVec.toNat = 2 ^ k - 1) (hP : P = (2 ^ k : Nat)) : (x &&& m).toInt = x.toInt % P := by rw [hP]; exact c_maskL x m k hk hm
theorem own_rem32 (x y : Int32) (d : Int) (hy : y.toInt = d) : (0 ≤ x.toInt → (x % y).toInt = x.toInt % d) ∧ (x.toInt < 0 → (x % y).toInt = -((-x.toInt) % d)) := c_irem x y d hy
theorem own_rem64 (x y : Int64) (d : Int) (hy : y.toInt = d) : (0 ≤ x.toInt → (x % y).toInt = x.toInt % d) ∧ (x.toInt < 0 → (x % y).toInt = -((-x.toInt) % d)) := by rw [Int64.toInt_mod, hy]; exact tr _ _
theorem own_iushr0 (x q : Int32) (hk : q.toBitVec.toNat % 32 = 0) : ((x.toUInt32 >>> (q &&& 31).toUInt32).toInt32).toInt = x.toInt := by
  have e : q &&& 31 = 0 := by
    apply Int32.toBitVec_inj.mp
    apply BitVec.eq_of_toNat_eq
    rw [Int32.toBitVec_and, BitVec.toNat_and]
    show q.toBitVec.toNat &&& 31 = 0
    rw [show (31 : Nat) = 2 ^ 5 - 1 from rfl, Nat.and_two_pow_sub_one_eq_mod]
    exact hk
  rw [e, show (0 : Int32).toUInt32 = 0 from by decide]
  simp
theorem own_lushr0 (x : Int64) (q : Int32) (hk : q.toBitVec.toNat % 64 = 0) : ((x.toUInt64 >>> (q &&& 0x3f).toInt64.toUInt64).toInt64).toInt = x.toInt := by
  have e : q &&& 0x3f = 0 := by
    apply Int32.toBitVec_inj.mp
    apply BitVec.eq_of_toNat_eq
    rw [Int32.toBitVec_and, BitVec.toNat_and]
    show q.toBitVec.toNat &&& 63 = 0
    rw [show (63 : Nat) = 2 ^ 6 - 1 from rfl, Nat.and_two_pow_sub_one_eq_mod]
    exact hk
  rw [e, show (0 : Int32).toInt64.toUInt64 = 0 from by decide]
  simp
theorem own_ishr (x q : Int32) (k : Nat) (P : Int) (hk : q.toBitVec.toNat % 32 = k) (hP : P = (2 ^ k : Nat)) : (x >>> (q &&& 31)).toInt = x.toInt / P := by rw [hP]; exact c_ishr x q k hk
theorem own_ishl (x q : Int32) (k : Nat) (P : Int) (hk : q.toBitVec.toNat % 32 = k) (hP : P = (2 ^ k : Nat)) : ((x <<< (q &&& 31)).toInt - x.toInt * P) % 4294967296 = 0 := by rw [hP]; exact c_ishl x q k hk
theorem own_iushr (x q : Int32) (k : Nat) (P : Int) (hk : q.toBitVec.toNat % 32 = k) (hP : P = (2 ^ k : Nat)) (h0 : 0 < k) : ((x.toUInt32 >>> (q &&& 31).toUInt32).toInt32).toInt = (x.toInt % 4294967296) / P := by rw [hP]; exact c_iushr x q k hk h0
theorem own_lshr (x : Int64) (q : Int32) (k : Nat) (P : Int) (hk : q.toBitVec.toNat % 64 = k) (hP : P = (2 ^ k : Nat)) : (x >>> (q &&& 0x3f).toInt64).toInt = x.toInt / P := by rw [hP]; exact c_lshr x q k hk
theorem own_lshl (x : Int64) (q : Int32) (k : Nat) (P : Int) (hk : q.toBitVec.toNat % 64 = k) (hP : P = (2 ^ k : Nat)) : ((x <<< (q &&& 0x3f).toInt64).toInt - x.toInt * P) % 18446744073709551616 = 0 := by rw [hP]; exact c_lshl x q k hk
theorem own_lushr (x : Int64) (q : Int32) (k : Nat) (P : Int) (hk : q.toBitVec.toNat % 64 = k) (hP : P = (2 ^ k : Nat)) (h0 : 0 < k) : ((x.toUInt64 >>> (q &&& 0x3f).toInt64.toUInt64).toInt64).toInt = (x.toInt % 18446744073709551616) / P := by rw [hP]; exact c_lushr x q k hk h0
theorem own_addOk64 {x y : Int64} (h : Jvm.Free.XT.fits64 (x.toInt + y.toInt)) : ¬ (((x + y) ^^^ x) &&& ((x + y) ^^^ y)) < 0 := by
  have q := Jvm.Free.XT.addOk64 h
  rw [Int64.xor_comm (x + y) x, Int64.xor_comm (x + y) y]
  exact q
theorem own_c32 (x : Int32) : (-2147483648 : Int) ≤ x.toInt ∧ x.toInt ≤ 2147483648 - 1 := by have := own_b32 x; omega
theorem own_ltT32 {x y : Int32} {a b c d : Int} (hx : a ≤ x.toInt ∧ x.toInt ≤ b) (hy : c ≤ y.toInt ∧ y.toInt ≤ d) (h : b < c) : x < y := by rw [Int32.lt_iff_toInt_lt]; omega
theorem own_ltF32 {x y : Int32} {a b c d : Int} (hx : a ≤ x.toInt ∧ x.toInt ≤ b) (hy : c ≤ y.toInt ∧ y.toInt ≤ d) (h : d ≤ a) : ¬ x < y := by rw [Int32.lt_iff_toInt_lt]; omega
theorem own_neT32 {x y : Int32} {a b c d : Int} (hx : a ≤ x.toInt ∧ x.toInt ≤ b) (hy : c ≤ y.toInt ∧ y.toInt ≤ d) (h : b < c ∨ d < a) : ¬ x = y := by rw [← Int32.toInt_inj]; omega
theorem own_addE32 {x y : Int32} {a b c d : Int} (hx : a ≤ x.toInt ∧ x.toInt ≤ b) (hy : c ≤ y.toInt ∧ y.toInt ≤ d) (h : -2147483648 ≤ a + c ∧ b + d < 2147483648) : (x + y).toInt = x.toInt + y.toInt ∧ a + c ≤ (x + y).toInt ∧ (x + y).toInt ≤ b + d := by
  have h1 := c_iadd x y
  have h2 := own_b32 (x + y)
  have h3 : (x + y).toInt = x.toInt + y.toInt := by omega
  omega
theorem own_subE32 {x y : Int32} {a b c d : Int} (hx : a ≤ x.toInt ∧ x.toInt ≤ b) (hy : c ≤ y.toInt ∧ y.toInt ≤ d) (h : -2147483648 ≤ a - d ∧ b - c < 2147483648) : (x - y).toInt = x.toInt - y.toInt ∧ a - d ≤ (x - y).toInt ∧ (x - y).toInt ≤ b - c := by
  have h1 := c_isub x y
  have h2 := own_b32 (x - y)
  have h3 : (x - y).toInt = x.toInt - y.toInt := by omega
  omega
theorem own_mulE32 {x y : Int32} {a b k : Int} (hx : a ≤ x.toInt ∧ x.toInt ≤ b) (hy : y.toInt = k) (hk : 0 ≤ k) (h : -2147483648 ≤ a * k ∧ b * k < 2147483648) : (x * y).toInt = x.toInt * k ∧ a * k ≤ (x * y).toInt ∧ (x * y).toInt ≤ b * k := by
  have h1 := c_imul x y
  have h2 := own_b32 (x * y)
  have h4 : a * k ≤ x.toInt * k := Int.mul_le_mul_of_nonneg_right hx.1 hk
  have h5 : x.toInt * k ≤ b * k := Int.mul_le_mul_of_nonneg_right hx.2 hk
  rw [hy] at h1
  generalize x.toInt * k = m at h1 h4 h5 ⊢
  generalize a * k = u at h h4 ⊢
  generalize b * k = v at h h5 ⊢
  have h3 : (x * y).toInt = m := by omega
  omega
theorem own_mulE'32 {x y : Int32} {a b k : Int} (hx : a ≤ x.toInt ∧ x.toInt ≤ b) (hy : y.toInt = k) (hk : 0 ≤ k) (h : -2147483648 ≤ a * k ∧ b * k < 2147483648) : (y * x).toInt = x.toInt * k ∧ a * k ≤ (y * x).toInt ∧ (y * x).toInt ≤ b * k := by
  rw [Int32.mul_comm]
  exact own_mulE32 hx hy hk h
theorem own_negE32 {x : Int32} {a b : Int} (hx : a ≤ x.toInt ∧ x.toInt ≤ b) (h : -2147483648 < a) : (-x).toInt = -x.toInt ∧ -b ≤ (-x).toInt ∧ (-x).toInt ≤ -a := by
  have h1 := c_ineg x
  have h2 := own_b32 (-x)
  have h4 := own_b32 x
  have h3 : (-x).toInt = -x.toInt := by omega
  omega
theorem own_maskE32 (x m : Int32) (k : Nat) (P : Int) (hk : k ≤ 31) (hm : m.toBitVec.toNat = 2 ^ k - 1) (hP : P = (2 ^ k : Nat)) (h0 : 0 < P) : (x &&& m).toInt = x.toInt % P ∧ 0 ≤ (x &&& m).toInt ∧ (x &&& m).toInt ≤ P - 1 := by
  have h1 := own_mask32 x m k P hk hm hP
  have h2 := Int.emod_nonneg x.toInt (Int.ne_of_gt h0)
  have h3 := Int.emod_lt_of_pos x.toInt h0
  omega
theorem own_maskE'32 (m x : Int32) (k : Nat) (P : Int) (hk : k ≤ 31) (hm : m.toBitVec.toNat = 2 ^ k - 1) (hP : P = (2 ^ k : Nat)) (h0 : 0 < P) : (m &&& x).toInt = x.toInt % P ∧ 0 ≤ (m &&& x).toInt ∧ (m &&& x).toInt ≤ P - 1 := by
  rw [Int32.and_comm]
  exact own_maskE32 x m k P hk hm hP h0
theorem own_maskX32 {x m : Int32} (k : Nat) {P a b : Int} (hx : a ≤ x.toInt ∧ x.toInt ≤ b) (hk : k ≤ 31) (hm : m.toBitVec.toNat = 2 ^ k - 1) (hP : P = (2 ^ k : Nat)) (h : 0 ≤ a ∧ b < P) : (x &&& m).toInt = x.toInt ∧ a ≤ (x &&& m).toInt ∧ (x &&& m).toInt ≤ b := by
  have h1 := own_mask32 x m k P hk hm hP
  have h2 : x.toInt % P = x.toInt := Int.emod_eq_of_lt (by omega) (by omega)
  omega
theorem own_maskX'32 {m x : Int32} (k : Nat) {P a b : Int} (hx : a ≤ x.toInt ∧ x.toInt ≤ b) (hk : k ≤ 31) (hm : m.toBitVec.toNat = 2 ^ k - 1) (hP : P = (2 ^ k : Nat)) (h : 0 ≤ a ∧ b < P) : (m &&& x).toInt = x.toInt ∧ a ≤ (m &&& x).toInt ∧ (m &&& x).toInt ≤ b := by
  rw [Int32.and_comm]
  exact own_maskX32 k hx hk hm hP h
theorem own_remE32 {x y : Int32} {a b d : Int} (hx : a ≤ x.toInt ∧ x.toInt ≤ b) (hy : y.toInt = d) (hd : 0 < d) (h : 0 ≤ a) : (x % y).toInt = x.toInt % d ∧ 0 ≤ (x % y).toInt ∧ (x % y).toInt ≤ d - 1 := by
  have h1 := (own_rem32 x y d hy).1 (by omega)
  have h2 := Int.emod_nonneg x.toInt (Int.ne_of_gt hd)
  have h3 := Int.emod_lt_of_pos x.toInt hd
  omega
theorem own_c64 (x : Int64) : (-9223372036854775808 : Int) ≤ x.toInt ∧ x.toInt ≤ 9223372036854775808 - 1 := by have := own_b64 x; omega
theorem own_ltT64 {x y : Int64} {a b c d : Int} (hx : a ≤ x.toInt ∧ x.toInt ≤ b) (hy : c ≤ y.toInt ∧ y.toInt ≤ d) (h : b < c) : x < y := by rw [Int64.lt_iff_toInt_lt]; omega
theorem own_ltF64 {x y : Int64} {a b c d : Int} (hx : a ≤ x.toInt ∧ x.toInt ≤ b) (hy : c ≤ y.toInt ∧ y.toInt ≤ d) (h : d ≤ a) : ¬ x < y := by rw [Int64.lt_iff_toInt_lt]; omega
theorem own_neT64 {x y : Int64} {a b c d : Int} (hx : a ≤ x.toInt ∧ x.toInt ≤ b) (hy : c ≤ y.toInt ∧ y.toInt ≤ d) (h : b < c ∨ d < a) : ¬ x = y := by rw [← Int64.toInt_inj]; omega
theorem own_addE64 {x y : Int64} {a b c d : Int} (hx : a ≤ x.toInt ∧ x.toInt ≤ b) (hy : c ≤ y.toInt ∧ y.toInt ≤ d) (h : -9223372036854775808 ≤ a + c ∧ b + d < 9223372036854775808) : (x + y).toInt = x.toInt + y.toInt ∧ a + c ≤ (x + y).toInt ∧ (x + y).toInt ≤ b + d := by
  have h1 := c_ladd x y
  have h2 := own_b64 (x + y)
  have h3 : (x + y).toInt = x.toInt + y.toInt := by omega
  omega
theorem own_subE64 {x y : Int64} {a b c d : Int} (hx : a ≤ x.toInt ∧ x.toInt ≤ b) (hy : c ≤ y.toInt ∧ y.toInt ≤ d) (h : -9223372036854775808 ≤ a - d ∧ b - c < 9223372036854775808) : (x - y).toInt = x.toInt - y.toInt ∧ a - d ≤ (x - y).toInt ∧ (x - y).toInt ≤ b - c := by
  have h1 := c_lsub x y
  have h2 := own_b64 (x - y)
  have h3 : (x - y).toInt = x.toInt - y.toInt := by omega
  omega
theorem own_mulE64 {x y : Int64} {a b k : Int} (hx : a ≤ x.toInt ∧ x.toInt ≤ b) (hy : y.toInt = k) (hk : 0 ≤ k) (h : -9223372036854775808 ≤ a * k ∧ b * k < 9223372036854775808) : (x * y).toInt = x.toInt * k ∧ a * k ≤ (x * y).toInt ∧ (x * y).toInt ≤ b * k := by
  have h1 := c_lmul x y
  have h2 := own_b64 (x * y)
  have h4 : a * k ≤ x.toInt * k := Int.mul_le_mul_of_nonneg_right hx.1 hk
  have h5 : x.toInt * k ≤ b * k := Int.mul_le_mul_of_nonneg_right hx.2 hk
  rw [hy] at h1
  generalize x.toInt * k = m at h1 h4 h5 ⊢
  generalize a * k = u at h h4 ⊢
  generalize b * k = v at h h5 ⊢
  have h3 : (x * y).toInt = m := by omega
  omega
theorem own_mulE'64 {x y : Int64} {a b k : Int} (hx : a ≤ x.toInt ∧ x.toInt ≤ b) (hy : y.toInt = k) (hk : 0 ≤ k) (h : -9223372036854775808 ≤ a * k ∧ b * k < 9223372036854775808) : (y * x).toInt = x.toInt * k ∧ a * k ≤ (y * x).toInt ∧ (y * x).toInt ≤ b * k := by
  rw [Int64.mul_comm]
  exact own_mulE64 hx hy hk h
theorem own_negE64 {x : Int64} {a b : Int} (hx : a ≤ x.toInt ∧ x.toInt ≤ b) (h : -9223372036854775808 < a) : (-x).toInt = -x.toInt ∧ -b ≤ (-x).toInt ∧ (-x).toInt ≤ -a := by
  have h1 := c_lneg x
  have h2 := own_b64 (-x)
  have h4 := own_b64 x
  have h3 : (-x).toInt = -x.toInt := by omega
  omega
theorem own_maskE64 (x m : Int64) (k : Nat) (P : Int) (hk : k ≤ 63) (hm : m.toBitVec.toNat = 2 ^ k - 1) (hP : P = (2 ^ k : Nat)) (h0 : 0 < P) : (x &&& m).toInt = x.toInt % P ∧ 0 ≤ (x &&& m).toInt ∧ (x &&& m).toInt ≤ P - 1 := by
  have h1 := own_mask64 x m k P hk hm hP
  have h2 := Int.emod_nonneg x.toInt (Int.ne_of_gt h0)
  have h3 := Int.emod_lt_of_pos x.toInt h0
  omega
theorem own_maskE'64 (m x : Int64) (k : Nat) (P : Int) (hk : k ≤ 63) (hm : m.toBitVec.toNat = 2 ^ k - 1) (hP : P = (2 ^ k : Nat)) (h0 : 0 < P) : (m &&& x).toInt = x.toInt % P ∧ 0 ≤ (m &&& x).toInt ∧ (m &&& x).toInt ≤ P - 1 := by
  rw [Int64.and_comm]
  exact own_maskE64 x m k P hk hm hP h0
theorem own_maskX64 {x m : Int64} (k : Nat) {P a b : Int} (hx : a ≤ x.toInt ∧ x.toInt ≤ b) (hk : k ≤ 63) (hm : m.toBitVec.toNat = 2 ^ k - 1) (hP : P = (2 ^ k : Nat)) (h : 0 ≤ a ∧ b < P) : (x &&& m).toInt = x.toInt ∧ a ≤ (x &&& m).toInt ∧ (x &&& m).toInt ≤ b := by
  have h1 := own_mask64 x m k P hk hm hP
  have h2 : x.toInt % P = x.toInt := Int.emod_eq_of_lt (by omega) (by omega)
  omega
theorem own_maskX'64 {m x : Int64} (k : Nat) {P a b : Int} (hx : a ≤ x.toInt ∧ x.toInt ≤ b) (hk : k ≤ 63) (hm : m.toBitVec.toNat = 2 ^ k - 1) (hP : P = (2 ^ k : Nat)) (h : 0 ≤ a ∧ b < P) : (m &&& x).toInt = x.toInt ∧ a ≤ (m &&& x).toInt ∧ (m &&& x).toInt ≤ b := by
  rw [Int64.and_comm]
  exact own_maskX64 k hx hk hm hP h
theorem own_remE64 {x y : Int64} {a b d : Int} (hx : a ≤ x.toInt ∧ x.toInt ≤ b) (hy : y.toInt = d) (hd : 0 < d) (h : 0 ≤ a) : (x % y).toInt = x.toInt % d ∧ 0 ≤ (x % y).toInt ∧ (x % y).toInt ≤ d - 1 := by
  have h1 := (own_rem64 x y d hy).1 (by omega)
  have h2 := Int.emod_nonneg x.toInt (Int.ne_of_gt hd)
  have h3 := Int.emod_lt_of_pos x.toInt hd
  omega
theorem own_i2lE {x : Int32} {a b : Int} (hx : a ≤ x.toInt ∧ x.toInt ≤ b) : x.toInt64.toInt = x.toInt ∧ a ≤ x.toInt64.toInt ∧ x.toInt64.toInt ≤ b := by have := c_i2l x; omega
theorem own_l2iE {x : Int64} {a b : Int} (hx : a ≤ x.toInt ∧ x.toInt ≤ b) (h : -2147483648 ≤ a ∧ b < 2147483648) : x.toInt32.toInt = x.toInt ∧ a ≤ x.toInt32.toInt ∧ x.toInt32.toInt ≤ b := by
  have h1 := c_l2i x
  have h2 := own_b32 x.toInt32
  have h3 : x.toInt32.toInt = x.toInt := by omega
  omega
theorem own_i2cE {x : Int32} {a b : Int} (hx : a ≤ x.toInt ∧ x.toInt ≤ b) (h : 0 ≤ a ∧ b < 65536) : x.toUInt32.toUInt16.toUInt32.toInt32.toInt = x.toInt ∧ a ≤ x.toUInt32.toUInt16.toUInt32.toInt32.toInt ∧ x.toUInt32.toUInt16.toUInt32.toInt32.toInt ≤ b := by
  have h1 := c_i2c x
  have h3 : x.toUInt32.toUInt16.toUInt32.toInt32.toInt = x.toInt := by omega
  omega
theorem own_i2bE {x : Int32} {a b : Int} (hx : a ≤ x.toInt ∧ x.toInt ≤ b) (h : -128 ≤ a ∧ b < 128) : x.toInt8.toInt32.toInt = x.toInt ∧ a ≤ x.toInt8.toInt32.toInt ∧ x.toInt8.toInt32.toInt ≤ b := by
  have h1 := c_i2b x
  have h3 : x.toInt8.toInt32.toInt = x.toInt := by omega
  omega
theorem own_i2sE {x : Int32} {a b : Int} (hx : a ≤ x.toInt ∧ x.toInt ≤ b) (h : -32768 ≤ a ∧ b < 32768) : x.toInt16.toInt32.toInt = x.toInt ∧ a ≤ x.toInt16.toInt32.toInt ∧ x.toInt16.toInt32.toInt ≤ b := by
  have h1 := c_i2s x
  have h3 : x.toInt16.toInt32.toInt = x.toInt := by omega
  omega
abbrev own_c (x : Int32) : Int32 := x.toUInt32.toUInt16.toUInt32.toInt32
abbrev own_b0 (x : Int32) : Int32 := (x >>> ((0 : Int32) &&& 31)).toInt8.toInt32.toInt8.toInt32
abbrev own_b8 (x : Int32) : Int32 := (x >>> ((8 : Int32) &&& 31)).toInt8.toInt32.toInt8.toInt32
def own_mx (a b : Int32) : Int32 := if a < b then b else a
theorem own_mxB (a b : Int32) : a.toInt ≤ (own_mx a b).toInt ∧ b.toInt ≤ (own_mx a b).toInt ∧ ((own_mx a b).toInt = a.toInt ∨ (own_mx a b).toInt = b.toInt) := by
  unfold own_mx
  split
  · rename_i h
    have := Int32.lt_iff_toInt_lt.mp h
    omega
  · rename_i h
    have := own_nlt32 h
    omega
def own_hi (c : Int32) : Int32 := if 55296 ≤ c.toInt ∧ c.toInt < 56320 then 1 else 0
def own_lo (c : Int32) : Int32 := if 56320 ≤ c.toInt ∧ c.toInt < 57344 then 1 else 0
def own_pr (a b : Int32) : Int32 := if own_hi a = 0 ∨ own_lo b = 0 then 0 else 1
theorem own_one32 : (1 : Int32).toInt = 1 := by decide
theorem own_zero32 : (0 : Int32).toInt = 0 := by decide
theorem own_hiB (c : Int32) : (0 : Int) ≤ (own_hi c).toInt ∧ (own_hi c).toInt ≤ 1 := by unfold own_hi; split <;> simp [own_one32, own_zero32]
theorem own_loB (c : Int32) : (0 : Int) ≤ (own_lo c).toInt ∧ (own_lo c).toInt ≤ 1 := by unfold own_lo; split <;> simp [own_one32, own_zero32]
theorem own_prB (a b : Int32) : (0 : Int) ≤ (own_pr a b).toInt ∧ (own_pr a b).toInt ≤ 1 := by unfold own_pr; split <;> simp [own_one32, own_zero32]
theorem own_hiI (c : Int32) : (own_hi c).toInt = 0 ∨ (55296 ≤ c.toInt ∧ c.toInt < 56320) := by
  unfold own_hi
  split
  · right; assumption
  · left; exact own_zero32
theorem own_loI (c : Int32) : (own_lo c).toInt = 0 ∨ (56320 ≤ c.toInt ∧ c.toInt < 57344) := by
  unfold own_lo
  split
  · right; assumption
  · left; exact own_zero32
theorem own_hl (c : Int32) : (own_hi c).toInt + (own_lo c).toInt ≤ 1 := by
  unfold own_hi own_lo
  split <;> split <;> simp [own_one32, own_zero32] <;> omega
theorem own_hi0 {c : Int32} {a b : Int} (h : a ≤ c.toInt ∧ c.toInt ≤ b) (q : b < 55296 ∨ 56319 < a) : (0 : Int) ≤ (own_hi c).toInt ∧ (own_hi c).toInt ≤ 0 := by
  unfold own_hi
  rw [if_neg (by omega)]
  simp [own_zero32]
theorem own_lo0 {c : Int32} {a b : Int} (h : a ≤ c.toInt ∧ c.toInt ≤ b) (q : b < 56320 ∨ 57343 < a) : (0 : Int) ≤ (own_lo c).toInt ∧ (own_lo c).toInt ≤ 0 := by
  unfold own_lo
  rw [if_neg (by omega)]
  simp [own_zero32]
theorem own_hi1 {c : Int32} {a b : Int} (h : a ≤ c.toInt ∧ c.toInt ≤ b) (q : 55296 ≤ a ∧ b < 56320) : (1 : Int) ≤ (own_hi c).toInt ∧ (own_hi c).toInt ≤ 1 := by
  unfold own_hi
  rw [if_pos (by omega)]
  simp [own_one32]
theorem own_lo1 {c : Int32} {a b : Int} (h : a ≤ c.toInt ∧ c.toInt ≤ b) (q : 56320 ≤ a ∧ b < 57344) : (1 : Int) ≤ (own_lo c).toInt ∧ (own_lo c).toInt ≤ 1 := by
  unfold own_lo
  rw [if_pos (by omega)]
  simp [own_one32]
theorem own_pr0a {a b : Int32} (h : own_hi a = 0) : own_pr a b = 0 := by unfold own_pr; rw [if_pos (Or.inl h)]
theorem own_pr0b {a b : Int32} (h : own_lo b = 0) : own_pr a b = 0 := by unfold own_pr; rw [if_pos (Or.inr h)]
theorem own_pr1 {a b : Int32} (h : ¬ (own_hi a = 0)) (q : ¬ (own_lo b = 0)) : own_pr a b = 1 := by unfold own_pr; rw [if_neg (fun z => z.elim h q)]
theorem own_mod6 (k : Int32) : (k &&& (2147483647 : Int32)) % (6 : Int32) = (0 : Int32) ∨ (k &&& (2147483647 : Int32)) % (6 : Int32) = (1 : Int32) ∨ (k &&& (2147483647 : Int32)) % (6 : Int32) = (2 : Int32) ∨ (k &&& (2147483647 : Int32)) % (6 : Int32) = (3 : Int32) ∨ (k &&& (2147483647 : Int32)) % (6 : Int32) = (4 : Int32) ∨ (k &&& (2147483647 : Int32)) % (6 : Int32) = (5 : Int32) := by
  obtain ⟨h0, -⟩ := c_and k (2147483647 : Int32) (by decide)
  obtain ⟨h1, -⟩ := c_irem (k &&& (2147483647 : Int32)) (6 : Int32) 6 (by decide)
  have h2 := h1 h0
  simp only [← Int32.toInt_inj]
  rw [h2, show (0 : Int32).toInt = 0 from by decide, show (1 : Int32).toInt = 1 from by decide, show (2 : Int32).toInt = 2 from by decide, show (3 : Int32).toInt = 3 from by decide, show (4 : Int32).toInt = 4 from by decide, show (5 : Int32).toInt = 5 from by decide]
  omega
theorem own_N0 (X : Int32) (h0 : ¬ (X < (0 : Int32))) (h1 : ¬ ((65535 : Int32) < X)) : (own_c (own_c ((((own_b0 X) &&& (255 : Int32)) <<< ((0 : Int32) &&& 31)) ||| (((own_b8 X) &&& (255 : Int32)) <<< ((8 : Int32) &&& 31))))) = X := by
  have j1 := own_c32 (X)
  have j2 := own_k32 (0 : Int32) (0) (by decide)
  have j3 := own_nlt32 h0
  have j4 := own_k32 (65535 : Int32) (65535) (by decide)
  have j5 := own_nlt32 h1
  have j6 : (0 : Int) ≤ (X).toInt ∧ (X).toInt ≤ 65535 := by constructor <;> omega
  have j7 := own_ishr X (0 : Int32) 0 1 (by decide) (by decide)
  have j8 : (0 : Int) ≤ ((X >>> ((0 : Int32) &&& 31))).toInt ∧ ((X >>> ((0 : Int32) &&& 31))).toInt ≤ 65535 := by constructor <;> omega
  have j9 := c_i2b (X >>> ((0 : Int32) &&& 31))
  have j10 : (-128 : Int) ≤ (((X >>> ((0 : Int32) &&& 31)).toInt8.toInt32)).toInt ∧ (((X >>> ((0 : Int32) &&& 31)).toInt8.toInt32)).toInt ≤ 127 := ⟨j9.2.1, Int.le_of_lt_add_one j9.2.2⟩
  have j11 := own_i2bE j10 (by decide)
  have j12 : (-128 : Int) ≤ ((own_b0 X)).toInt ∧ ((own_b0 X)).toInt ≤ 127 := j11.2
  have j13 := own_k32 (255 : Int32) (255) (by decide)
  have j14 := own_maskE32 (own_b0 X) (255 : Int32) 8 256 (by decide) (by decide) (by decide) (by decide)
  have j15 : (0 : Int) ≤ (((own_b0 X) &&& (255 : Int32))).toInt ∧ (((own_b0 X) &&& (255 : Int32))).toInt ≤ 255 := j14.2
  have j16 := own_ishl ((own_b0 X) &&& (255 : Int32)) (0 : Int32) 0 1 (by decide) (by decide)
  have j17 := own_c32 ((((own_b0 X) &&& (255 : Int32)) <<< ((0 : Int32) &&& 31)))
  have j18 : (0 : Int) ≤ ((((own_b0 X) &&& (255 : Int32)) <<< ((0 : Int32) &&& 31))).toInt ∧ ((((own_b0 X) &&& (255 : Int32)) <<< ((0 : Int32) &&& 31))).toInt ≤ 255 := by constructor <;> omega
  have j19 := own_ishr X (8 : Int32) 8 256 (by decide) (by decide)
  have j20 : (0 : Int) ≤ ((X >>> ((8 : Int32) &&& 31))).toInt ∧ ((X >>> ((8 : Int32) &&& 31))).toInt ≤ 255 := by constructor <;> omega
  have j21 := c_i2b (X >>> ((8 : Int32) &&& 31))
  have j22 : (-128 : Int) ≤ (((X >>> ((8 : Int32) &&& 31)).toInt8.toInt32)).toInt ∧ (((X >>> ((8 : Int32) &&& 31)).toInt8.toInt32)).toInt ≤ 127 := ⟨j21.2.1, Int.le_of_lt_add_one j21.2.2⟩
  have j23 := own_i2bE j22 (by decide)
  have j24 : (-128 : Int) ≤ ((own_b8 X)).toInt ∧ ((own_b8 X)).toInt ≤ 127 := j23.2
  have j25 := own_maskE32 (own_b8 X) (255 : Int32) 8 256 (by decide) (by decide) (by decide) (by decide)
  have j26 : (0 : Int) ≤ (((own_b8 X) &&& (255 : Int32))).toInt ∧ (((own_b8 X) &&& (255 : Int32))).toInt ≤ 255 := j25.2
  have j27 := own_ishl ((own_b8 X) &&& (255 : Int32)) (8 : Int32) 8 256 (by decide) (by decide)
  have j28 := own_c32 ((((own_b8 X) &&& (255 : Int32)) <<< ((8 : Int32) &&& 31)))
  have j29 : (0 : Int) ≤ ((((own_b8 X) &&& (255 : Int32)) <<< ((8 : Int32) &&& 31))).toInt ∧ ((((own_b8 X) &&& (255 : Int32)) <<< ((8 : Int32) &&& 31))).toInt ≤ 65280 := by constructor <;> omega
  have j30 := c_or' (((own_b0 X) &&& (255 : Int32)) <<< ((0 : Int32) &&& 31)) (((own_b8 X) &&& (255 : Int32)) <<< ((8 : Int32) &&& 31)) 8 (by decide) 256 (by decide)
  have j31 := own_c32 (((((own_b0 X) &&& (255 : Int32)) <<< ((0 : Int32) &&& 31)) ||| (((own_b8 X) &&& (255 : Int32)) <<< ((8 : Int32) &&& 31))))
  have j32 := c_i2c ((((own_b0 X) &&& (255 : Int32)) <<< ((0 : Int32) &&& 31)) ||| (((own_b8 X) &&& (255 : Int32)) <<< ((8 : Int32) &&& 31)))
  have j33 : (0 : Int) ≤ ((own_c ((((own_b0 X) &&& (255 : Int32)) <<< ((0 : Int32) &&& 31)) ||| (((own_b8 X) &&& (255 : Int32)) <<< ((8 : Int32) &&& 31))))).toInt ∧ ((own_c ((((own_b0 X) &&& (255 : Int32)) <<< ((0 : Int32) &&& 31)) ||| (((own_b8 X) &&& (255 : Int32)) <<< ((8 : Int32) &&& 31))))).toInt ≤ 65535 := ⟨j32.2.1, Int.le_of_lt_add_one j32.2.2⟩
  have j34 := own_i2cE j33 (by decide)
  have j35 : (0 : Int) ≤ ((own_c (own_c ((((own_b0 X) &&& (255 : Int32)) <<< ((0 : Int32) &&& 31)) ||| (((own_b8 X) &&& (255 : Int32)) <<< ((8 : Int32) &&& 31)))))).toInt ∧ ((own_c (own_c ((((own_b0 X) &&& (255 : Int32)) <<< ((0 : Int32) &&& 31)) ||| (((own_b8 X) &&& (255 : Int32)) <<< ((8 : Int32) &&& 31)))))).toInt ≤ 65535 := j34.2
  have j36 := own_nlt32 h0
  have j37 := own_nlt32 h1
  rw [← Int32.toInt_inj]
  simp only [own_c, own_b0, own_b8] at *
  omega
theorem own_N1 (X : Int32) (h0 : ¬ (X < (0 : Int32))) (h1 : ¬ ((65535 : Int32) < X)) : (own_c X) = X := by
  have j1 := own_c32 (X)
  have j2 := own_k32 (0 : Int32) (0) (by decide)
  have j3 := own_nlt32 h0
  have j4 := own_k32 (65535 : Int32) (65535) (by decide)
  have j5 := own_nlt32 h1
  have j6 : (0 : Int) ≤ (X).toInt ∧ (X).toInt ≤ 65535 := by constructor <;> omega
  have j7 := own_i2cE j6 (by decide)
  have j8 : (0 : Int) ≤ ((own_c X)).toInt ∧ ((own_c X)).toInt ≤ 65535 := j7.2
  have j9 := own_nlt32 h0
  have j10 := own_nlt32 h1
  rw [← Int32.toInt_inj]
  simp only [own_c, own_b0, own_b8] at *
  omega
abbrev mn0 : MethodName := ⟨"com/example/outbound_courier/outboundcourier/util/CharactersIsOneToPinLaw", "pick", "(I)C"⟩
abbrev mn1 : MethodName := ⟨"com/example/outbound_courier/outboundcourier/util/CharactersIsOneToPinLaw", "isHigh", "(C)Z"⟩
abbrev mn2 : MethodName := ⟨"com/example/outbound_courier/outboundcourier/util/CharactersIsOneToPinLaw", "isLow", "(C)Z"⟩
abbrev mn3 : MethodName := ⟨"java/lang/Character", "isHighSurrogate", "(C)Z"⟩
abbrev mn4 : MethodName := ⟨"java/lang/Character", "isLowSurrogate", "(C)Z"⟩
abbrev mn5 : MethodName := ⟨"com/example/outbound_courier/outboundcourier/util/CharactersIsOneToPinLaw", "pair", "(CCZ)I"⟩
abbrev mn6 : MethodName := ⟨"java/lang/StringUTF16", "codePointCount", "([BIIZ)I"⟩
abbrev mn7 : MethodName := ⟨"java/lang/StringUTF16", "getChar", "([BI)C"⟩
abbrev mn8 : MethodName := ⟨"java/lang/StringUTF16", "compress", "([CI[BII)I"⟩
abbrev mn9 : MethodName := ⟨"java/lang/StringUTF16", "newBytesLength", "(I)I"⟩
abbrev mn10 : MethodName := ⟨"java/lang/StringUTF16", "newBytesFor", "(I)[B"⟩
abbrev mn11 : MethodName := ⟨"java/lang/StringUTF16", "putChar", "([BII)V"⟩
abbrev mn12 : MethodName := ⟨"java/lang/StringUTF16", "toBytes", "([CII)[B"⟩
abbrev mn13 : MethodName := ⟨"java/lang/StringUTF16", "compress", "([CII)[B"⟩
abbrev mn14 : MethodName := ⟨"java/lang/String", "<init>", "([CIILjava/lang/Void;)V"⟩
abbrev mn15 : MethodName := ⟨"java/lang/String", "<init>", "([C)V"⟩
abbrev mn16 : MethodName := ⟨"com/example/outbound_courier/outboundcourier/util/CharactersIsOneToPinLaw", "make", "(ICCCC)Ljava/lang/String;"⟩
abbrev mn17 : MethodName := ⟨"java/lang/String", "isEmpty", "()Z"⟩
abbrev mn18 : MethodName := ⟨"com/example/outbound_courier/outboundcourier/util/Characters", "isOneTo", "(Ljava/lang/String;I)Z"⟩
abbrev mn19 : MethodName := ⟨"java/lang/StringUTF16", "coderFromArrayLen", "([BI)B"⟩
abbrev mn20 : MethodName := ⟨"java/lang/String", "coder", "()B"⟩
abbrev mn21 : MethodName := ⟨"java/lang/String", "length", "()I"⟩
abbrev mn22 : MethodName := ⟨"jdk/internal/util/Preconditions", "checkFromToIndex", "(IIILjava/util/function/BiFunction;)I"⟩
abbrev mn23 : MethodName := ⟨"java/util/Objects", "checkFromToIndex", "(III)I"⟩
abbrev mn24 : MethodName := ⟨"java/lang/String", "isLatin1", "()Z"⟩
abbrev mn25 : MethodName := ⟨"java/lang/StringUTF16", "codePointCount", "([BII)I"⟩
abbrev mn26 : MethodName := ⟨"java/lang/String", "codePointCount", "(II)I"⟩
theorem w0 (hw : HW Z a0) : (Jvm.Cond.methodLink "com/example/outbound_courier/outboundcourier/util/CharactersIsOneToPinLaw" (26 : Nat) mn0).before a0 Z = true := own_w hw 0 rfl
theorem w1 (hw : HW Z a0) : (Jvm.Cond.static mn0).before a0 Z = true := own_w hw 1 rfl
theorem w2 (hw : HW Z a0) : (Jvm.Cond.initialized "com/example/outbound_courier/outboundcourier/util/CharactersIsOneToPinLaw").before a0 Z = true := own_w hw 2 rfl
theorem w3 (hw : HW Z a0) : (Jvm.Cond.code mn0 method_2_code (3 : Nat) (Option.some Jvm.ClassFile.FieldType.char)).before a0 Z = true := own_w hw 3 rfl
theorem w4 (hw : HW Z a0) : (Jvm.Cond.constant "com/example/outbound_courier/outboundcourier/util/CharactersIsOneToPinLaw" (8 : Nat) (56320 : Int32)).before a0 Z = true := own_w hw 4 rfl
theorem w5 (hw : HW Z a0) : (Jvm.Cond.constant "com/example/outbound_courier/outboundcourier/util/CharactersIsOneToPinLaw" (7 : Nat) (55296 : Int32)).before a0 Z = true := own_w hw 5 rfl
theorem w6 (hw : HW Z a0) : (Jvm.Cond.constant "com/example/outbound_courier/outboundcourier/util/CharactersIsOneToPinLaw" (9 : Nat) (65535 : Int32)).before a0 Z = true := own_w hw 6 rfl
theorem w7 (hw : HW Z a0) : (Jvm.Cond.constant "com/example/outbound_courier/outboundcourier/util/CharactersIsOneToPinLaw" (30 : Nat) (2147483647 : Int32)).before a0 Z = true := own_w hw 7 rfl
theorem w8 (hw : HW Z a0) : (Jvm.Cond.methodLink "com/example/outbound_courier/outboundcourier/util/CharactersIsOneToPinLaw" (31 : Nat) mn16).before a0 Z = true := own_w hw 8 rfl
theorem w9 (hw : HW Z a0) : (Jvm.Cond.static mn16).before a0 Z = true := own_w hw 9 rfl
theorem w10 (hw : HW Z a0) : (Jvm.Cond.code mn16 method_6_code (6 : Nat) (Option.some (Jvm.ClassFile.FieldType.object "java/lang/String"))).before a0 Z = true := own_w hw 10 rfl
theorem w11 (hw : HW Z a0) : (Jvm.Cond.classLink "com/example/outbound_courier/outboundcourier/util/CharactersIsOneToPinLaw" (21 : Nat) "java/lang/String").before a0 Z = true := own_w hw 11 rfl
theorem w12 (hw : HW Z a0) : (Jvm.Cond.instantiable "java/lang/String" (4 : Nat)).before a0 Z = true := own_w hw 12 rfl
theorem w13 (hw : HW Z a0) : (Jvm.Cond.initialized "java/lang/String").before a0 Z = true := own_w hw 13 rfl
theorem w14 (hw : HW Z a0) : (Jvm.Cond.arrayClass Jvm.ClassFile.FieldType.char).before a0 Z = true := own_w hw 14 rfl
theorem w15 (hw : HW Z a0) : (Jvm.Cond.methodLink "com/example/outbound_courier/outboundcourier/util/CharactersIsOneToPinLaw" (23 : Nat) mn15).before a0 Z = true := own_w hw 15 rfl
theorem w16 (hw : HW Z a0) : (Jvm.Cond.instanceMethod mn15).before a0 Z = true := own_w hw 16 rfl
theorem w17 (hw : HW Z a0) : (Jvm.Cond.code mn15 jdk_42_method_3_code (2 : Nat) (Option.none : Option Jvm.ClassFile.FieldType)).before a0 Z = true := own_w hw 17 rfl
theorem w18 (hw : HW Z a0) : (Jvm.Cond.methodLink "java/lang/String" (27 : Nat) mn14).before a0 Z = true := own_w hw 18 rfl
theorem w19 (hw : HW Z a0) : (Jvm.Cond.instanceMethod mn14).before a0 Z = true := own_w hw 19 rfl
theorem w21 (hw : HW Z a0) : (Jvm.Cond.code mn14 jdk_42_method_149_code (6 : Nat) (Option.none : Option Jvm.ClassFile.FieldType)).before a0 Z = true := own_w hw 21 rfl
theorem w22 (hw : HW Z a0) : (Jvm.Cond.methodLink "java/lang/String" (1 : Nat) ({ cls := "java/lang/Object", name := "<init>", desc := "()V" } : Jvm.MethodName)).before a0 Z = true := own_w hw 22 rfl
theorem w23 (hw : HW Z a0) : (Jvm.Cond.instanceMethod ({ cls := "java/lang/Object", name := "<init>", desc := "()V" } : Jvm.MethodName)).before a0 Z = true := own_w hw 23 rfl
theorem w24 (hw : HW Z a0) : (Jvm.Cond.code ({ cls := "java/lang/Object", name := "<init>", desc := "()V" } : Jvm.MethodName) object_method_1_code (1 : Nat) (Option.none : Option Jvm.ClassFile.FieldType)).before a0 Z = true := own_w hw 24 rfl
theorem w25 (hw : HW Z a0) : (Jvm.Cond.stringLink "java/lang/String" (7 : Nat) "").before a0 Z = true := own_w hw 25 rfl
theorem w26 (hw : HW Z a0) : (Jvm.Cond.arrayClass Jvm.ClassFile.FieldType.byte).before a0 Z = true := own_w hw 26 rfl
theorem w27 (hw : HW Z a0) : (Jvm.Cond.laysFinal "java/lang/String" "java/lang/String" "value" "[B").before a0 Z = true := own_w hw 27 rfl
theorem w28 (hw : HW Z a0) : (Jvm.Cond.laysFinal "java/lang/String" "java/lang/String" "coder" "B").before a0 Z = true := own_w hw 28 rfl
theorem w29 (hw : HW Z a0) : (Jvm.Cond.soleField "java/lang/String" "value").before a0 Z = true := own_w hw 29 rfl
theorem w30 (hw : HW Z a0) : (Jvm.Cond.soleField "java/lang/String" "coder").before a0 Z = true := own_w hw 30 rfl
theorem w31 (hw : HW Z a0) : (Jvm.Cond.fieldLink "java/lang/String" (9 : Nat) "java/lang/String" "value" "[B").before a0 Z = true := own_w hw 31 rfl
theorem w32 (hw : HW Z a0) : (Jvm.Cond.fieldLink "java/lang/String" (15 : Nat) "java/lang/String" "coder" "B").before a0 Z = true := own_w hw 32 rfl
theorem w33 (hw : HW Z a0) : (Jvm.Cond.methodLink "com/example/outbound_courier/outboundcourier/util/CharactersIsOneToPinLaw" (35 : Nat) mn18).before a0 Z = true := own_w hw 33 rfl
theorem w34 (hw : HW Z a0) : (Jvm.Cond.static mn18).before a0 Z = true := own_w hw 34 rfl
theorem w35 (hw : HW Z a0) : (Jvm.Cond.initialized "com/example/outbound_courier/outboundcourier/util/Characters").before a0 Z = true := own_w hw 35 rfl
theorem w36 (hw : HW Z a0) : (Jvm.Cond.code mn18 prog_38_method_2_code (2 : Nat) (Option.some Jvm.ClassFile.FieldType.boolean)).before a0 Z = true := own_w hw 36 rfl
theorem w37 (hw : HW Z a0) : (Jvm.Cond.methodLink "com/example/outbound_courier/outboundcourier/util/Characters" (7 : Nat) mn17).before a0 Z = true := own_w hw 37 rfl
theorem w38 (hw : HW Z a0) : (Jvm.Cond.declares mn17).before a0 Z = true := own_w hw 38 rfl
theorem w39 (hw : HW Z a0) : (Jvm.Cond.instanceMethod mn17).before a0 Z = true := own_w hw 39 rfl
theorem w40 (hw : HW Z a0) : (Jvm.Cond.selects "java/lang/String" mn17 mn17).before a0 Z = true := own_w hw 40 rfl
theorem w41 (hw : HW Z a0) : (Jvm.Cond.code mn17 jdk_42_method_55_code (1 : Nat) (Option.some Jvm.ClassFile.FieldType.boolean)).before a0 Z = true := own_w hw 41 rfl
theorem w42 (hw : HW Z a0) : (Jvm.Cond.fieldLink "java/lang/String" (38 : Nat) "java/lang/String" "COMPACT_STRINGS" "Z").before a0 Z = true := own_w hw 42 rfl
theorem w43 (hw : HW Z a0) : (Jvm.Cond.methodLink "java/lang/String" (177 : Nat) mn13).before a0 Z = true := own_w hw 43 rfl
theorem w44 (hw : HW Z a0) : (Jvm.Cond.static mn13).before a0 Z = true := own_w hw 44 rfl
theorem w45 (hw : HW Z a0) : (Jvm.Cond.initialized "java/lang/StringUTF16").before a0 Z = true := own_w hw 45 rfl
theorem w46 (hw : HW Z a0) : (Jvm.Cond.code mn13 jdk_52_method_16_code (6 : Nat) (Option.some (Jvm.ClassFile.FieldType.array Jvm.ClassFile.FieldType.byte))).before a0 Z = true := own_w hw 46 rfl
theorem w47 (hw : HW Z a0) : (Jvm.Cond.methodLink "java/lang/StringUTF16" (115 : Nat) mn8).before a0 Z = true := own_w hw 47 rfl
theorem w48 (hw : HW Z a0) : (Jvm.Cond.static mn8).before a0 Z = true := own_w hw 48 rfl
theorem w49 (hw : HW Z a0) : (Jvm.Cond.code mn8 jdk_52_method_21_code (7 : Nat) (Option.some Jvm.ClassFile.FieldType.int)).before a0 Z = true := own_w hw 49 rfl
theorem w50 (hw : HW Z a0) : (Jvm.Cond.methodLink "java/lang/StringUTF16" (119 : Nat) mn12).before a0 Z = true := own_w hw 50 rfl
theorem w51 (hw : HW Z a0) : (Jvm.Cond.static mn12).before a0 Z = true := own_w hw 51 rfl
theorem w52 (hw : HW Z a0) : (Jvm.Cond.code mn12 jdk_52_method_14_code (5 : Nat) (Option.some (Jvm.ClassFile.FieldType.array Jvm.ClassFile.FieldType.byte))).before a0 Z = true := own_w hw 52 rfl
theorem w53 (hw : HW Z a0) : (Jvm.Cond.methodLink "java/lang/StringUTF16" (107 : Nat) mn10).before a0 Z = true := own_w hw 53 rfl
theorem w54 (hw : HW Z a0) : (Jvm.Cond.static mn10).before a0 Z = true := own_w hw 54 rfl
theorem w55 (hw : HW Z a0) : (Jvm.Cond.code mn10 jdk_52_method_2_code (1 : Nat) (Option.some (Jvm.ClassFile.FieldType.array Jvm.ClassFile.FieldType.byte))).before a0 Z = true := own_w hw 55 rfl
theorem w56 (hw : HW Z a0) : (Jvm.Cond.methodLink "java/lang/StringUTF16" (11 : Nat) mn9).before a0 Z = true := own_w hw 56 rfl
theorem w57 (hw : HW Z a0) : (Jvm.Cond.static mn9).before a0 Z = true := own_w hw 57 rfl
theorem w58 (hw : HW Z a0) : (Jvm.Cond.code mn9 jdk_52_method_3_code (1 : Nat) (Option.some Jvm.ClassFile.FieldType.int)).before a0 Z = true := own_w hw 58 rfl
theorem w59 (hw : HW Z a0) : (Jvm.Cond.constant "java/lang/StringUTF16" (20 : Nat) (1073741823 : Int32)).before a0 Z = true := own_w hw 59 rfl
theorem w60 (hw : HW Z a0) : (Jvm.Cond.methodLink "java/lang/StringUTF16" (111 : Nat) mn11).before a0 Z = true := own_w hw 60 rfl
theorem w61 (hw : HW Z a0) : (Jvm.Cond.static mn11).before a0 Z = true := own_w hw 61 rfl
theorem w62 (hw : HW Z a0) : (Jvm.Cond.code mn11 jdk_52_method_4_code (3 : Nat) (Option.none : Option Jvm.ClassFile.FieldType)).before a0 Z = true := own_w hw 62 rfl
theorem w63 (hw : HW Z a0) : (Jvm.Cond.fieldLink "java/lang/StringUTF16" (44 : Nat) "java/lang/StringUTF16" "$assertionsDisabled" "Z").before a0 Z = true := own_w hw 63 rfl
theorem w64 (hw : HW Z a0) : (Jvm.Cond.fieldLink "java/lang/StringUTF16" (59 : Nat) "java/lang/StringUTF16" "HI_BYTE_SHIFT" "I").before a0 Z = true := own_w hw 64 rfl
theorem w65 (hw : HW Z a0) : (Jvm.Cond.fieldLink "java/lang/StringUTF16" (63 : Nat) "java/lang/StringUTF16" "LO_BYTE_SHIFT" "I").before a0 Z = true := own_w hw 65 rfl
theorem w66 (hw : HW Z a0) : (Jvm.Cond.methodLink "java/lang/StringUTF16" (71 : Nat) mn7).before a0 Z = true := own_w hw 66 rfl
theorem w67 (hw : HW Z a0) : (Jvm.Cond.static mn7).before a0 Z = true := own_w hw 67 rfl
theorem w68 (hw : HW Z a0) : (Jvm.Cond.code mn7 jdk_52_method_5_code (2 : Nat) (Option.some Jvm.ClassFile.FieldType.char)).before a0 Z = true := own_w hw 68 rfl
theorem w69 (hw : HW Z a0) : (Jvm.Cond.methodLink "java/lang/String" (47 : Nat) mn19).before a0 Z = true := own_w hw 69 rfl
theorem w70 (hw : HW Z a0) : (Jvm.Cond.static mn19).before a0 Z = true := own_w hw 70 rfl
theorem w71 (hw : HW Z a0) : (Jvm.Cond.code mn19 jdk_52_method_15_code (2 : Nat) (Option.some Jvm.ClassFile.FieldType.byte)).before a0 Z = true := own_w hw 71 rfl
theorem w72 (hw : HW Z a0) : (Jvm.Cond.methodLink "com/example/outbound_courier/outboundcourier/util/Characters" (13 : Nat) mn21).before a0 Z = true := own_w hw 72 rfl
theorem w73 (hw : HW Z a0) : (Jvm.Cond.declares mn21).before a0 Z = true := own_w hw 73 rfl
theorem w74 (hw : HW Z a0) : (Jvm.Cond.instanceMethod mn21).before a0 Z = true := own_w hw 74 rfl
theorem w75 (hw : HW Z a0) : (Jvm.Cond.selects "java/lang/String" mn21 mn21).before a0 Z = true := own_w hw 75 rfl
theorem w76 (hw : HW Z a0) : (Jvm.Cond.code mn21 jdk_42_method_54_code (1 : Nat) (Option.some Jvm.ClassFile.FieldType.int)).before a0 Z = true := own_w hw 76 rfl
theorem w77 (hw : HW Z a0) : (Jvm.Cond.methodLink "java/lang/String" (335 : Nat) mn20).before a0 Z = true := own_w hw 77 rfl
theorem w78 (hw : HW Z a0) : (Jvm.Cond.declares mn20).before a0 Z = true := own_w hw 78 rfl
theorem w79 (hw : HW Z a0) : (Jvm.Cond.instanceMethod mn20).before a0 Z = true := own_w hw 79 rfl
theorem w80 (hw : HW Z a0) : (Jvm.Cond.selects "java/lang/String" mn20 mn20).before a0 Z = true := own_w hw 80 rfl
theorem w81 (hw : HW Z a0) : (Jvm.Cond.code mn20 jdk_42_method_152_code (1 : Nat) (Option.some Jvm.ClassFile.FieldType.byte)).before a0 Z = true := own_w hw 81 rfl
theorem w82 (hw : HW Z a0) : (Jvm.Cond.methodLink "com/example/outbound_courier/outboundcourier/util/Characters" (17 : Nat) mn26).before a0 Z = true := own_w hw 82 rfl
theorem w83 (hw : HW Z a0) : (Jvm.Cond.declares mn26).before a0 Z = true := own_w hw 83 rfl
theorem w84 (hw : HW Z a0) : (Jvm.Cond.instanceMethod mn26).before a0 Z = true := own_w hw 84 rfl
theorem w85 (hw : HW Z a0) : (Jvm.Cond.selects "java/lang/String" mn26 mn26).before a0 Z = true := own_w hw 85 rfl
theorem w86 (hw : HW Z a0) : (Jvm.Cond.code mn26 jdk_42_method_59_code (3 : Nat) (Option.some Jvm.ClassFile.FieldType.int)).before a0 Z = true := own_w hw 86 rfl
theorem w87 (hw : HW Z a0) : (Jvm.Cond.methodLink "java/lang/String" (505 : Nat) mn21).before a0 Z = true := own_w hw 87 rfl
theorem w88 (hw : HW Z a0) : (Jvm.Cond.methodLink "java/lang/String" (511 : Nat) mn23).before a0 Z = true := own_w hw 88 rfl
theorem w89 (hw : HW Z a0) : (Jvm.Cond.static mn23).before a0 Z = true := own_w hw 89 rfl
theorem w90 (hw : HW Z a0) : (Jvm.Cond.initialized "java/util/Objects").before a0 Z = true := own_w hw 90 rfl
theorem w91 (hw : HW Z a0) : (Jvm.Cond.code mn23 jdk_31_method_18_code (3 : Nat) (Option.some Jvm.ClassFile.FieldType.int)).before a0 Z = true := own_w hw 91 rfl
theorem w92 (hw : HW Z a0) : (Jvm.Cond.methodLink "java/util/Objects" (111 : Nat) mn22).before a0 Z = true := own_w hw 92 rfl
theorem w93 (hw : HW Z a0) : (Jvm.Cond.static mn22).before a0 Z = true := own_w hw 93 rfl
theorem w94 (hw : HW Z a0) : (Jvm.Cond.initialized "jdk/internal/util/Preconditions").before a0 Z = true := own_w hw 94 rfl
theorem w95 (hw : HW Z a0) : (Jvm.Cond.code mn22 jdk_41_method_12_code (4 : Nat) (Option.some Jvm.ClassFile.FieldType.int)).before a0 Z = true := own_w hw 95 rfl
theorem w96 (hw : HW Z a0) : (Jvm.Cond.methodLink "java/lang/String" (492 : Nat) mn24).before a0 Z = true := own_w hw 96 rfl
theorem w97 (hw : HW Z a0) : (Jvm.Cond.declares mn24).before a0 Z = true := own_w hw 97 rfl
theorem w98 (hw : HW Z a0) : (Jvm.Cond.instanceMethod mn24).before a0 Z = true := own_w hw 98 rfl
theorem w99 (hw : HW Z a0) : (Jvm.Cond.selects "java/lang/String" mn24 mn24).before a0 Z = true := own_w hw 99 rfl
theorem w100 (hw : HW Z a0) : (Jvm.Cond.code mn24 jdk_42_method_154_code (1 : Nat) (Option.some Jvm.ClassFile.FieldType.boolean)).before a0 Z = true := own_w hw 100 rfl
theorem w101 (hw : HW Z a0) : (Jvm.Cond.methodLink "java/lang/String" (514 : Nat) mn25).before a0 Z = true := own_w hw 101 rfl
theorem w102 (hw : HW Z a0) : (Jvm.Cond.static mn25).before a0 Z = true := own_w hw 102 rfl
theorem w103 (hw : HW Z a0) : (Jvm.Cond.code mn25 jdk_52_method_12_code (3 : Nat) (Option.some Jvm.ClassFile.FieldType.int)).before a0 Z = true := own_w hw 103 rfl
theorem w104 (hw : HW Z a0) : (Jvm.Cond.methodLink "java/lang/StringUTF16" (100 : Nat) mn6).before a0 Z = true := own_w hw 104 rfl
theorem w105 (hw : HW Z a0) : (Jvm.Cond.static mn6).before a0 Z = true := own_w hw 105 rfl
theorem w106 (hw : HW Z a0) : (Jvm.Cond.code mn6 jdk_52_method_11_code (6 : Nat) (Option.some Jvm.ClassFile.FieldType.int)).before a0 Z = true := own_w hw 106 rfl
theorem w107 (hw : HW Z a0) : (Jvm.Cond.methodLink "java/lang/StringUTF16" (75 : Nat) mn3).before a0 Z = true := own_w hw 107 rfl
theorem w108 (hw : HW Z a0) : (Jvm.Cond.static mn3).before a0 Z = true := own_w hw 108 rfl
theorem w109 (hw : HW Z a0) : (Jvm.Cond.initialized "java/lang/Character").before a0 Z = true := own_w hw 109 rfl
theorem w110 (hw : HW Z a0) : (Jvm.Cond.code mn3 jdk_89_method_14_code (1 : Nat) (Option.some Jvm.ClassFile.FieldType.boolean)).before a0 Z = true := own_w hw 110 rfl
theorem w111 (hw : HW Z a0) : (Jvm.Cond.constant "java/lang/Character" (75 : Nat) (55296 : Int32)).before a0 Z = true := own_w hw 111 rfl
theorem w112 (hw : HW Z a0) : (Jvm.Cond.methodLink "com/example/outbound_courier/outboundcourier/util/CharactersIsOneToPinLaw" (41 : Nat) mn5).before a0 Z = true := own_w hw 112 rfl
theorem w113 (hw : HW Z a0) : (Jvm.Cond.static mn5).before a0 Z = true := own_w hw 113 rfl
theorem w114 (hw : HW Z a0) : (Jvm.Cond.code mn5 method_5_code (3 : Nat) (Option.some Jvm.ClassFile.FieldType.int)).before a0 Z = true := own_w hw 114 rfl
theorem w115 (hw : HW Z a0) : (Jvm.Cond.methodLink "com/example/outbound_courier/outboundcourier/util/CharactersIsOneToPinLaw" (12 : Nat) mn1).before a0 Z = true := own_w hw 115 rfl
theorem w116 (hw : HW Z a0) : (Jvm.Cond.static mn1).before a0 Z = true := own_w hw 116 rfl
theorem w117 (hw : HW Z a0) : (Jvm.Cond.code mn1 method_3_code (1 : Nat) (Option.some Jvm.ClassFile.FieldType.boolean)).before a0 Z = true := own_w hw 117 rfl
theorem w118 (hw : HW Z a0) : (Jvm.Cond.constant "java/lang/Character" (76 : Nat) (56320 : Int32)).before a0 Z = true := own_w hw 118 rfl
theorem w119 (hw : HW Z a0) : (Jvm.Cond.methodLink "java/lang/StringUTF16" (81 : Nat) mn4).before a0 Z = true := own_w hw 119 rfl
theorem w120 (hw : HW Z a0) : (Jvm.Cond.static mn4).before a0 Z = true := own_w hw 120 rfl
theorem w121 (hw : HW Z a0) : (Jvm.Cond.code mn4 jdk_89_method_15_code (1 : Nat) (Option.some Jvm.ClassFile.FieldType.boolean)).before a0 Z = true := own_w hw 121 rfl
theorem w122 (hw : HW Z a0) : (Jvm.Cond.constant "com/example/outbound_courier/outboundcourier/util/CharactersIsOneToPinLaw" (10 : Nat) (56319 : Int32)).before a0 Z = true := own_w hw 122 rfl
theorem w123 (hw : HW Z a0) : (Jvm.Cond.methodLink "com/example/outbound_courier/outboundcourier/util/CharactersIsOneToPinLaw" (18 : Nat) mn2).before a0 Z = true := own_w hw 123 rfl
theorem w124 (hw : HW Z a0) : (Jvm.Cond.static mn2).before a0 Z = true := own_w hw 124 rfl
theorem w125 (hw : HW Z a0) : (Jvm.Cond.code mn2 method_4_code (1 : Nat) (Option.some Jvm.ClassFile.FieldType.boolean)).before a0 Z = true := own_w hw 125 rfl
theorem w126 (hw : HW Z a0) : (Jvm.Cond.constant "java/lang/Character" (77 : Nat) (57344 : Int32)).before a0 Z = true := own_w hw 126 rfl
theorem w127 (hw : HW Z a0) : (Jvm.Cond.constant "com/example/outbound_courier/outboundcourier/util/CharactersIsOneToPinLaw" (11 : Nat) (57343 : Int32)).before a0 Z = true := own_w hw 127 rfl
theorem own_wS {Z : State} {a0 : Array Value} (hw : ∀ d ∈ tables_1, d.before a0 Z = true) : ∀ d ∈ Bundle.stringAtoms, d.before a0 Z = true := by
  intro d hd
  simp only [Bundle.stringAtoms, List.mem_cons, List.not_mem_nil, or_false] at hd
  rcases hd with rfl | rfl | rfl | rfl | rfl | rfl | rfl
  · exact (w13 hw)
  · exact (w12 hw)
  · exact (w26 hw)
  · exact (w27 hw)
  · exact (w28 hw)
  · exact (w29 hw)
  · exact (w30 hw)
abbrev c1 : ByteArray := method_2_code
abbrev c2 : ByteArray := method_6_code
abbrev c3 : ByteArray := jdk_42_method_3_code
abbrev c4 : ByteArray := jdk_42_method_149_code
abbrev c6 : ByteArray := prog_38_method_2_code
abbrev c7 : ByteArray := jdk_42_method_55_code
abbrev c8 : ByteArray := jdk_52_method_16_code
abbrev c9 : ByteArray := jdk_52_method_21_code
abbrev c10 : ByteArray := jdk_52_method_14_code
abbrev c11 : ByteArray := jdk_52_method_2_code
abbrev c12 : ByteArray := jdk_52_method_3_code
abbrev c13 : ByteArray := jdk_52_method_4_code
abbrev c14 : ByteArray := jdk_52_method_5_code
abbrev c15 : ByteArray := jdk_52_method_15_code
abbrev c16 : ByteArray := jdk_42_method_54_code
abbrev c17 : ByteArray := jdk_42_method_152_code
abbrev c18 : ByteArray := jdk_42_method_59_code
abbrev c19 : ByteArray := jdk_31_method_18_code
abbrev c20 : ByteArray := jdk_41_method_12_code
abbrev c21 : ByteArray := jdk_42_method_154_code
abbrev c22 : ByteArray := jdk_52_method_12_code
abbrev c23 : ByteArray := jdk_52_method_11_code
abbrev c24 : ByteArray := jdk_89_method_14_code
abbrev c25 : ByteArray := method_5_code
abbrev c26 : ByteArray := method_3_code
abbrev c27 : ByteArray := jdk_89_method_15_code
abbrev c28 : ByteArray := method_4_code
theorem d1_0 : decode c1 0 = .ok (.iload_n 0, 1) := by decide +kernel
theorem d1_1 : decode c1 1 = .ok (.iconst 3, 1) := by decide +kernel
theorem d1_2 : decode c1 2 = .ok (.iand, 1) := by decide +kernel
theorem d1_3 : decode c1 3 = .ok (.istore_n 1, 1) := by decide +kernel
theorem d1_4 : decode c1 4 = .ok (.iload_n 0, 1) := by decide +kernel
theorem d1_5 : decode c1 5 = .ok (.iconst 2, 1) := by decide +kernel
theorem d1_6 : decode c1 6 = .ok (.iushr, 1) := by decide +kernel
theorem d1_7 : decode c1 7 = .ok (.istore_n 2, 1) := by decide +kernel
theorem d1_8 : decode c1 8 = .ok (.iload_n 1, 1) := by decide +kernel
theorem d1_9 : decode c1 9 = .ok (.ifCond .ne 10, 3) := by decide +kernel
theorem d1_12 : decode c1 12 = .ok (.iload_n 2, 1) := by decide +kernel
theorem d1_13 : decode c1 13 = .ok (.sipush 255, 3) := by decide +kernel
theorem d1_16 : decode c1 16 = .ok (.iand, 1) := by decide +kernel
theorem d1_17 : decode c1 17 = .ok (.i2c, 1) := by decide +kernel
theorem d1_18 : decode c1 18 = .ok (.ireturn, 1) := by decide +kernel
theorem d1_19 : decode c1 19 = .ok (.iload_n 1, 1) := by decide +kernel
theorem d1_20 : decode c1 20 = .ok (.iconst 1, 1) := by decide +kernel
theorem d1_21 : decode c1 21 = .ok (.if_icmp .ne 13, 3) := by decide +kernel
theorem d1_24 : decode c1 24 = .ok (.ldc 7, 2) := by decide +kernel
theorem d1_26 : decode c1 26 = .ok (.iload_n 2, 1) := by decide +kernel
theorem d1_27 : decode c1 27 = .ok (.sipush 1023, 3) := by decide +kernel
theorem d1_30 : decode c1 30 = .ok (.iand, 1) := by decide +kernel
theorem d1_31 : decode c1 31 = .ok (.iadd, 1) := by decide +kernel
theorem d1_32 : decode c1 32 = .ok (.i2c, 1) := by decide +kernel
theorem d1_33 : decode c1 33 = .ok (.ireturn, 1) := by decide +kernel
theorem d1_34 : decode c1 34 = .ok (.iload_n 1, 1) := by decide +kernel
theorem d1_35 : decode c1 35 = .ok (.iconst 2, 1) := by decide +kernel
theorem d1_36 : decode c1 36 = .ok (.if_icmp .ne 13, 3) := by decide +kernel
theorem d1_39 : decode c1 39 = .ok (.ldc 8, 2) := by decide +kernel
theorem d1_41 : decode c1 41 = .ok (.iload_n 2, 1) := by decide +kernel
theorem d1_42 : decode c1 42 = .ok (.sipush 1023, 3) := by decide +kernel
theorem d1_45 : decode c1 45 = .ok (.iand, 1) := by decide +kernel
theorem d1_46 : decode c1 46 = .ok (.iadd, 1) := by decide +kernel
theorem d1_47 : decode c1 47 = .ok (.i2c, 1) := by decide +kernel
theorem d1_48 : decode c1 48 = .ok (.ireturn, 1) := by decide +kernel
theorem d1_49 : decode c1 49 = .ok (.iload_n 2, 1) := by decide +kernel
theorem d1_50 : decode c1 50 = .ok (.ldc 9, 2) := by decide +kernel
theorem d1_52 : decode c1 52 = .ok (.iand, 1) := by decide +kernel
theorem d1_53 : decode c1 53 = .ok (.i2c, 1) := by decide +kernel
theorem d1_54 : decode c1 54 = .ok (.ireturn, 1) := by decide +kernel
theorem d2_0 : decode c2 0 = .ok (.iload_n 0, 1) := by decide +kernel
theorem d2_1 : decode c2 1 = .ok (.ifCond .ne 14, 3) := by decide +kernel
theorem d2_4 : decode c2 4 = .ok (.new 21, 3) := by decide +kernel
theorem d2_7 : decode c2 7 = .ok (.dup, 1) := by decide +kernel
theorem d2_8 : decode c2 8 = .ok (.iconst 0, 1) := by decide +kernel
theorem d2_9 : decode c2 9 = .ok (.newarray .char, 2) := by decide +kernel
theorem d2_11 : decode c2 11 = .ok (.invokespecial 23, 3) := by decide +kernel
theorem d2_14 : decode c2 14 = .ok (.areturn, 1) := by decide +kernel
theorem d2_15 : decode c2 15 = .ok (.iload_n 0, 1) := by decide +kernel
theorem d2_16 : decode c2 16 = .ok (.iconst 1, 1) := by decide +kernel
theorem d2_17 : decode c2 17 = .ok (.if_icmp .ne 23, 3) := by decide +kernel
theorem d2_20 : decode c2 20 = .ok (.iconst 1, 1) := by decide +kernel
theorem d2_21 : decode c2 21 = .ok (.newarray .char, 2) := by decide +kernel
theorem d2_23 : decode c2 23 = .ok (.astore 5, 2) := by decide +kernel
theorem d2_25 : decode c2 25 = .ok (.aload 5, 2) := by decide +kernel
theorem d2_27 : decode c2 27 = .ok (.iconst 0, 1) := by decide +kernel
theorem d2_28 : decode c2 28 = .ok (.iload_n 1, 1) := by decide +kernel
theorem d2_29 : decode c2 29 = .ok (.castore, 1) := by decide +kernel
theorem d2_30 : decode c2 30 = .ok (.new 21, 3) := by decide +kernel
theorem d2_33 : decode c2 33 = .ok (.dup, 1) := by decide +kernel
theorem d2_34 : decode c2 34 = .ok (.aload 5, 2) := by decide +kernel
theorem d2_36 : decode c2 36 = .ok (.invokespecial 23, 3) := by decide +kernel
theorem d2_39 : decode c2 39 = .ok (.areturn, 1) := by decide +kernel
theorem d2_40 : decode c2 40 = .ok (.iload_n 0, 1) := by decide +kernel
theorem d2_41 : decode c2 41 = .ok (.iconst 2, 1) := by decide +kernel
theorem d2_42 : decode c2 42 = .ok (.if_icmp .ne 28, 3) := by decide +kernel
theorem d2_45 : decode c2 45 = .ok (.iconst 2, 1) := by decide +kernel
theorem d2_46 : decode c2 46 = .ok (.newarray .char, 2) := by decide +kernel
theorem d2_48 : decode c2 48 = .ok (.astore 5, 2) := by decide +kernel
theorem d2_50 : decode c2 50 = .ok (.aload 5, 2) := by decide +kernel
theorem d2_52 : decode c2 52 = .ok (.iconst 0, 1) := by decide +kernel
theorem d2_53 : decode c2 53 = .ok (.iload_n 1, 1) := by decide +kernel
theorem d2_54 : decode c2 54 = .ok (.castore, 1) := by decide +kernel
theorem d2_55 : decode c2 55 = .ok (.aload 5, 2) := by decide +kernel
theorem d2_57 : decode c2 57 = .ok (.iconst 1, 1) := by decide +kernel
theorem d2_58 : decode c2 58 = .ok (.iload_n 2, 1) := by decide +kernel
theorem d2_59 : decode c2 59 = .ok (.castore, 1) := by decide +kernel
theorem d2_60 : decode c2 60 = .ok (.new 21, 3) := by decide +kernel
theorem d2_63 : decode c2 63 = .ok (.dup, 1) := by decide +kernel
theorem d2_64 : decode c2 64 = .ok (.aload 5, 2) := by decide +kernel
theorem d2_66 : decode c2 66 = .ok (.invokespecial 23, 3) := by decide +kernel
theorem d2_69 : decode c2 69 = .ok (.areturn, 1) := by decide +kernel
theorem d2_70 : decode c2 70 = .ok (.iload_n 0, 1) := by decide +kernel
theorem d2_71 : decode c2 71 = .ok (.iconst 3, 1) := by decide +kernel
theorem d2_72 : decode c2 72 = .ok (.if_icmp .ne 33, 3) := by decide +kernel
theorem d2_75 : decode c2 75 = .ok (.iconst 3, 1) := by decide +kernel
theorem d2_76 : decode c2 76 = .ok (.newarray .char, 2) := by decide +kernel
theorem d2_78 : decode c2 78 = .ok (.astore 5, 2) := by decide +kernel
theorem d2_80 : decode c2 80 = .ok (.aload 5, 2) := by decide +kernel
theorem d2_82 : decode c2 82 = .ok (.iconst 0, 1) := by decide +kernel
theorem d2_83 : decode c2 83 = .ok (.iload_n 1, 1) := by decide +kernel
theorem d2_84 : decode c2 84 = .ok (.castore, 1) := by decide +kernel
theorem d2_85 : decode c2 85 = .ok (.aload 5, 2) := by decide +kernel
theorem d2_87 : decode c2 87 = .ok (.iconst 1, 1) := by decide +kernel
theorem d2_88 : decode c2 88 = .ok (.iload_n 2, 1) := by decide +kernel
theorem d2_89 : decode c2 89 = .ok (.castore, 1) := by decide +kernel
theorem d2_90 : decode c2 90 = .ok (.aload 5, 2) := by decide +kernel
theorem d2_92 : decode c2 92 = .ok (.iconst 2, 1) := by decide +kernel
theorem d2_93 : decode c2 93 = .ok (.iload_n 3, 1) := by decide +kernel
theorem d2_94 : decode c2 94 = .ok (.castore, 1) := by decide +kernel
theorem d2_95 : decode c2 95 = .ok (.new 21, 3) := by decide +kernel
theorem d2_98 : decode c2 98 = .ok (.dup, 1) := by decide +kernel
theorem d2_99 : decode c2 99 = .ok (.aload 5, 2) := by decide +kernel
theorem d2_101 : decode c2 101 = .ok (.invokespecial 23, 3) := by decide +kernel
theorem d2_104 : decode c2 104 = .ok (.areturn, 1) := by decide +kernel
theorem d2_105 : decode c2 105 = .ok (.iconst 4, 1) := by decide +kernel
theorem d2_106 : decode c2 106 = .ok (.newarray .char, 2) := by decide +kernel
theorem d2_108 : decode c2 108 = .ok (.astore 5, 2) := by decide +kernel
theorem d2_110 : decode c2 110 = .ok (.aload 5, 2) := by decide +kernel
theorem d2_112 : decode c2 112 = .ok (.iconst 0, 1) := by decide +kernel
theorem d2_113 : decode c2 113 = .ok (.iload_n 1, 1) := by decide +kernel
theorem d2_114 : decode c2 114 = .ok (.castore, 1) := by decide +kernel
theorem d2_115 : decode c2 115 = .ok (.aload 5, 2) := by decide +kernel
theorem d2_117 : decode c2 117 = .ok (.iconst 1, 1) := by decide +kernel
theorem d2_118 : decode c2 118 = .ok (.iload_n 2, 1) := by decide +kernel
theorem d2_119 : decode c2 119 = .ok (.castore, 1) := by decide +kernel
theorem d2_120 : decode c2 120 = .ok (.aload 5, 2) := by decide +kernel
theorem d2_122 : decode c2 122 = .ok (.iconst 2, 1) := by decide +kernel
theorem d2_123 : decode c2 123 = .ok (.iload_n 3, 1) := by decide +kernel
theorem d2_124 : decode c2 124 = .ok (.castore, 1) := by decide +kernel
theorem d2_125 : decode c2 125 = .ok (.aload 5, 2) := by decide +kernel
theorem d2_127 : decode c2 127 = .ok (.iconst 3, 1) := by decide +kernel
theorem d2_128 : decode c2 128 = .ok (.iload 4, 2) := by decide +kernel
theorem d2_130 : decode c2 130 = .ok (.castore, 1) := by decide +kernel
theorem d2_131 : decode c2 131 = .ok (.new 21, 3) := by decide +kernel
theorem d2_134 : decode c2 134 = .ok (.dup, 1) := by decide +kernel
theorem d2_135 : decode c2 135 = .ok (.aload 5, 2) := by decide +kernel
theorem d2_137 : decode c2 137 = .ok (.invokespecial 23, 3) := by decide +kernel
theorem d2_140 : decode c2 140 = .ok (.areturn, 1) := by decide +kernel
theorem d3_0 : decode c3 0 = .ok (.aload_n 0, 1) := by decide +kernel
theorem d3_1 : decode c3 1 = .ok (.aload_n 1, 1) := by decide +kernel
theorem d3_2 : decode c3 2 = .ok (.iconst 0, 1) := by decide +kernel
theorem d3_3 : decode c3 3 = .ok (.aload_n 1, 1) := by decide +kernel
theorem d3_4 : decode c3 4 = .ok (.arraylength, 1) := by decide +kernel
theorem d3_5 : decode c3 5 = .ok (.aconst_null, 1) := by decide +kernel
theorem d3_6 : decode c3 6 = .ok (.invokespecial 27, 3) := by decide +kernel
theorem d3_9 : decode c3 9 = .ok (.return_, 1) := by decide +kernel
theorem d4_0 : decode c4 0 = .ok (.aload_n 0, 1) := by decide +kernel
theorem d4_1 : decode c4 1 = .ok (.invokespecial 1, 3) := by decide +kernel
theorem d4_4 : decode c4 4 = .ok (.iload_n 3, 1) := by decide +kernel
theorem d4_5 : decode c4 5 = .ok (.ifCond .ne 22, 3) := by decide +kernel
theorem d4_8 : decode c4 8 = .ok (.aload_n 0, 1) := by decide +kernel
theorem d4_9 : decode c4 9 = .ok (.ldc 7, 2) := by decide +kernel
theorem d4_11 : decode c4 11 = .ok (.getfield 9, 3) := by decide +kernel
theorem d4_14 : decode c4 14 = .ok (.putfield 9, 3) := by decide +kernel
theorem d4_17 : decode c4 17 = .ok (.aload_n 0, 1) := by decide +kernel
theorem d4_18 : decode c4 18 = .ok (.ldc 7, 2) := by decide +kernel
theorem d4_20 : decode c4 20 = .ok (.getfield 15, 3) := by decide +kernel
theorem d4_23 : decode c4 23 = .ok (.putfield 15, 3) := by decide +kernel
theorem d4_26 : decode c4 26 = .ok (.return_, 1) := by decide +kernel
theorem d4_27 : decode c4 27 = .ok (.getstatic 38, 3) := by decide +kernel
theorem d4_30 : decode c4 30 = .ok (.ifCond .eq 28, 3) := by decide +kernel
theorem d4_33 : decode c4 33 = .ok (.aload_n 1, 1) := by decide +kernel
theorem d4_34 : decode c4 34 = .ok (.iload_n 2, 1) := by decide +kernel
theorem d4_35 : decode c4 35 = .ok (.iload_n 3, 1) := by decide +kernel
theorem d4_36 : decode c4 36 = .ok (.invokestatic 177, 3) := by decide +kernel
theorem d4_39 : decode c4 39 = .ok (.astore 5, 2) := by decide +kernel
theorem d4_41 : decode c4 41 = .ok (.aload_n 0, 1) := by decide +kernel
theorem d4_42 : decode c4 42 = .ok (.aload 5, 2) := by decide +kernel
theorem d4_44 : decode c4 44 = .ok (.iload_n 3, 1) := by decide +kernel
theorem d4_45 : decode c4 45 = .ok (.invokestatic 47, 3) := by decide +kernel
theorem d4_48 : decode c4 48 = .ok (.putfield 15, 3) := by decide +kernel
theorem d4_51 : decode c4 51 = .ok (.aload_n 0, 1) := by decide +kernel
theorem d4_52 : decode c4 52 = .ok (.aload 5, 2) := by decide +kernel
theorem d4_54 : decode c4 54 = .ok (.putfield 9, 3) := by decide +kernel
theorem d4_57 : decode c4 57 = .ok (.return_, 1) := by decide +kernel
theorem d6_0 : decode c6 0 = .ok (.aload_n 0, 1) := by decide +kernel
theorem d6_1 : decode c6 1 = .ok (.ifnull 27, 3) := by decide +kernel
theorem d6_4 : decode c6 4 = .ok (.aload_n 0, 1) := by decide +kernel
theorem d6_5 : decode c6 5 = .ok (.invokevirtual 7, 3) := by decide +kernel
theorem d6_8 : decode c6 8 = .ok (.ifCond .ne 20, 3) := by decide +kernel
theorem d6_11 : decode c6 11 = .ok (.aload_n 0, 1) := by decide +kernel
theorem d6_12 : decode c6 12 = .ok (.iconst 0, 1) := by decide +kernel
theorem d6_13 : decode c6 13 = .ok (.aload_n 0, 1) := by decide +kernel
theorem d6_14 : decode c6 14 = .ok (.invokevirtual 13, 3) := by decide +kernel
theorem d6_17 : decode c6 17 = .ok (.invokevirtual 17, 3) := by decide +kernel
theorem d6_20 : decode c6 20 = .ok (.iload_n 1, 1) := by decide +kernel
theorem d6_21 : decode c6 21 = .ok (.if_icmp .gt 7, 3) := by decide +kernel
theorem d6_24 : decode c6 24 = .ok (.iconst 1, 1) := by decide +kernel
theorem d6_25 : decode c6 25 = .ok (.goto 4, 3) := by decide +kernel
theorem d6_28 : decode c6 28 = .ok (.iconst 0, 1) := by decide +kernel
theorem d6_29 : decode c6 29 = .ok (.ireturn, 1) := by decide +kernel
theorem d7_0 : decode c7 0 = .ok (.aload_n 0, 1) := by decide +kernel
theorem d7_1 : decode c7 1 = .ok (.getfield 9, 3) := by decide +kernel
theorem d7_4 : decode c7 4 = .ok (.arraylength, 1) := by decide +kernel
theorem d7_5 : decode c7 5 = .ok (.ifCond .ne 7, 3) := by decide +kernel
theorem d7_8 : decode c7 8 = .ok (.iconst 1, 1) := by decide +kernel
theorem d7_9 : decode c7 9 = .ok (.goto 4, 3) := by decide +kernel
theorem d7_12 : decode c7 12 = .ok (.iconst 0, 1) := by decide +kernel
theorem d7_13 : decode c7 13 = .ok (.ireturn, 1) := by decide +kernel
theorem d8_0 : decode c8 0 = .ok (.iload_n 2, 1) := by decide +kernel
theorem d8_1 : decode c8 1 = .ok (.newarray .byte, 2) := by decide +kernel
theorem d8_3 : decode c8 3 = .ok (.astore_n 3, 1) := by decide +kernel
theorem d8_4 : decode c8 4 = .ok (.aload_n 0, 1) := by decide +kernel
theorem d8_5 : decode c8 5 = .ok (.iload_n 1, 1) := by decide +kernel
theorem d8_6 : decode c8 6 = .ok (.aload_n 3, 1) := by decide +kernel
theorem d8_7 : decode c8 7 = .ok (.iconst 0, 1) := by decide +kernel
theorem d8_8 : decode c8 8 = .ok (.iload_n 2, 1) := by decide +kernel
theorem d8_9 : decode c8 9 = .ok (.invokestatic 115, 3) := by decide +kernel
theorem d8_12 : decode c8 12 = .ok (.istore 4, 2) := by decide +kernel
theorem d8_14 : decode c8 14 = .ok (.iload 4, 2) := by decide +kernel
theorem d8_16 : decode c8 16 = .ok (.iload_n 2, 1) := by decide +kernel
theorem d8_17 : decode c8 17 = .ok (.if_icmp .eq 40, 3) := by decide +kernel
theorem d8_20 : decode c8 20 = .ok (.aload_n 0, 1) := by decide +kernel
theorem d8_21 : decode c8 21 = .ok (.iload_n 1, 1) := by decide +kernel
theorem d8_22 : decode c8 22 = .ok (.iload_n 2, 1) := by decide +kernel
theorem d8_23 : decode c8 23 = .ok (.invokestatic 119, 3) := by decide +kernel
theorem d8_26 : decode c8 26 = .ok (.astore 5, 2) := by decide +kernel
theorem d8_28 : decode c8 28 = .ok (.aload 5, 2) := by decide +kernel
theorem d8_30 : decode c8 30 = .ok (.iload 4, 2) := by decide +kernel
theorem d8_32 : decode c8 32 = .ok (.invokestatic 71, 3) := by decide +kernel
theorem d8_35 : decode c8 35 = .ok (.sipush 255, 3) := by decide +kernel
theorem d8_38 : decode c8 38 = .ok (.if_icmp .gt 16, 3) := by decide +kernel
theorem d8_54 : decode c8 54 = .ok (.aload 5, 2) := by decide +kernel
theorem d8_56 : decode c8 56 = .ok (.areturn, 1) := by decide +kernel
theorem d8_57 : decode c8 57 = .ok (.aload_n 3, 1) := by decide +kernel
theorem d8_58 : decode c8 58 = .ok (.areturn, 1) := by decide +kernel
theorem d9_0 : decode c9 0 = .ok (.iconst 0, 1) := by decide +kernel
theorem d9_1 : decode c9 1 = .ok (.istore 5, 2) := by decide +kernel
theorem d9_3 : decode c9 3 = .ok (.iload 5, 2) := by decide +kernel
theorem d9_5 : decode c9 5 = .ok (.iload 4, 2) := by decide +kernel
theorem d9_7 : decode c9 7 = .ok (.if_icmp .ge 37, 3) := by decide +kernel
theorem d9_10 : decode c9 10 = .ok (.aload_n 0, 1) := by decide +kernel
theorem d9_11 : decode c9 11 = .ok (.iload_n 1, 1) := by decide +kernel
theorem d9_12 : decode c9 12 = .ok (.caload, 1) := by decide +kernel
theorem d9_13 : decode c9 13 = .ok (.istore 6, 2) := by decide +kernel
theorem d9_15 : decode c9 15 = .ok (.iload 6, 2) := by decide +kernel
theorem d9_17 : decode c9 17 = .ok (.sipush 255, 3) := by decide +kernel
theorem d9_20 : decode c9 20 = .ok (.if_icmp .le 6, 3) := by decide +kernel
theorem d9_23 : decode c9 23 = .ok (.iload 5, 2) := by decide +kernel
theorem d9_25 : decode c9 25 = .ok (.ireturn, 1) := by decide +kernel
theorem d9_26 : decode c9 26 = .ok (.aload_n 2, 1) := by decide +kernel
theorem d9_27 : decode c9 27 = .ok (.iload_n 3, 1) := by decide +kernel
theorem d9_28 : decode c9 28 = .ok (.iload 6, 2) := by decide +kernel
theorem d9_30 : decode c9 30 = .ok (.i2b, 1) := by decide +kernel
theorem d9_31 : decode c9 31 = .ok (.bastore, 1) := by decide +kernel
theorem d9_32 : decode c9 32 = .ok (.iinc 1 1, 3) := by decide +kernel
theorem d9_35 : decode c9 35 = .ok (.iinc 3 1, 3) := by decide +kernel
theorem d9_38 : decode c9 38 = .ok (.iinc 5 1, 3) := by decide +kernel
theorem d9_41 : decode c9 41 = .ok (.goto (-38), 3) := by decide +kernel
theorem d9_44 : decode c9 44 = .ok (.iload 4, 2) := by decide +kernel
theorem d9_46 : decode c9 46 = .ok (.ireturn, 1) := by decide +kernel
theorem d10_0 : decode c10 0 = .ok (.iload_n 2, 1) := by decide +kernel
theorem d10_1 : decode c10 1 = .ok (.invokestatic 107, 3) := by decide +kernel
theorem d10_4 : decode c10 4 = .ok (.astore_n 3, 1) := by decide +kernel
theorem d10_5 : decode c10 5 = .ok (.iconst 0, 1) := by decide +kernel
theorem d10_6 : decode c10 6 = .ok (.istore 4, 2) := by decide +kernel
theorem d10_8 : decode c10 8 = .ok (.iload 4, 2) := by decide +kernel
theorem d10_10 : decode c10 10 = .ok (.iload_n 2, 1) := by decide +kernel
theorem d10_11 : decode c10 11 = .ok (.if_icmp .ge 21, 3) := by decide +kernel
theorem d10_14 : decode c10 14 = .ok (.aload_n 3, 1) := by decide +kernel
theorem d10_15 : decode c10 15 = .ok (.iload 4, 2) := by decide +kernel
theorem d10_17 : decode c10 17 = .ok (.aload_n 0, 1) := by decide +kernel
theorem d10_18 : decode c10 18 = .ok (.iload_n 1, 1) := by decide +kernel
theorem d10_19 : decode c10 19 = .ok (.caload, 1) := by decide +kernel
theorem d10_20 : decode c10 20 = .ok (.invokestatic 111, 3) := by decide +kernel
theorem d10_23 : decode c10 23 = .ok (.iinc 1 1, 3) := by decide +kernel
theorem d10_26 : decode c10 26 = .ok (.iinc 4 1, 3) := by decide +kernel
theorem d10_29 : decode c10 29 = .ok (.goto (-21), 3) := by decide +kernel
theorem d10_32 : decode c10 32 = .ok (.aload_n 3, 1) := by decide +kernel
theorem d10_33 : decode c10 33 = .ok (.areturn, 1) := by decide +kernel
theorem d11_0 : decode c11 0 = .ok (.iload_n 0, 1) := by decide +kernel
theorem d11_1 : decode c11 1 = .ok (.invokestatic 11, 3) := by decide +kernel
theorem d11_4 : decode c11 4 = .ok (.newarray .byte, 2) := by decide +kernel
theorem d11_6 : decode c11 6 = .ok (.areturn, 1) := by decide +kernel
theorem d12_0 : decode c12 0 = .ok (.iload_n 0, 1) := by decide +kernel
theorem d12_1 : decode c12 1 = .ok (.ifCond .ge 11, 3) := by decide +kernel
theorem d12_12 : decode c12 12 = .ok (.iload_n 0, 1) := by decide +kernel
theorem d12_13 : decode c12 13 = .ok (.ldc 20, 2) := by decide +kernel
theorem d12_15 : decode c12 15 = .ok (.if_icmp .lt 40, 3) := by decide +kernel
theorem d12_55 : decode c12 55 = .ok (.iload_n 0, 1) := by decide +kernel
theorem d12_56 : decode c12 56 = .ok (.iconst 1, 1) := by decide +kernel
theorem d12_57 : decode c12 57 = .ok (.ishl, 1) := by decide +kernel
theorem d12_58 : decode c12 58 = .ok (.ireturn, 1) := by decide +kernel
theorem d13_0 : decode c13 0 = .ok (.getstatic 44, 3) := by decide +kernel
theorem d13_3 : decode c13 3 = .ok (.ifCond .ne 25, 3) := by decide +kernel
theorem d13_28 : decode c13 28 = .ok (.iload_n 1, 1) := by decide +kernel
theorem d13_29 : decode c13 29 = .ok (.iconst 1, 1) := by decide +kernel
theorem d13_30 : decode c13 30 = .ok (.ishl, 1) := by decide +kernel
theorem d13_31 : decode c13 31 = .ok (.istore_n 1, 1) := by decide +kernel
theorem d13_32 : decode c13 32 = .ok (.aload_n 0, 1) := by decide +kernel
theorem d13_33 : decode c13 33 = .ok (.iload_n 1, 1) := by decide +kernel
theorem d13_34 : decode c13 34 = .ok (.iinc 1 1, 3) := by decide +kernel
theorem d13_37 : decode c13 37 = .ok (.iload_n 2, 1) := by decide +kernel
theorem d13_38 : decode c13 38 = .ok (.getstatic 59, 3) := by decide +kernel
theorem d13_41 : decode c13 41 = .ok (.ishr, 1) := by decide +kernel
theorem d13_42 : decode c13 42 = .ok (.i2b, 1) := by decide +kernel
theorem d13_43 : decode c13 43 = .ok (.bastore, 1) := by decide +kernel
theorem d13_44 : decode c13 44 = .ok (.aload_n 0, 1) := by decide +kernel
theorem d13_45 : decode c13 45 = .ok (.iload_n 1, 1) := by decide +kernel
theorem d13_46 : decode c13 46 = .ok (.iload_n 2, 1) := by decide +kernel
theorem d13_47 : decode c13 47 = .ok (.getstatic 63, 3) := by decide +kernel
theorem d13_50 : decode c13 50 = .ok (.ishr, 1) := by decide +kernel
theorem d13_51 : decode c13 51 = .ok (.i2b, 1) := by decide +kernel
theorem d13_52 : decode c13 52 = .ok (.bastore, 1) := by decide +kernel
theorem d13_53 : decode c13 53 = .ok (.return_, 1) := by decide +kernel
theorem d14_0 : decode c14 0 = .ok (.getstatic 44, 3) := by decide +kernel
theorem d14_3 : decode c14 3 = .ok (.ifCond .ne 25, 3) := by decide +kernel
theorem d14_28 : decode c14 28 = .ok (.iload_n 1, 1) := by decide +kernel
theorem d14_29 : decode c14 29 = .ok (.iconst 1, 1) := by decide +kernel
theorem d14_30 : decode c14 30 = .ok (.ishl, 1) := by decide +kernel
theorem d14_31 : decode c14 31 = .ok (.istore_n 1, 1) := by decide +kernel
theorem d14_32 : decode c14 32 = .ok (.aload_n 0, 1) := by decide +kernel
theorem d14_33 : decode c14 33 = .ok (.iload_n 1, 1) := by decide +kernel
theorem d14_34 : decode c14 34 = .ok (.iinc 1 1, 3) := by decide +kernel
theorem d14_37 : decode c14 37 = .ok (.baload, 1) := by decide +kernel
theorem d14_38 : decode c14 38 = .ok (.sipush 255, 3) := by decide +kernel
theorem d14_41 : decode c14 41 = .ok (.iand, 1) := by decide +kernel
theorem d14_42 : decode c14 42 = .ok (.getstatic 59, 3) := by decide +kernel
theorem d14_45 : decode c14 45 = .ok (.ishl, 1) := by decide +kernel
theorem d14_46 : decode c14 46 = .ok (.aload_n 0, 1) := by decide +kernel
theorem d14_47 : decode c14 47 = .ok (.iload_n 1, 1) := by decide +kernel
theorem d14_48 : decode c14 48 = .ok (.baload, 1) := by decide +kernel
theorem d14_49 : decode c14 49 = .ok (.sipush 255, 3) := by decide +kernel
theorem d14_52 : decode c14 52 = .ok (.iand, 1) := by decide +kernel
theorem d14_53 : decode c14 53 = .ok (.getstatic 63, 3) := by decide +kernel
theorem d14_56 : decode c14 56 = .ok (.ishl, 1) := by decide +kernel
theorem d14_57 : decode c14 57 = .ok (.ior, 1) := by decide +kernel
theorem d14_58 : decode c14 58 = .ok (.i2c, 1) := by decide +kernel
theorem d14_59 : decode c14 59 = .ok (.ireturn, 1) := by decide +kernel
theorem d15_0 : decode c15 0 = .ok (.iload_n 1, 1) := by decide +kernel
theorem d15_1 : decode c15 1 = .ok (.aload_n 0, 1) := by decide +kernel
theorem d15_2 : decode c15 2 = .ok (.arraylength, 1) := by decide +kernel
theorem d15_3 : decode c15 3 = .ok (.isub, 1) := by decide +kernel
theorem d15_4 : decode c15 4 = .ok (.bipush 31, 2) := by decide +kernel
theorem d15_6 : decode c15 6 = .ok (.iushr, 1) := by decide +kernel
theorem d15_7 : decode c15 7 = .ok (.i2b, 1) := by decide +kernel
theorem d15_8 : decode c15 8 = .ok (.ireturn, 1) := by decide +kernel
theorem d16_0 : decode c16 0 = .ok (.aload_n 0, 1) := by decide +kernel
theorem d16_1 : decode c16 1 = .ok (.getfield 9, 3) := by decide +kernel
theorem d16_4 : decode c16 4 = .ok (.arraylength, 1) := by decide +kernel
theorem d16_5 : decode c16 5 = .ok (.aload_n 0, 1) := by decide +kernel
theorem d16_6 : decode c16 6 = .ok (.invokevirtual 335, 3) := by decide +kernel
theorem d16_9 : decode c16 9 = .ok (.ishr, 1) := by decide +kernel
theorem d16_10 : decode c16 10 = .ok (.ireturn, 1) := by decide +kernel
theorem d17_0 : decode c17 0 = .ok (.getstatic 38, 3) := by decide +kernel
theorem d17_3 : decode c17 3 = .ok (.ifCond .eq 10, 3) := by decide +kernel
theorem d17_6 : decode c17 6 = .ok (.aload_n 0, 1) := by decide +kernel
theorem d17_7 : decode c17 7 = .ok (.getfield 15, 3) := by decide +kernel
theorem d17_10 : decode c17 10 = .ok (.goto 4, 3) := by decide +kernel
theorem d17_14 : decode c17 14 = .ok (.ireturn, 1) := by decide +kernel
theorem d18_0 : decode c18 0 = .ok (.iload_n 1, 1) := by decide +kernel
theorem d18_1 : decode c18 1 = .ok (.iload_n 2, 1) := by decide +kernel
theorem d18_2 : decode c18 2 = .ok (.aload_n 0, 1) := by decide +kernel
theorem d18_3 : decode c18 3 = .ok (.invokevirtual 505, 3) := by decide +kernel
theorem d18_6 : decode c18 6 = .ok (.invokestatic 511, 3) := by decide +kernel
theorem d18_9 : decode c18 9 = .ok (.pop, 1) := by decide +kernel
theorem d18_10 : decode c18 10 = .ok (.aload_n 0, 1) := by decide +kernel
theorem d18_11 : decode c18 11 = .ok (.invokevirtual 492, 3) := by decide +kernel
theorem d18_14 : decode c18 14 = .ok (.ifCond .eq 7, 3) := by decide +kernel
theorem d18_17 : decode c18 17 = .ok (.iload_n 2, 1) := by decide +kernel
theorem d18_18 : decode c18 18 = .ok (.iload_n 1, 1) := by decide +kernel
theorem d18_19 : decode c18 19 = .ok (.isub, 1) := by decide +kernel
theorem d18_20 : decode c18 20 = .ok (.ireturn, 1) := by decide +kernel
theorem d18_21 : decode c18 21 = .ok (.aload_n 0, 1) := by decide +kernel
theorem d18_22 : decode c18 22 = .ok (.getfield 9, 3) := by decide +kernel
theorem d18_25 : decode c18 25 = .ok (.iload_n 1, 1) := by decide +kernel
theorem d18_26 : decode c18 26 = .ok (.iload_n 2, 1) := by decide +kernel
theorem d18_27 : decode c18 27 = .ok (.invokestatic 514, 3) := by decide +kernel
theorem d18_30 : decode c18 30 = .ok (.ireturn, 1) := by decide +kernel
theorem d19_0 : decode c19 0 = .ok (.iload_n 0, 1) := by decide +kernel
theorem d19_1 : decode c19 1 = .ok (.iload_n 1, 1) := by decide +kernel
theorem d19_2 : decode c19 2 = .ok (.iload_n 2, 1) := by decide +kernel
theorem d19_3 : decode c19 3 = .ok (.aconst_null, 1) := by decide +kernel
theorem d19_4 : decode c19 4 = .ok (.invokestatic 111, 3) := by decide +kernel
theorem d19_7 : decode c19 7 = .ok (.ireturn, 1) := by decide +kernel
theorem d20_0 : decode c20 0 = .ok (.iload_n 0, 1) := by decide +kernel
theorem d20_1 : decode c20 1 = .ok (.ifCond .lt 13, 3) := by decide +kernel
theorem d20_4 : decode c20 4 = .ok (.iload_n 0, 1) := by decide +kernel
theorem d20_5 : decode c20 5 = .ok (.iload_n 1, 1) := by decide +kernel
theorem d20_6 : decode c20 6 = .ok (.if_icmp .gt 8, 3) := by decide +kernel
theorem d20_9 : decode c20 9 = .ok (.iload_n 1, 1) := by decide +kernel
theorem d20_10 : decode c20 10 = .ok (.iload_n 2, 1) := by decide +kernel
theorem d20_11 : decode c20 11 = .ok (.if_icmp .le 11, 3) := by decide +kernel
theorem d20_22 : decode c20 22 = .ok (.iload_n 0, 1) := by decide +kernel
theorem d20_23 : decode c20 23 = .ok (.ireturn, 1) := by decide +kernel
theorem d21_0 : decode c21 0 = .ok (.getstatic 38, 3) := by decide +kernel
theorem d21_3 : decode c21 3 = .ok (.ifCond .eq 14, 3) := by decide +kernel
theorem d21_6 : decode c21 6 = .ok (.aload_n 0, 1) := by decide +kernel
theorem d21_7 : decode c21 7 = .ok (.getfield 15, 3) := by decide +kernel
theorem d21_10 : decode c21 10 = .ok (.ifCond .ne 7, 3) := by decide +kernel
theorem d21_13 : decode c21 13 = .ok (.iconst 1, 1) := by decide +kernel
theorem d21_14 : decode c21 14 = .ok (.goto 4, 3) := by decide +kernel
theorem d21_17 : decode c21 17 = .ok (.iconst 0, 1) := by decide +kernel
theorem d21_18 : decode c21 18 = .ok (.ireturn, 1) := by decide +kernel
theorem d22_0 : decode c22 0 = .ok (.aload_n 0, 1) := by decide +kernel
theorem d22_1 : decode c22 1 = .ok (.iload_n 1, 1) := by decide +kernel
theorem d22_2 : decode c22 2 = .ok (.iload_n 2, 1) := by decide +kernel
theorem d22_3 : decode c22 3 = .ok (.iconst 0, 1) := by decide +kernel
theorem d22_4 : decode c22 4 = .ok (.invokestatic 100, 3) := by decide +kernel
theorem d22_7 : decode c22 7 = .ok (.ireturn, 1) := by decide +kernel
theorem d23_0 : decode c23 0 = .ok (.getstatic 44, 3) := by decide +kernel
theorem d23_3 : decode c23 3 = .ok (.ifCond .ne 16, 3) := by decide +kernel
theorem d23_19 : decode c23 19 = .ok (.iload_n 2, 1) := by decide +kernel
theorem d23_20 : decode c23 20 = .ok (.iload_n 1, 1) := by decide +kernel
theorem d23_21 : decode c23 21 = .ok (.isub, 1) := by decide +kernel
theorem d23_22 : decode c23 22 = .ok (.istore 4, 2) := by decide +kernel
theorem d23_24 : decode c23 24 = .ok (.iload_n 1, 1) := by decide +kernel
theorem d23_25 : decode c23 25 = .ok (.istore 5, 2) := by decide +kernel
theorem d23_27 : decode c23 27 = .ok (.iload_n 3, 1) := by decide +kernel
theorem d23_28 : decode c23 28 = .ok (.ifCond .eq 16, 3) := by decide +kernel
theorem d23_44 : decode c23 44 = .ok (.iload 5, 2) := by decide +kernel
theorem d23_46 : decode c23 46 = .ok (.iload_n 2, 1) := by decide +kernel
theorem d23_47 : decode c23 47 = .ok (.iconst 1, 1) := by decide +kernel
theorem d23_48 : decode c23 48 = .ok (.isub, 1) := by decide +kernel
theorem d23_49 : decode c23 49 = .ok (.if_icmp .ge 39, 3) := by decide +kernel
theorem d23_52 : decode c23 52 = .ok (.aload_n 0, 1) := by decide +kernel
theorem d23_53 : decode c23 53 = .ok (.iload 5, 2) := by decide +kernel
theorem d23_55 : decode c23 55 = .ok (.iinc 5 1, 3) := by decide +kernel
theorem d23_58 : decode c23 58 = .ok (.invokestatic 71, 3) := by decide +kernel
theorem d23_61 : decode c23 61 = .ok (.invokestatic 75, 3) := by decide +kernel
theorem d23_64 : decode c23 64 = .ok (.ifCond .eq (-20), 3) := by decide +kernel
theorem d23_67 : decode c23 67 = .ok (.aload_n 0, 1) := by decide +kernel
theorem d23_68 : decode c23 68 = .ok (.iload 5, 2) := by decide +kernel
theorem d23_70 : decode c23 70 = .ok (.invokestatic 71, 3) := by decide +kernel
theorem d23_73 : decode c23 73 = .ok (.invokestatic 81, 3) := by decide +kernel
theorem d23_76 : decode c23 76 = .ok (.ifCond .eq (-32), 3) := by decide +kernel
theorem d23_79 : decode c23 79 = .ok (.iinc 4 (-1), 3) := by decide +kernel
theorem d23_82 : decode c23 82 = .ok (.iinc 5 1, 3) := by decide +kernel
theorem d23_85 : decode c23 85 = .ok (.goto (-41), 3) := by decide +kernel
theorem d23_88 : decode c23 88 = .ok (.iload 4, 2) := by decide +kernel
theorem d23_90 : decode c23 90 = .ok (.ireturn, 1) := by decide +kernel
theorem d24_0 : decode c24 0 = .ok (.iload_n 0, 1) := by decide +kernel
theorem d24_1 : decode c24 1 = .ok (.ldc 75, 2) := by decide +kernel
theorem d24_3 : decode c24 3 = .ok (.if_icmp .lt 13, 3) := by decide +kernel
theorem d24_6 : decode c24 6 = .ok (.iload_n 0, 1) := by decide +kernel
theorem d24_7 : decode c24 7 = .ok (.ldc 76, 2) := by decide +kernel
theorem d24_9 : decode c24 9 = .ok (.if_icmp .ge 7, 3) := by decide +kernel
theorem d24_12 : decode c24 12 = .ok (.iconst 1, 1) := by decide +kernel
theorem d24_13 : decode c24 13 = .ok (.goto 4, 3) := by decide +kernel
theorem d24_16 : decode c24 16 = .ok (.iconst 0, 1) := by decide +kernel
theorem d24_17 : decode c24 17 = .ok (.ireturn, 1) := by decide +kernel
theorem d25_0 : decode c25 0 = .ok (.iload_n 2, 1) := by decide +kernel
theorem d25_1 : decode c25 1 = .ok (.ifCond .eq 19, 3) := by decide +kernel
theorem d25_4 : decode c25 4 = .ok (.iload_n 0, 1) := by decide +kernel
theorem d25_5 : decode c25 5 = .ok (.invokestatic 12, 3) := by decide +kernel
theorem d25_8 : decode c25 8 = .ok (.ifCond .eq 12, 3) := by decide +kernel
theorem d25_11 : decode c25 11 = .ok (.iload_n 1, 1) := by decide +kernel
theorem d25_12 : decode c25 12 = .ok (.invokestatic 18, 3) := by decide +kernel
theorem d25_15 : decode c25 15 = .ok (.ifCond .eq 5, 3) := by decide +kernel
theorem d25_18 : decode c25 18 = .ok (.iconst 1, 1) := by decide +kernel
theorem d25_19 : decode c25 19 = .ok (.ireturn, 1) := by decide +kernel
theorem d25_20 : decode c25 20 = .ok (.iconst 0, 1) := by decide +kernel
theorem d25_21 : decode c25 21 = .ok (.ireturn, 1) := by decide +kernel
theorem d26_0 : decode c26 0 = .ok (.iload_n 0, 1) := by decide +kernel
theorem d26_1 : decode c26 1 = .ok (.ldc 7, 2) := by decide +kernel
theorem d26_3 : decode c26 3 = .ok (.if_icmp .lt 13, 3) := by decide +kernel
theorem d26_6 : decode c26 6 = .ok (.iload_n 0, 1) := by decide +kernel
theorem d26_7 : decode c26 7 = .ok (.ldc 10, 2) := by decide +kernel
theorem d26_9 : decode c26 9 = .ok (.if_icmp .gt 7, 3) := by decide +kernel
theorem d26_12 : decode c26 12 = .ok (.iconst 1, 1) := by decide +kernel
theorem d26_13 : decode c26 13 = .ok (.goto 4, 3) := by decide +kernel
theorem d26_16 : decode c26 16 = .ok (.iconst 0, 1) := by decide +kernel
theorem d26_17 : decode c26 17 = .ok (.ireturn, 1) := by decide +kernel
theorem d27_0 : decode c27 0 = .ok (.iload_n 0, 1) := by decide +kernel
theorem d27_1 : decode c27 1 = .ok (.ldc 76, 2) := by decide +kernel
theorem d27_3 : decode c27 3 = .ok (.if_icmp .lt 13, 3) := by decide +kernel
theorem d27_6 : decode c27 6 = .ok (.iload_n 0, 1) := by decide +kernel
theorem d27_7 : decode c27 7 = .ok (.ldc 77, 2) := by decide +kernel
theorem d27_9 : decode c27 9 = .ok (.if_icmp .ge 7, 3) := by decide +kernel
theorem d27_12 : decode c27 12 = .ok (.iconst 1, 1) := by decide +kernel
theorem d27_13 : decode c27 13 = .ok (.goto 4, 3) := by decide +kernel
theorem d27_16 : decode c27 16 = .ok (.iconst 0, 1) := by decide +kernel
theorem d27_17 : decode c27 17 = .ok (.ireturn, 1) := by decide +kernel
theorem d28_0 : decode c28 0 = .ok (.iload_n 0, 1) := by decide +kernel
theorem d28_1 : decode c28 1 = .ok (.ldc 8, 2) := by decide +kernel
theorem d28_3 : decode c28 3 = .ok (.if_icmp .lt 13, 3) := by decide +kernel
theorem d28_6 : decode c28 6 = .ok (.iload_n 0, 1) := by decide +kernel
theorem d28_7 : decode c28 7 = .ok (.ldc 11, 2) := by decide +kernel
theorem d28_9 : decode c28 9 = .ok (.if_icmp .gt 7, 3) := by decide +kernel
theorem d28_12 : decode c28 12 = .ok (.iconst 1, 1) := by decide +kernel
theorem d28_13 : decode c28 13 = .ok (.goto 4, 3) := by decide +kernel
theorem d28_16 : decode c28 16 = .ok (.iconst 0, 1) := by decide +kernel
theorem d28_17 : decode c28 17 = .ok (.ireturn, 1) := by decide +kernel
theorem pd_0 : parseMethodDescriptor "(C)Z" = some ⟨[.char], some .boolean⟩ := by decide +kernel
theorem pd_1 : parseMethodDescriptor "([BI)C" = some ⟨[(.array .byte), .int], some .char⟩ := by decide +kernel
theorem pd_2 : parseMethodDescriptor "([CI[BII)I" = some ⟨[(.array .char), .int, (.array .byte), .int, .int], some .int⟩ := by decide +kernel
theorem pd_3 : parseMethodDescriptor "(I)I" = some ⟨[.int], some .int⟩ := by decide +kernel
theorem pd_4 : parseMethodDescriptor "(I)[B" = some ⟨[.int], some (.array .byte)⟩ := by decide +kernel
theorem pd_5 : parseMethodDescriptor "([BII)V" = some ⟨[(.array .byte), .int, .int], none⟩ := by decide +kernel
theorem pd_6 : parseMethodDescriptor "([CII)[B" = some ⟨[(.array .char), .int, .int], some (.array .byte)⟩ := by decide +kernel
theorem pd_7 : parseMethodDescriptor "(I)C" = some ⟨[.int], some .char⟩ := by decide +kernel
theorem pd_8 : parseMethodDescriptor "(CCZ)I" = some ⟨[.char, .char, .boolean], some .int⟩ := by decide +kernel
theorem pd_9 : parseMethodDescriptor "([CIILjava/lang/Void;)V" = some ⟨[(.array .char), .int, .int, (.object "java/lang/Void")], none⟩ := by decide +kernel
theorem pd_10 : parseMethodDescriptor "([C)V" = some ⟨[(.array .char)], none⟩ := by decide +kernel
theorem pd_11 : parseMethodDescriptor "(ICCCC)Ljava/lang/String;" = some ⟨[.int, .char, .char, .char, .char], some (.object "java/lang/String")⟩ := by decide +kernel
theorem pd_12 : parseMethodDescriptor "()Z" = some ⟨[], some .boolean⟩ := by decide +kernel
theorem pd_13 : parseMethodDescriptor "(Ljava/lang/String;I)Z" = some ⟨[(.object "java/lang/String"), .int], some .boolean⟩ := by decide +kernel
theorem pd_14 : parseMethodDescriptor "([BI)B" = some ⟨[(.array .byte), .int], some .byte⟩ := by decide +kernel
theorem pd_15 : parseMethodDescriptor "()B" = some ⟨[], some .byte⟩ := by decide +kernel
theorem pd_16 : parseMethodDescriptor "()I" = some ⟨[], some .int⟩ := by decide +kernel
theorem pd_17 : parseMethodDescriptor "(IIILjava/util/function/BiFunction;)I" = some ⟨[.int, .int, .int, (.object "java/util/function/BiFunction")], some .int⟩ := by decide +kernel
theorem pd_18 : parseMethodDescriptor "(III)I" = some ⟨[.int, .int, .int], some .int⟩ := by decide +kernel
theorem pd_19 : parseMethodDescriptor "([BIIZ)I" = some ⟨[(.array .byte), .int, .int, .boolean], some .int⟩ := by decide +kernel
theorem pd_20 : parseMethodDescriptor "([BII)I" = some ⟨[(.array .byte), .int, .int], some .int⟩ := by decide +kernel
theorem pd_21 : parseMethodDescriptor "(II)I" = some ⟨[.int, .int], some .int⟩ := by decide +kernel
theorem pn_0 : plainName "com/example/outbound_courier/outboundcourier/util/CharactersIsOneToPinLaw" = true := by first | (simp [plainName, overriddenIn]; done) | decide +kernel
theorem pn_1 : plainName "java/lang/Character" = true := by first | (simp [plainName, overriddenIn]; done) | decide +kernel
theorem pn_2 : plainName "java/lang/StringUTF16" = true := by first | (simp [plainName, overriddenIn]; done) | decide +kernel
theorem pn_3 : plainName "java/lang/String" = true := by first | (simp [plainName, overriddenIn]; done) | decide +kernel
theorem pn_4 : plainName "com/example/outbound_courier/outboundcourier/util/Characters" = true := by first | (simp [plainName, overriddenIn]; done) | decide +kernel
theorem pn_5 : plainName "jdk/internal/util/Preconditions" = true := by first | (simp [plainName, overriddenIn]; done) | decide +kernel
theorem pn_6 : plainName "java/util/Objects" = true := by first | (simp [plainName, overriddenIn]; done) | decide +kernel
theorem rmP (hw : HW Z a0) (xv : Int32) (O0 : Old Z n0 h0) :
    MM l mn0 method_2_code 3 (some .char) (R4 0 0 0 0) #[(.int xv)] Z h0 (fun v h L => ∃ (cv : Int32), v = some (.int cv) ∧ Fr n0 L ∧ h = h0 ∧ ¬ (cv < (0 : Int32)) ∧ ¬ ((65535 : Int32) < cv)) := by
  refine own_hN n0 rfl pn_0 ?_
  intro p e s m below meth c s₁ hx b hml hret hZ hown hnm X0 e0 N0
  refine own_ct (mkF m 0 #[.val (.int xv), .unset, .unset] []) rfl ?_
  refine g_iloadN X0 hx (b d1_0) rfl ?_
  refine g_iconst X0 hx (3) (b d1_1) rfl ?_
  refine g_iand X0 hx (b d1_2) ?_
  refine g_istoreN X0 hx (b d1_3) (l' := #[.val (.int xv), .val (.int (xv &&& (3 : Int32))), .unset]) rfl ?_
  refine g_iloadN X0 hx (b d1_4) rfl ?_
  refine g_iconst X0 hx (2) (b d1_5) rfl ?_
  refine Go.st (fun t k => XS.iushr X0.here hx rfl (b d1_6) rfl k) ?_
  refine g_istoreN X0 hx (b d1_7) (l' := #[.val (.int xv), .val (.int (xv &&& (3 : Int32))), .val (.int ((xv.toUInt32 >>> ((2 : Int32) &&& 31).toUInt32).toInt32))]) rfl ?_
  refine g_iloadN X0 hx (b d1_8) rfl ?_
  by_cases hc1 : (xv &&& (3 : Int32)) = (0 : Int32)
  · refine g_ifNo X0 hx (b d1_9) (XT.i0_ne_f hc1) ?_
    refine g_iloadN X0 hx (b d1_12) rfl ?_
    refine g_sipush X0 hx (255) (b d1_13) rfl ?_
    refine g_iand X0 hx (b d1_16) ?_
    refine g_i2cZ X0 hx (own_c (((xv.toUInt32 >>> ((2 : Int32) &&& 31).toUInt32).toInt32) &&& (255 : Int32))) (b d1_17) rfl ?_
    have hp2 : ¬ ((own_c (own_c (((xv.toUInt32 >>> ((2 : Int32) &&& 31).toUInt32).toInt32) &&& (255 : Int32)))) < (0 : Int32)) := by
      have j1 := own_c32 (xv)
      have j2 := own_iushr xv (2 : Int32) 2 4 (by decide) (by decide) (by decide)
      have j3 : (0 : Int) ≤ (((xv.toUInt32 >>> ((2 : Int32) &&& 31).toUInt32).toInt32)).toInt ∧ (((xv.toUInt32 >>> ((2 : Int32) &&& 31).toUInt32).toInt32)).toInt ≤ 1073741823 := by constructor <;> omega
      have j4 := own_k32 (255 : Int32) (255) (by decide)
      have j5 := own_maskE32 ((xv.toUInt32 >>> ((2 : Int32) &&& 31).toUInt32).toInt32) (255 : Int32) 8 256 (by decide) (by decide) (by decide) (by decide)
      have j6 : (0 : Int) ≤ ((((xv.toUInt32 >>> ((2 : Int32) &&& 31).toUInt32).toInt32) &&& (255 : Int32))).toInt ∧ ((((xv.toUInt32 >>> ((2 : Int32) &&& 31).toUInt32).toInt32) &&& (255 : Int32))).toInt ≤ 255 := j5.2
      have j7 := own_i2cE j6 (by decide)
      have j8 : (0 : Int) ≤ ((own_c (((xv.toUInt32 >>> ((2 : Int32) &&& 31).toUInt32).toInt32) &&& (255 : Int32)))).toInt ∧ ((own_c (((xv.toUInt32 >>> ((2 : Int32) &&& 31).toUInt32).toInt32) &&& (255 : Int32)))).toInt ≤ 255 := j7.2
      have j9 := own_i2cE j8 (by decide)
      have j10 : (0 : Int) ≤ ((own_c (own_c (((xv.toUInt32 >>> ((2 : Int32) &&& 31).toUInt32).toInt32) &&& (255 : Int32))))).toInt ∧ ((own_c (own_c (((xv.toUInt32 >>> ((2 : Int32) &&& 31).toUInt32).toInt32) &&& (255 : Int32))))).toInt ≤ 255 := j9.2
      have j11 := own_k32 (0 : Int32) (0) (by decide)
      exact own_ltF32 j10 j11 (by decide)
    have hp3 : ¬ ((65535 : Int32) < (own_c (own_c (((xv.toUInt32 >>> ((2 : Int32) &&& 31).toUInt32).toInt32) &&& (255 : Int32))))) := by
      have j1 := own_k32 (65535 : Int32) (65535) (by decide)
      have j2 := own_c32 (xv)
      have j3 := own_iushr xv (2 : Int32) 2 4 (by decide) (by decide) (by decide)
      have j4 : (0 : Int) ≤ (((xv.toUInt32 >>> ((2 : Int32) &&& 31).toUInt32).toInt32)).toInt ∧ (((xv.toUInt32 >>> ((2 : Int32) &&& 31).toUInt32).toInt32)).toInt ≤ 1073741823 := by constructor <;> omega
      have j5 := own_k32 (255 : Int32) (255) (by decide)
      have j6 := own_maskE32 ((xv.toUInt32 >>> ((2 : Int32) &&& 31).toUInt32).toInt32) (255 : Int32) 8 256 (by decide) (by decide) (by decide) (by decide)
      have j7 : (0 : Int) ≤ ((((xv.toUInt32 >>> ((2 : Int32) &&& 31).toUInt32).toInt32) &&& (255 : Int32))).toInt ∧ ((((xv.toUInt32 >>> ((2 : Int32) &&& 31).toUInt32).toInt32) &&& (255 : Int32))).toInt ≤ 255 := j6.2
      have j8 := own_i2cE j7 (by decide)
      have j9 : (0 : Int) ≤ ((own_c (((xv.toUInt32 >>> ((2 : Int32) &&& 31).toUInt32).toInt32) &&& (255 : Int32)))).toInt ∧ ((own_c (((xv.toUInt32 >>> ((2 : Int32) &&& 31).toUInt32).toInt32) &&& (255 : Int32)))).toInt ≤ 255 := j8.2
      have j10 := own_i2cE j9 (by decide)
      have j11 : (0 : Int) ≤ ((own_c (own_c (((xv.toUInt32 >>> ((2 : Int32) &&& 31).toUInt32).toInt32) &&& (255 : Int32))))).toInt ∧ ((own_c (own_c (((xv.toUInt32 >>> ((2 : Int32) &&& 31).toUInt32).toInt32) &&& (255 : Int32))))).toInt ≤ 255 := j10.2
      exact own_ltF32 j1 j11 (by decide)
    exact own_eB X0 hx hret (by simp) rfl (b d1_18) e0 (by decide) ⟨(own_c (own_c (((xv.toUInt32 >>> ((2 : Int32) &&& 31).toUInt32).toInt32) &&& (255 : Int32)))), rfl, N0, rfl, hp2, hp3⟩
  · refine g_ifYes X0 hx (pc := 9) 19 (b d1_9) (XT.i0_ne_t hc1) (by decide) ?_
    refine g_iloadN X0 hx (b d1_19) rfl ?_
    refine g_iconst X0 hx (1) (b d1_20) rfl ?_
    by_cases hc4 : (xv &&& (3 : Int32)) = (1 : Int32)
    · refine g_icmpNo X0 hx (b d1_21) (XT.ii_ne_f hc4) ?_
      refine Go.st (fun t k => X0.ldcI hx hown (mvT hZ (w5 hw)) (g := (mkF m 24 #[.val (.int xv), .val (.int (xv &&& (3 : Int32))), .val (.int ((xv.toUInt32 >>> ((2 : Int32) &&& 31).toUInt32).toInt32))] [])) rfl (b d1_24) k) ?_
      refine g_iloadN X0 hx (b d1_26) rfl ?_
      refine g_sipush X0 hx (1023) (b d1_27) rfl ?_
      refine g_iand X0 hx (b d1_30) ?_
      refine g_iadd X0 hx (b d1_31) ?_
      refine g_i2cZ X0 hx (own_c ((55296 : Int32) + (((xv.toUInt32 >>> ((2 : Int32) &&& 31).toUInt32).toInt32) &&& (1023 : Int32)))) (b d1_32) rfl ?_
      have hp5 : ¬ ((own_c (own_c ((55296 : Int32) + (((xv.toUInt32 >>> ((2 : Int32) &&& 31).toUInt32).toInt32) &&& (1023 : Int32))))) < (0 : Int32)) := by
        have j1 := own_k32 (55296 : Int32) (55296) (by decide)
        have j2 := own_c32 (xv)
        have j3 := own_iushr xv (2 : Int32) 2 4 (by decide) (by decide) (by decide)
        have j4 : (0 : Int) ≤ (((xv.toUInt32 >>> ((2 : Int32) &&& 31).toUInt32).toInt32)).toInt ∧ (((xv.toUInt32 >>> ((2 : Int32) &&& 31).toUInt32).toInt32)).toInt ≤ 1073741823 := by constructor <;> omega
        have j5 := own_k32 (1023 : Int32) (1023) (by decide)
        have j6 := own_maskE32 ((xv.toUInt32 >>> ((2 : Int32) &&& 31).toUInt32).toInt32) (1023 : Int32) 10 1024 (by decide) (by decide) (by decide) (by decide)
        have j7 : (0 : Int) ≤ ((((xv.toUInt32 >>> ((2 : Int32) &&& 31).toUInt32).toInt32) &&& (1023 : Int32))).toInt ∧ ((((xv.toUInt32 >>> ((2 : Int32) &&& 31).toUInt32).toInt32) &&& (1023 : Int32))).toInt ≤ 1023 := j6.2
        have j8 := own_addE32 j1 j7 (by decide)
        have j9 : (55296 : Int) ≤ (((55296 : Int32) + (((xv.toUInt32 >>> ((2 : Int32) &&& 31).toUInt32).toInt32) &&& (1023 : Int32)))).toInt ∧ (((55296 : Int32) + (((xv.toUInt32 >>> ((2 : Int32) &&& 31).toUInt32).toInt32) &&& (1023 : Int32)))).toInt ≤ 56319 := j8.2
        have j10 := own_i2cE j9 (by decide)
        have j11 : (55296 : Int) ≤ ((own_c ((55296 : Int32) + (((xv.toUInt32 >>> ((2 : Int32) &&& 31).toUInt32).toInt32) &&& (1023 : Int32))))).toInt ∧ ((own_c ((55296 : Int32) + (((xv.toUInt32 >>> ((2 : Int32) &&& 31).toUInt32).toInt32) &&& (1023 : Int32))))).toInt ≤ 56319 := j10.2
        have j12 := own_i2cE j11 (by decide)
        have j13 : (55296 : Int) ≤ ((own_c (own_c ((55296 : Int32) + (((xv.toUInt32 >>> ((2 : Int32) &&& 31).toUInt32).toInt32) &&& (1023 : Int32)))))).toInt ∧ ((own_c (own_c ((55296 : Int32) + (((xv.toUInt32 >>> ((2 : Int32) &&& 31).toUInt32).toInt32) &&& (1023 : Int32)))))).toInt ≤ 56319 := j12.2
        have j14 := own_k32 (0 : Int32) (0) (by decide)
        exact own_ltF32 j13 j14 (by decide)
      have hp6 : ¬ ((65535 : Int32) < (own_c (own_c ((55296 : Int32) + (((xv.toUInt32 >>> ((2 : Int32) &&& 31).toUInt32).toInt32) &&& (1023 : Int32)))))) := by
        have j1 := own_k32 (65535 : Int32) (65535) (by decide)
        have j2 := own_k32 (55296 : Int32) (55296) (by decide)
        have j3 := own_c32 (xv)
        have j4 := own_iushr xv (2 : Int32) 2 4 (by decide) (by decide) (by decide)
        have j5 : (0 : Int) ≤ (((xv.toUInt32 >>> ((2 : Int32) &&& 31).toUInt32).toInt32)).toInt ∧ (((xv.toUInt32 >>> ((2 : Int32) &&& 31).toUInt32).toInt32)).toInt ≤ 1073741823 := by constructor <;> omega
        have j6 := own_k32 (1023 : Int32) (1023) (by decide)
        have j7 := own_maskE32 ((xv.toUInt32 >>> ((2 : Int32) &&& 31).toUInt32).toInt32) (1023 : Int32) 10 1024 (by decide) (by decide) (by decide) (by decide)
        have j8 : (0 : Int) ≤ ((((xv.toUInt32 >>> ((2 : Int32) &&& 31).toUInt32).toInt32) &&& (1023 : Int32))).toInt ∧ ((((xv.toUInt32 >>> ((2 : Int32) &&& 31).toUInt32).toInt32) &&& (1023 : Int32))).toInt ≤ 1023 := j7.2
        have j9 := own_addE32 j2 j8 (by decide)
        have j10 : (55296 : Int) ≤ (((55296 : Int32) + (((xv.toUInt32 >>> ((2 : Int32) &&& 31).toUInt32).toInt32) &&& (1023 : Int32)))).toInt ∧ (((55296 : Int32) + (((xv.toUInt32 >>> ((2 : Int32) &&& 31).toUInt32).toInt32) &&& (1023 : Int32)))).toInt ≤ 56319 := j9.2
        have j11 := own_i2cE j10 (by decide)
        have j12 : (55296 : Int) ≤ ((own_c ((55296 : Int32) + (((xv.toUInt32 >>> ((2 : Int32) &&& 31).toUInt32).toInt32) &&& (1023 : Int32))))).toInt ∧ ((own_c ((55296 : Int32) + (((xv.toUInt32 >>> ((2 : Int32) &&& 31).toUInt32).toInt32) &&& (1023 : Int32))))).toInt ≤ 56319 := j11.2
        have j13 := own_i2cE j12 (by decide)
        have j14 : (55296 : Int) ≤ ((own_c (own_c ((55296 : Int32) + (((xv.toUInt32 >>> ((2 : Int32) &&& 31).toUInt32).toInt32) &&& (1023 : Int32)))))).toInt ∧ ((own_c (own_c ((55296 : Int32) + (((xv.toUInt32 >>> ((2 : Int32) &&& 31).toUInt32).toInt32) &&& (1023 : Int32)))))).toInt ≤ 56319 := j13.2
        exact own_ltF32 j1 j14 (by decide)
      exact own_eB X0 hx hret (by simp) rfl (b d1_33) e0 (by decide) ⟨(own_c (own_c ((55296 : Int32) + (((xv.toUInt32 >>> ((2 : Int32) &&& 31).toUInt32).toInt32) &&& (1023 : Int32))))), rfl, N0, rfl, hp5, hp6⟩
    · refine g_icmpYes X0 hx (pc := 21) 34 (b d1_21) (XT.ii_ne_t hc4) (by decide) ?_
      refine g_iloadN X0 hx (b d1_34) rfl ?_
      refine g_iconst X0 hx (2) (b d1_35) rfl ?_
      by_cases hc7 : (xv &&& (3 : Int32)) = (2 : Int32)
      · refine g_icmpNo X0 hx (b d1_36) (XT.ii_ne_f hc7) ?_
        refine Go.st (fun t k => X0.ldcI hx hown (mvT hZ (w4 hw)) (g := (mkF m 39 #[.val (.int xv), .val (.int (xv &&& (3 : Int32))), .val (.int ((xv.toUInt32 >>> ((2 : Int32) &&& 31).toUInt32).toInt32))] [])) rfl (b d1_39) k) ?_
        refine g_iloadN X0 hx (b d1_41) rfl ?_
        refine g_sipush X0 hx (1023) (b d1_42) rfl ?_
        refine g_iand X0 hx (b d1_45) ?_
        refine g_iadd X0 hx (b d1_46) ?_
        refine g_i2cZ X0 hx (own_c ((56320 : Int32) + (((xv.toUInt32 >>> ((2 : Int32) &&& 31).toUInt32).toInt32) &&& (1023 : Int32)))) (b d1_47) rfl ?_
        have hp8 : ¬ ((own_c (own_c ((56320 : Int32) + (((xv.toUInt32 >>> ((2 : Int32) &&& 31).toUInt32).toInt32) &&& (1023 : Int32))))) < (0 : Int32)) := by
          have j1 := own_k32 (56320 : Int32) (56320) (by decide)
          have j2 := own_c32 (xv)
          have j3 := own_iushr xv (2 : Int32) 2 4 (by decide) (by decide) (by decide)
          have j4 : (0 : Int) ≤ (((xv.toUInt32 >>> ((2 : Int32) &&& 31).toUInt32).toInt32)).toInt ∧ (((xv.toUInt32 >>> ((2 : Int32) &&& 31).toUInt32).toInt32)).toInt ≤ 1073741823 := by constructor <;> omega
          have j5 := own_k32 (1023 : Int32) (1023) (by decide)
          have j6 := own_maskE32 ((xv.toUInt32 >>> ((2 : Int32) &&& 31).toUInt32).toInt32) (1023 : Int32) 10 1024 (by decide) (by decide) (by decide) (by decide)
          have j7 : (0 : Int) ≤ ((((xv.toUInt32 >>> ((2 : Int32) &&& 31).toUInt32).toInt32) &&& (1023 : Int32))).toInt ∧ ((((xv.toUInt32 >>> ((2 : Int32) &&& 31).toUInt32).toInt32) &&& (1023 : Int32))).toInt ≤ 1023 := j6.2
          have j8 := own_addE32 j1 j7 (by decide)
          have j9 : (56320 : Int) ≤ (((56320 : Int32) + (((xv.toUInt32 >>> ((2 : Int32) &&& 31).toUInt32).toInt32) &&& (1023 : Int32)))).toInt ∧ (((56320 : Int32) + (((xv.toUInt32 >>> ((2 : Int32) &&& 31).toUInt32).toInt32) &&& (1023 : Int32)))).toInt ≤ 57343 := j8.2
          have j10 := own_i2cE j9 (by decide)
          have j11 : (56320 : Int) ≤ ((own_c ((56320 : Int32) + (((xv.toUInt32 >>> ((2 : Int32) &&& 31).toUInt32).toInt32) &&& (1023 : Int32))))).toInt ∧ ((own_c ((56320 : Int32) + (((xv.toUInt32 >>> ((2 : Int32) &&& 31).toUInt32).toInt32) &&& (1023 : Int32))))).toInt ≤ 57343 := j10.2
          have j12 := own_i2cE j11 (by decide)
          have j13 : (56320 : Int) ≤ ((own_c (own_c ((56320 : Int32) + (((xv.toUInt32 >>> ((2 : Int32) &&& 31).toUInt32).toInt32) &&& (1023 : Int32)))))).toInt ∧ ((own_c (own_c ((56320 : Int32) + (((xv.toUInt32 >>> ((2 : Int32) &&& 31).toUInt32).toInt32) &&& (1023 : Int32)))))).toInt ≤ 57343 := j12.2
          have j14 := own_k32 (0 : Int32) (0) (by decide)
          exact own_ltF32 j13 j14 (by decide)
        have hp9 : ¬ ((65535 : Int32) < (own_c (own_c ((56320 : Int32) + (((xv.toUInt32 >>> ((2 : Int32) &&& 31).toUInt32).toInt32) &&& (1023 : Int32)))))) := by
          have j1 := own_k32 (65535 : Int32) (65535) (by decide)
          have j2 := own_k32 (56320 : Int32) (56320) (by decide)
          have j3 := own_c32 (xv)
          have j4 := own_iushr xv (2 : Int32) 2 4 (by decide) (by decide) (by decide)
          have j5 : (0 : Int) ≤ (((xv.toUInt32 >>> ((2 : Int32) &&& 31).toUInt32).toInt32)).toInt ∧ (((xv.toUInt32 >>> ((2 : Int32) &&& 31).toUInt32).toInt32)).toInt ≤ 1073741823 := by constructor <;> omega
          have j6 := own_k32 (1023 : Int32) (1023) (by decide)
          have j7 := own_maskE32 ((xv.toUInt32 >>> ((2 : Int32) &&& 31).toUInt32).toInt32) (1023 : Int32) 10 1024 (by decide) (by decide) (by decide) (by decide)
          have j8 : (0 : Int) ≤ ((((xv.toUInt32 >>> ((2 : Int32) &&& 31).toUInt32).toInt32) &&& (1023 : Int32))).toInt ∧ ((((xv.toUInt32 >>> ((2 : Int32) &&& 31).toUInt32).toInt32) &&& (1023 : Int32))).toInt ≤ 1023 := j7.2
          have j9 := own_addE32 j2 j8 (by decide)
          have j10 : (56320 : Int) ≤ (((56320 : Int32) + (((xv.toUInt32 >>> ((2 : Int32) &&& 31).toUInt32).toInt32) &&& (1023 : Int32)))).toInt ∧ (((56320 : Int32) + (((xv.toUInt32 >>> ((2 : Int32) &&& 31).toUInt32).toInt32) &&& (1023 : Int32)))).toInt ≤ 57343 := j9.2
          have j11 := own_i2cE j10 (by decide)
          have j12 : (56320 : Int) ≤ ((own_c ((56320 : Int32) + (((xv.toUInt32 >>> ((2 : Int32) &&& 31).toUInt32).toInt32) &&& (1023 : Int32))))).toInt ∧ ((own_c ((56320 : Int32) + (((xv.toUInt32 >>> ((2 : Int32) &&& 31).toUInt32).toInt32) &&& (1023 : Int32))))).toInt ≤ 57343 := j11.2
          have j13 := own_i2cE j12 (by decide)
          have j14 : (56320 : Int) ≤ ((own_c (own_c ((56320 : Int32) + (((xv.toUInt32 >>> ((2 : Int32) &&& 31).toUInt32).toInt32) &&& (1023 : Int32)))))).toInt ∧ ((own_c (own_c ((56320 : Int32) + (((xv.toUInt32 >>> ((2 : Int32) &&& 31).toUInt32).toInt32) &&& (1023 : Int32)))))).toInt ≤ 57343 := j13.2
          exact own_ltF32 j1 j14 (by decide)
        exact own_eB X0 hx hret (by simp) rfl (b d1_48) e0 (by decide) ⟨(own_c (own_c ((56320 : Int32) + (((xv.toUInt32 >>> ((2 : Int32) &&& 31).toUInt32).toInt32) &&& (1023 : Int32))))), rfl, N0, rfl, hp8, hp9⟩
      · refine g_icmpYes X0 hx (pc := 36) 49 (b d1_36) (XT.ii_ne_t hc7) (by decide) ?_
        refine g_iloadN X0 hx (b d1_49) rfl ?_
        refine Go.st (fun t k => X0.ldcI hx hown (mvT hZ (w6 hw)) (g := (mkF m 50 #[.val (.int xv), .val (.int (xv &&& (3 : Int32))), .val (.int ((xv.toUInt32 >>> ((2 : Int32) &&& 31).toUInt32).toInt32))] [(.int ((xv.toUInt32 >>> ((2 : Int32) &&& 31).toUInt32).toInt32))])) rfl (b d1_50) k) ?_
        refine g_iand X0 hx (b d1_52) ?_
        refine g_i2cZ X0 hx (own_c (((xv.toUInt32 >>> ((2 : Int32) &&& 31).toUInt32).toInt32) &&& (65535 : Int32))) (b d1_53) rfl ?_
        have hp10 : ¬ ((own_c (own_c (((xv.toUInt32 >>> ((2 : Int32) &&& 31).toUInt32).toInt32) &&& (65535 : Int32)))) < (0 : Int32)) := by
          have j1 := own_c32 (xv)
          have j2 := own_iushr xv (2 : Int32) 2 4 (by decide) (by decide) (by decide)
          have j3 : (0 : Int) ≤ (((xv.toUInt32 >>> ((2 : Int32) &&& 31).toUInt32).toInt32)).toInt ∧ (((xv.toUInt32 >>> ((2 : Int32) &&& 31).toUInt32).toInt32)).toInt ≤ 1073741823 := by constructor <;> omega
          have j4 := own_k32 (65535 : Int32) (65535) (by decide)
          have j5 := own_maskE32 ((xv.toUInt32 >>> ((2 : Int32) &&& 31).toUInt32).toInt32) (65535 : Int32) 16 65536 (by decide) (by decide) (by decide) (by decide)
          have j6 : (0 : Int) ≤ ((((xv.toUInt32 >>> ((2 : Int32) &&& 31).toUInt32).toInt32) &&& (65535 : Int32))).toInt ∧ ((((xv.toUInt32 >>> ((2 : Int32) &&& 31).toUInt32).toInt32) &&& (65535 : Int32))).toInt ≤ 65535 := j5.2
          have j7 := own_i2cE j6 (by decide)
          have j8 : (0 : Int) ≤ ((own_c (((xv.toUInt32 >>> ((2 : Int32) &&& 31).toUInt32).toInt32) &&& (65535 : Int32)))).toInt ∧ ((own_c (((xv.toUInt32 >>> ((2 : Int32) &&& 31).toUInt32).toInt32) &&& (65535 : Int32)))).toInt ≤ 65535 := j7.2
          have j9 := own_i2cE j8 (by decide)
          have j10 : (0 : Int) ≤ ((own_c (own_c (((xv.toUInt32 >>> ((2 : Int32) &&& 31).toUInt32).toInt32) &&& (65535 : Int32))))).toInt ∧ ((own_c (own_c (((xv.toUInt32 >>> ((2 : Int32) &&& 31).toUInt32).toInt32) &&& (65535 : Int32))))).toInt ≤ 65535 := j9.2
          have j11 := own_k32 (0 : Int32) (0) (by decide)
          exact own_ltF32 j10 j11 (by decide)
        have hp11 : ¬ ((65535 : Int32) < (own_c (own_c (((xv.toUInt32 >>> ((2 : Int32) &&& 31).toUInt32).toInt32) &&& (65535 : Int32))))) := by
          have j1 := own_k32 (65535 : Int32) (65535) (by decide)
          have j2 := own_c32 (xv)
          have j3 := own_iushr xv (2 : Int32) 2 4 (by decide) (by decide) (by decide)
          have j4 : (0 : Int) ≤ (((xv.toUInt32 >>> ((2 : Int32) &&& 31).toUInt32).toInt32)).toInt ∧ (((xv.toUInt32 >>> ((2 : Int32) &&& 31).toUInt32).toInt32)).toInt ≤ 1073741823 := by constructor <;> omega
          have j5 := own_maskE32 ((xv.toUInt32 >>> ((2 : Int32) &&& 31).toUInt32).toInt32) (65535 : Int32) 16 65536 (by decide) (by decide) (by decide) (by decide)
          have j6 : (0 : Int) ≤ ((((xv.toUInt32 >>> ((2 : Int32) &&& 31).toUInt32).toInt32) &&& (65535 : Int32))).toInt ∧ ((((xv.toUInt32 >>> ((2 : Int32) &&& 31).toUInt32).toInt32) &&& (65535 : Int32))).toInt ≤ 65535 := j5.2
          have j7 := own_i2cE j6 (by decide)
          have j8 : (0 : Int) ≤ ((own_c (((xv.toUInt32 >>> ((2 : Int32) &&& 31).toUInt32).toInt32) &&& (65535 : Int32)))).toInt ∧ ((own_c (((xv.toUInt32 >>> ((2 : Int32) &&& 31).toUInt32).toInt32) &&& (65535 : Int32)))).toInt ≤ 65535 := j7.2
          have j9 := own_i2cE j8 (by decide)
          have j10 : (0 : Int) ≤ ((own_c (own_c (((xv.toUInt32 >>> ((2 : Int32) &&& 31).toUInt32).toInt32) &&& (65535 : Int32))))).toInt ∧ ((own_c (own_c (((xv.toUInt32 >>> ((2 : Int32) &&& 31).toUInt32).toInt32) &&& (65535 : Int32))))).toInt ≤ 65535 := j9.2
          exact own_ltF32 j1 j10 (by decide)
        exact own_eB X0 hx hret (by simp) rfl (b d1_54) e0 (by decide) ⟨(own_c (own_c (((xv.toUInt32 >>> ((2 : Int32) &&& 31).toUInt32).toInt32) &&& (65535 : Int32)))), rfl, N0, rfl, hp10, hp11⟩
theorem rmH (hw : HW Z a0) (pv : Int32) (O0 : Old Z n0 h0) :
    MM l mn1 method_3_code 1 (some .boolean) (R4 0 0 0 0) #[(.int pv)] Z h0 (fun v h L => v = some (.int (own_hi pv)) ∧ Fr n0 L ∧ h = h0) := by
  refine own_hN n0 rfl pn_0 ?_
  intro p e s m below meth c s₁ hx b hml hret hZ hown hnm X0 e0 N0
  refine own_ct (mkF m 0 #[.val (.int pv)] []) rfl ?_
  refine g_iloadN X0 hx (b d26_0) rfl ?_
  refine Go.st (fun t k => X0.ldcI hx hown (mvT hZ (w5 hw)) (g := (mkF m 1 #[.val (.int pv)] [(.int pv)])) rfl (b d26_1) k) ?_
  by_cases hc1 : pv < (55296 : Int32)
  · refine g_icmpYes X0 hx (pc := 3) 16 (b d26_3) (XT.ii_lt_t hc1) (by decide) ?_
    refine g_iconst X0 hx (0) (b d26_16) rfl ?_
    have hp2 : (own_hi pv) = (0 : Int32) := by
      have j1 := own_c32 (pv)
      have j2 := own_k32 (55296 : Int32) (55296) (by decide)
      have j3 := Int32.lt_iff_toInt_lt.mp hc1
      have j4 : (-2147483648 : Int) ≤ (pv).toInt ∧ (pv).toInt ≤ 55295 := by constructor <;> omega
      have j5 := own_hl pv
      have j6 := own_hi0 j4 (by decide)
      have j7 : (0 : Int) ≤ ((own_hi pv)).toInt ∧ ((own_hi pv)).toInt ≤ 0 := j6
      have j8 := own_k32 (0 : Int32) (0) (by decide)
      have j9 := Int32.lt_iff_toInt_lt.mp hc1
      rw [← Int32.toInt_inj]
      omega
    exact own_eB X0 hx hret (by simp) rfl (b d26_17) e0 (by decide) ⟨(congrArg (fun z => some (Value.int z)) hp2.symm), N0, rfl⟩
  · refine g_icmpNo X0 hx (b d26_3) (XT.ii_lt_f hc1) ?_
    refine g_iloadN X0 hx (b d26_6) rfl ?_
    refine Go.st (fun t k => X0.ldcI hx hown (mvT hZ (w122 hw)) (g := (mkF m 7 #[.val (.int pv)] [(.int pv)])) rfl (b d26_7) k) ?_
    by_cases hc3 : (56319 : Int32) < pv
    · refine g_icmpYes X0 hx (pc := 9) 16 (b d26_9) (XT.ii_gt_t hc3) (by decide) ?_
      refine g_iconst X0 hx (0) (b d26_16) rfl ?_
      have hp4 : (own_hi pv) = (0 : Int32) := by
        have j1 := own_c32 (pv)
        have j2 := own_k32 (55296 : Int32) (55296) (by decide)
        have j3 := own_nlt32 hc1
        have j4 := own_k32 (56319 : Int32) (56319) (by decide)
        have j5 := Int32.lt_iff_toInt_lt.mp hc3
        have j6 : (56320 : Int) ≤ (pv).toInt ∧ (pv).toInt ≤ 2147483647 := by constructor <;> omega
        have j7 := own_hl pv
        have j8 := own_hi0 j6 (by decide)
        have j9 : (0 : Int) ≤ ((own_hi pv)).toInt ∧ ((own_hi pv)).toInt ≤ 0 := j8
        have j10 := own_k32 (0 : Int32) (0) (by decide)
        have j11 := own_nlt32 hc1
        have j12 := Int32.lt_iff_toInt_lt.mp hc3
        rw [← Int32.toInt_inj]
        omega
      exact own_eB X0 hx hret (by simp) rfl (b d26_17) e0 (by decide) ⟨(congrArg (fun z => some (Value.int z)) hp4.symm), N0, rfl⟩
    · refine g_icmpNo X0 hx (b d26_9) (XT.ii_gt_f hc3) ?_
      refine g_iconst X0 hx (1) (b d26_12) rfl ?_
      refine g_goto X0 hx (pc := 13) 17 (b d26_13) (by decide) ?_
      have hp5 : (own_hi pv) = (1 : Int32) := by
        have j1 := own_c32 (pv)
        have j2 := own_k32 (55296 : Int32) (55296) (by decide)
        have j3 := own_nlt32 hc1
        have j4 := own_k32 (56319 : Int32) (56319) (by decide)
        have j5 := own_nlt32 hc3
        have j6 : (55296 : Int) ≤ (pv).toInt ∧ (pv).toInt ≤ 56319 := by constructor <;> omega
        have j7 := own_hl pv
        have j8 := own_hi1 j6 (by decide)
        have j9 : (1 : Int) ≤ ((own_hi pv)).toInt ∧ ((own_hi pv)).toInt ≤ 1 := j8
        have j10 := own_k32 (1 : Int32) (1) (by decide)
        have j11 := own_nlt32 hc1
        have j12 := own_nlt32 hc3
        rw [← Int32.toInt_inj]
        omega
      exact own_eB X0 hx hret (by simp) rfl (b d26_17) e0 (by decide) ⟨(congrArg (fun z => some (Value.int z)) hp5.symm), N0, rfl⟩
theorem rmL (hw : HW Z a0) (pv : Int32) (O0 : Old Z n0 h0) :
    MM l mn2 method_4_code 1 (some .boolean) (R4 0 0 0 0) #[(.int pv)] Z h0 (fun v h L => v = some (.int (own_lo pv)) ∧ Fr n0 L ∧ h = h0) := by
  refine own_hN n0 rfl pn_0 ?_
  intro p e s m below meth c s₁ hx b hml hret hZ hown hnm X0 e0 N0
  refine own_ct (mkF m 0 #[.val (.int pv)] []) rfl ?_
  refine g_iloadN X0 hx (b d28_0) rfl ?_
  refine Go.st (fun t k => X0.ldcI hx hown (mvT hZ (w4 hw)) (g := (mkF m 1 #[.val (.int pv)] [(.int pv)])) rfl (b d28_1) k) ?_
  by_cases hc1 : pv < (56320 : Int32)
  · refine g_icmpYes X0 hx (pc := 3) 16 (b d28_3) (XT.ii_lt_t hc1) (by decide) ?_
    refine g_iconst X0 hx (0) (b d28_16) rfl ?_
    have hp2 : (own_lo pv) = (0 : Int32) := by
      have j1 := own_c32 (pv)
      have j2 := own_k32 (56320 : Int32) (56320) (by decide)
      have j3 := Int32.lt_iff_toInt_lt.mp hc1
      have j4 : (-2147483648 : Int) ≤ (pv).toInt ∧ (pv).toInt ≤ 56319 := by constructor <;> omega
      have j5 := own_hl pv
      have j6 := own_lo0 j4 (by decide)
      have j7 : (0 : Int) ≤ ((own_lo pv)).toInt ∧ ((own_lo pv)).toInt ≤ 0 := j6
      have j8 := own_k32 (0 : Int32) (0) (by decide)
      have j9 := Int32.lt_iff_toInt_lt.mp hc1
      rw [← Int32.toInt_inj]
      omega
    exact own_eB X0 hx hret (by simp) rfl (b d28_17) e0 (by decide) ⟨(congrArg (fun z => some (Value.int z)) hp2.symm), N0, rfl⟩
  · refine g_icmpNo X0 hx (b d28_3) (XT.ii_lt_f hc1) ?_
    refine g_iloadN X0 hx (b d28_6) rfl ?_
    refine Go.st (fun t k => X0.ldcI hx hown (mvT hZ (w127 hw)) (g := (mkF m 7 #[.val (.int pv)] [(.int pv)])) rfl (b d28_7) k) ?_
    by_cases hc3 : (57343 : Int32) < pv
    · refine g_icmpYes X0 hx (pc := 9) 16 (b d28_9) (XT.ii_gt_t hc3) (by decide) ?_
      refine g_iconst X0 hx (0) (b d28_16) rfl ?_
      have hp4 : (own_lo pv) = (0 : Int32) := by
        have j1 := own_c32 (pv)
        have j2 := own_k32 (56320 : Int32) (56320) (by decide)
        have j3 := own_nlt32 hc1
        have j4 := own_k32 (57343 : Int32) (57343) (by decide)
        have j5 := Int32.lt_iff_toInt_lt.mp hc3
        have j6 : (57344 : Int) ≤ (pv).toInt ∧ (pv).toInt ≤ 2147483647 := by constructor <;> omega
        have j7 := own_hl pv
        have j8 := own_lo0 j6 (by decide)
        have j9 : (0 : Int) ≤ ((own_lo pv)).toInt ∧ ((own_lo pv)).toInt ≤ 0 := j8
        have j10 := own_k32 (0 : Int32) (0) (by decide)
        have j11 := own_nlt32 hc1
        have j12 := Int32.lt_iff_toInt_lt.mp hc3
        rw [← Int32.toInt_inj]
        omega
      exact own_eB X0 hx hret (by simp) rfl (b d28_17) e0 (by decide) ⟨(congrArg (fun z => some (Value.int z)) hp4.symm), N0, rfl⟩
    · refine g_icmpNo X0 hx (b d28_9) (XT.ii_gt_f hc3) ?_
      refine g_iconst X0 hx (1) (b d28_12) rfl ?_
      refine g_goto X0 hx (pc := 13) 17 (b d28_13) (by decide) ?_
      have hp5 : (own_lo pv) = (1 : Int32) := by
        have j1 := own_c32 (pv)
        have j2 := own_k32 (56320 : Int32) (56320) (by decide)
        have j3 := own_nlt32 hc1
        have j4 := own_k32 (57343 : Int32) (57343) (by decide)
        have j5 := own_nlt32 hc3
        have j6 : (56320 : Int) ≤ (pv).toInt ∧ (pv).toInt ≤ 57343 := by constructor <;> omega
        have j7 := own_hl pv
        have j8 := own_lo1 j6 (by decide)
        have j9 : (1 : Int) ≤ ((own_lo pv)).toInt ∧ ((own_lo pv)).toInt ≤ 1 := j8
        have j10 := own_k32 (1 : Int32) (1) (by decide)
        have j11 := own_nlt32 hc1
        have j12 := own_nlt32 hc3
        rw [← Int32.toInt_inj]
        omega
      exact own_eB X0 hx hret (by simp) rfl (b d28_17) e0 (by decide) ⟨(congrArg (fun z => some (Value.int z)) hp5.symm), N0, rfl⟩
theorem rmHJ (hw : HW Z a0) (pv : Int32) (O0 : Old Z n0 h0) :
    MM l mn3 jdk_89_method_14_code 1 (some .boolean) (R4 0 0 0 0) #[(.int pv)] Z h0 (fun v h L => v = some (.int (own_hi pv)) ∧ Fr n0 L ∧ h = h0) := by
  refine own_hN n0 rfl pn_1 ?_
  intro p e s m below meth c s₁ hx b hml hret hZ hown hnm X0 e0 N0
  refine own_ct (mkF m 0 #[.val (.int pv)] []) rfl ?_
  refine g_iloadN X0 hx (b d24_0) rfl ?_
  refine Go.st (fun t k => X0.ldcI hx hown (mvT hZ (w111 hw)) (g := (mkF m 1 #[.val (.int pv)] [(.int pv)])) rfl (b d24_1) k) ?_
  by_cases hc1 : pv < (55296 : Int32)
  · refine g_icmpYes X0 hx (pc := 3) 16 (b d24_3) (XT.ii_lt_t hc1) (by decide) ?_
    refine g_iconst X0 hx (0) (b d24_16) rfl ?_
    have hp2 : (own_hi pv) = (0 : Int32) := by
      have j1 := own_c32 (pv)
      have j2 := own_k32 (55296 : Int32) (55296) (by decide)
      have j3 := Int32.lt_iff_toInt_lt.mp hc1
      have j4 : (-2147483648 : Int) ≤ (pv).toInt ∧ (pv).toInt ≤ 55295 := by constructor <;> omega
      have j5 := own_hl pv
      have j6 := own_hi0 j4 (by decide)
      have j7 : (0 : Int) ≤ ((own_hi pv)).toInt ∧ ((own_hi pv)).toInt ≤ 0 := j6
      have j8 := own_k32 (0 : Int32) (0) (by decide)
      have j9 := Int32.lt_iff_toInt_lt.mp hc1
      rw [← Int32.toInt_inj]
      omega
    exact own_eB X0 hx hret (by simp) rfl (b d24_17) e0 (by decide) ⟨(congrArg (fun z => some (Value.int z)) hp2.symm), N0, rfl⟩
  · refine g_icmpNo X0 hx (b d24_3) (XT.ii_lt_f hc1) ?_
    refine g_iloadN X0 hx (b d24_6) rfl ?_
    refine Go.st (fun t k => X0.ldcI hx hown (mvT hZ (w118 hw)) (g := (mkF m 7 #[.val (.int pv)] [(.int pv)])) rfl (b d24_7) k) ?_
    by_cases hc3 : pv < (56320 : Int32)
    · refine g_icmpNo X0 hx (b d24_9) (XT.ii_ge_f hc3) ?_
      refine g_iconst X0 hx (1) (b d24_12) rfl ?_
      refine g_goto X0 hx (pc := 13) 17 (b d24_13) (by decide) ?_
      have hp4 : (own_hi pv) = (1 : Int32) := by
        have j1 := own_c32 (pv)
        have j2 := own_k32 (55296 : Int32) (55296) (by decide)
        have j3 := own_nlt32 hc1
        have j4 := own_k32 (56320 : Int32) (56320) (by decide)
        have j5 := Int32.lt_iff_toInt_lt.mp hc3
        have j6 : (55296 : Int) ≤ (pv).toInt ∧ (pv).toInt ≤ 56319 := by constructor <;> omega
        have j7 := own_hl pv
        have j8 := own_hi1 j6 (by decide)
        have j9 : (1 : Int) ≤ ((own_hi pv)).toInt ∧ ((own_hi pv)).toInt ≤ 1 := j8
        have j10 := own_k32 (1 : Int32) (1) (by decide)
        have j11 := own_nlt32 hc1
        have j12 := Int32.lt_iff_toInt_lt.mp hc3
        rw [← Int32.toInt_inj]
        omega
      exact own_eB X0 hx hret (by simp) rfl (b d24_17) e0 (by decide) ⟨(congrArg (fun z => some (Value.int z)) hp4.symm), N0, rfl⟩
    · refine g_icmpYes X0 hx (pc := 9) 16 (b d24_9) (XT.ii_ge_t hc3) (by decide) ?_
      refine g_iconst X0 hx (0) (b d24_16) rfl ?_
      have hp5 : (own_hi pv) = (0 : Int32) := by
        have j1 := own_c32 (pv)
        have j2 := own_k32 (55296 : Int32) (55296) (by decide)
        have j3 := own_nlt32 hc1
        have j4 := own_k32 (56320 : Int32) (56320) (by decide)
        have j5 := own_nlt32 hc3
        have j6 : (56320 : Int) ≤ (pv).toInt ∧ (pv).toInt ≤ 2147483647 := by constructor <;> omega
        have j7 := own_hl pv
        have j8 := own_hi0 j6 (by decide)
        have j9 : (0 : Int) ≤ ((own_hi pv)).toInt ∧ ((own_hi pv)).toInt ≤ 0 := j8
        have j10 := own_k32 (0 : Int32) (0) (by decide)
        have j11 := own_nlt32 hc1
        have j12 := own_nlt32 hc3
        rw [← Int32.toInt_inj]
        omega
      exact own_eB X0 hx hret (by simp) rfl (b d24_17) e0 (by decide) ⟨(congrArg (fun z => some (Value.int z)) hp5.symm), N0, rfl⟩
theorem rmLJ (hw : HW Z a0) (pv : Int32) (O0 : Old Z n0 h0) :
    MM l mn4 jdk_89_method_15_code 1 (some .boolean) (R4 0 0 0 0) #[(.int pv)] Z h0 (fun v h L => v = some (.int (own_lo pv)) ∧ Fr n0 L ∧ h = h0) := by
  refine own_hN n0 rfl pn_1 ?_
  intro p e s m below meth c s₁ hx b hml hret hZ hown hnm X0 e0 N0
  refine own_ct (mkF m 0 #[.val (.int pv)] []) rfl ?_
  refine g_iloadN X0 hx (b d27_0) rfl ?_
  refine Go.st (fun t k => X0.ldcI hx hown (mvT hZ (w118 hw)) (g := (mkF m 1 #[.val (.int pv)] [(.int pv)])) rfl (b d27_1) k) ?_
  by_cases hc1 : pv < (56320 : Int32)
  · refine g_icmpYes X0 hx (pc := 3) 16 (b d27_3) (XT.ii_lt_t hc1) (by decide) ?_
    refine g_iconst X0 hx (0) (b d27_16) rfl ?_
    have hp2 : (own_lo pv) = (0 : Int32) := by
      have j1 := own_c32 (pv)
      have j2 := own_k32 (56320 : Int32) (56320) (by decide)
      have j3 := Int32.lt_iff_toInt_lt.mp hc1
      have j4 : (-2147483648 : Int) ≤ (pv).toInt ∧ (pv).toInt ≤ 56319 := by constructor <;> omega
      have j5 := own_hl pv
      have j6 := own_lo0 j4 (by decide)
      have j7 : (0 : Int) ≤ ((own_lo pv)).toInt ∧ ((own_lo pv)).toInt ≤ 0 := j6
      have j8 := own_k32 (0 : Int32) (0) (by decide)
      have j9 := Int32.lt_iff_toInt_lt.mp hc1
      rw [← Int32.toInt_inj]
      omega
    exact own_eB X0 hx hret (by simp) rfl (b d27_17) e0 (by decide) ⟨(congrArg (fun z => some (Value.int z)) hp2.symm), N0, rfl⟩
  · refine g_icmpNo X0 hx (b d27_3) (XT.ii_lt_f hc1) ?_
    refine g_iloadN X0 hx (b d27_6) rfl ?_
    refine Go.st (fun t k => X0.ldcI hx hown (mvT hZ (w126 hw)) (g := (mkF m 7 #[.val (.int pv)] [(.int pv)])) rfl (b d27_7) k) ?_
    by_cases hc3 : pv < (57344 : Int32)
    · refine g_icmpNo X0 hx (b d27_9) (XT.ii_ge_f hc3) ?_
      refine g_iconst X0 hx (1) (b d27_12) rfl ?_
      refine g_goto X0 hx (pc := 13) 17 (b d27_13) (by decide) ?_
      have hp4 : (own_lo pv) = (1 : Int32) := by
        have j1 := own_c32 (pv)
        have j2 := own_k32 (56320 : Int32) (56320) (by decide)
        have j3 := own_nlt32 hc1
        have j4 := own_k32 (57344 : Int32) (57344) (by decide)
        have j5 := Int32.lt_iff_toInt_lt.mp hc3
        have j6 : (56320 : Int) ≤ (pv).toInt ∧ (pv).toInt ≤ 57343 := by constructor <;> omega
        have j7 := own_hl pv
        have j8 := own_lo1 j6 (by decide)
        have j9 : (1 : Int) ≤ ((own_lo pv)).toInt ∧ ((own_lo pv)).toInt ≤ 1 := j8
        have j10 := own_k32 (1 : Int32) (1) (by decide)
        have j11 := own_nlt32 hc1
        have j12 := Int32.lt_iff_toInt_lt.mp hc3
        rw [← Int32.toInt_inj]
        omega
      exact own_eB X0 hx hret (by simp) rfl (b d27_17) e0 (by decide) ⟨(congrArg (fun z => some (Value.int z)) hp4.symm), N0, rfl⟩
    · refine g_icmpYes X0 hx (pc := 9) 16 (b d27_9) (XT.ii_ge_t hc3) (by decide) ?_
      refine g_iconst X0 hx (0) (b d27_16) rfl ?_
      have hp5 : (own_lo pv) = (0 : Int32) := by
        have j1 := own_c32 (pv)
        have j2 := own_k32 (56320 : Int32) (56320) (by decide)
        have j3 := own_nlt32 hc1
        have j4 := own_k32 (57344 : Int32) (57344) (by decide)
        have j5 := own_nlt32 hc3
        have j6 : (57344 : Int) ≤ (pv).toInt ∧ (pv).toInt ≤ 2147483647 := by constructor <;> omega
        have j7 := own_hl pv
        have j8 := own_lo0 j6 (by decide)
        have j9 : (0 : Int) ≤ ((own_lo pv)).toInt ∧ ((own_lo pv)).toInt ≤ 0 := j8
        have j10 := own_k32 (0 : Int32) (0) (by decide)
        have j11 := own_nlt32 hc1
        have j12 := own_nlt32 hc3
        rw [← Int32.toInt_inj]
        omega
      exact own_eB X0 hx hret (by simp) rfl (b d27_17) e0 (by decide) ⟨(congrArg (fun z => some (Value.int z)) hp5.symm), N0, rfl⟩
theorem rmQ (hw : HW Z a0) (av bv : Int32) (O0 : Old Z n0 h0) :
    MM l mn5 method_5_code 3 (some .int) (R4 1 0 0 12) #[(.int av), (.int bv), (.int (1 : Int32))] Z h0 (fun v h L => v = some (.int (own_pr av bv)) ∧ Fr n0 L ∧ h = h0) := by
  refine own_hN n0 rfl pn_0 ?_
  intro p e s m below meth c s₁ hx b hml hret hZ hown hnm X0 e0 N0
  refine own_ct (mkF m 0 #[.val (.int av), .val (.int bv), .val (.int (1 : Int32))] []) rfl ?_
  refine g_iloadN X0 hx (b d25_0) rfl ?_
  refine g_ifNo X0 hx (b d25_1) (XT.i0_eq_f (by decide : ¬ ((1 : Int32) = (0 : Int32)))) ?_
  refine g_iloadN X0 hx (b d25_4) rfl ?_
  refine own_cS X0 hx hZ hown (w115 hw) (w116 hw) (w2 hw) (w117 hw) (rmH hw av O0) e0 0 (by decide) (by decide) (by rw [hml]; rfl) [(.int av)] [] (lenOf pd_0 rfl) rfl rfl (Nat.le_of_eq rfl) (b d25_5) ?_
  rintro T1 _ L1 X1 ⟨rfl, M1, eh1⟩
  have N1 := Fr.app N0 M1
  by_cases hc2 : (own_hi av) = (0 : Int32)
  · refine g_ifYes X1 hx (pc := 8) 20 (b d25_8) (XT.i0_eq_t hc2) (by decide) ?_
    refine g_iconst X1 hx (0) (b d25_20) rfl ?_
    exact own_eI X1 hx hret (b d25_21) eh1 (by decide) ⟨(congrArg (fun z => some (Value.int z)) (own_pr0a (b := bv) hc2).symm), N1, rfl⟩
  · refine g_ifNo X1 hx (b d25_8) (XT.i0_eq_f hc2) ?_
    refine g_iloadN X1 hx (b d25_11) rfl ?_
    refine own_cS X1 hx hZ hown (w123 hw) (w124 hw) (w2 hw) (w125 hw) (rmL hw bv O0) eh1 0 (by decide) (by decide) (by rw [hml]; rfl) [(.int bv)] [] (lenOf pd_0 rfl) rfl rfl (Nat.le_of_eq rfl) (b d25_12) ?_
    rintro T3 _ L3 X3 ⟨rfl, M3, eh3⟩
    have N3 := Fr.app N1 M3
    by_cases hc4 : (own_lo bv) = (0 : Int32)
    · refine g_ifYes X3 hx (pc := 15) 20 (b d25_15) (XT.i0_eq_t hc4) (by decide) ?_
      refine g_iconst X3 hx (0) (b d25_20) rfl ?_
      exact own_eI X3 hx hret (b d25_21) eh3 (by decide) ⟨(congrArg (fun z => some (Value.int z)) (own_pr0b (a := av) hc4).symm), N3, rfl⟩
    · refine g_ifNo X3 hx (b d25_15) (XT.i0_eq_f hc4) ?_
      refine g_iconst X3 hx (1) (b d25_18) rfl ?_
      exact own_eI X3 hx hret (b d25_19) eh3 (by decide) ⟨(congrArg (fun z => some (Value.int z)) (own_pr1 hc2 hc4).symm), N3, rfl⟩
theorem rmC1 (hw : HW Z a0) (ov : Addr) (kv : ClassId) (Xv0 : Int32) (O0 : Old Z n0 h0) (MF1 : Arv Z h0 ov kv .byte (2 : Int32) [(.int (own_b0 Xv0)), (.int (own_b8 Xv0))] (.int (0 : Int32))) (Mp1 : ¬ (Xv0 < (0 : Int32))) (Mp2 : ¬ ((65535 : Int32) < Xv0)) (P4 : Sta Z Z.heap "java/lang/StringUTF16" "$assertionsDisabled" "Z" (.int (1 : Int32))) :
    MM l mn6 jdk_52_method_11_code 6 (some .int) (R4 0 0 0 0) #[(.ref ov), (.int (0 : Int32)), (.int (1 : Int32)), (.int (0 : Int32))] Z h0 (fun v h L => v = some (.int (1 : Int32)) ∧ Fr n0 L ∧ h = h0) := by
  refine own_hN n0 rfl pn_2 ?_
  intro p e s m below meth c s₁ hx b hml hret hZ hown hnm X0 e0 N0
  refine own_ct (mkF m 0 #[.val (.ref ov), .val (.int (0 : Int32)), .val (.int (1 : Int32)), .val (.int (0 : Int32)), .unset, .unset] []) rfl ?_
  obtain ⟨T1, X1, e1, st1⟩ := getS2 X0 hx hZ hown (host := "") (Or.inl (w63 hw)) Via.refl e0 (P4.ext O0.2) (g := (mkF m 0 #[.val (.ref ov), .val (.int (0 : Int32)), .val (.int (1 : Int32)), .val (.int (0 : Int32)), .unset, .unset] [])) rfl (b d23_0)
  refine Go.st st1 ?_
  refine g_ifYes X1 hx (pc := 3) 19 (b d23_3) (XT.i0_ne_t (by decide : ¬ ((1 : Int32) = (0 : Int32)))) (by decide) ?_
  refine g_iloadN X1 hx (b d23_19) rfl ?_
  refine g_iloadN X1 hx (b d23_20) rfl ?_
  refine g_isubZ X1 hx (1 : Int32) (b d23_21) rfl ?_
  refine g_istore X1 hx (b d23_22) (l' := #[.val (.ref ov), .val (.int (0 : Int32)), .val (.int (1 : Int32)), .val (.int (0 : Int32)), .val (.int (1 : Int32)), .unset]) rfl ?_
  refine g_iloadN X1 hx (b d23_24) rfl ?_
  refine g_istore X1 hx (b d23_25) (l' := #[.val (.ref ov), .val (.int (0 : Int32)), .val (.int (1 : Int32)), .val (.int (0 : Int32)), .val (.int (1 : Int32)), .val (.int (0 : Int32))]) rfl ?_
  refine g_iloadN X1 hx (b d23_27) rfl ?_
  refine g_ifYes X1 hx (pc := 28) 44 (b d23_28) (XT.i0_eq_t (by decide : (0 : Int32) = (0 : Int32))) (by decide) ?_
  show Go p e below _ (T1.setTop (mkF m 44 #[.val (.ref ov), .val (.int (0 : Int32)), .val (.int (1 : Int32)), .val (.int (0 : Int32)), .val (.int (1 : Int32)), .val (.int (0 : Int32))] []))
  refine g_iload X1 hx (b d23_44) rfl ?_
  refine g_iloadN X1 hx (b d23_46) rfl ?_
  refine g_iconst X1 hx (1) (b d23_47) rfl ?_
  refine g_isubZ X1 hx (0 : Int32) (b d23_48) rfl ?_
  refine g_icmpYes X1 hx (pc := 49) 88 (b d23_49) (XT.ii_ge_t (by decide : ¬ ((0 : Int32) < (0 : Int32)))) (by decide) ?_
  refine g_iload X1 hx (b d23_88) rfl ?_
  exact own_eI X1 hx hret (b d23_90) e1 (by decide) ⟨rfl, N0, rfl⟩
theorem rm14_1 (hw : HW Z a0) (a1 : Addr) (kz2 : ClassId) (p3 p4 : Int32) (O0 : Old Z n0 h0) (P1 : Sta Z Z.heap "java/lang/StringUTF16" "$assertionsDisabled" "Z" (.int (1 : Int32))) (P2 : Arv Z h0 a1 kz2 .byte (4 : Int32) [(.int (own_b0 p3)), (.int (own_b8 p3)), (.int (own_b0 p4)), (.int (own_b8 p4))] (.int (0 : Int32))) (P3 : Sta Z Z.heap "java/lang/StringUTF16" "HI_BYTE_SHIFT" "I" (.int (0 : Int32))) (P4 : Sta Z Z.heap "java/lang/StringUTF16" "LO_BYTE_SHIFT" "I" (.int (8 : Int32))) :
    MM l mn7 jdk_52_method_5_code 2 (some .char) (R4 0 0 0 0) #[(.ref a1), (.int (0 : Int32))] Z h0 (fun v h L => v = some (.int (own_c (own_c ((((own_b0 p3) &&& (255 : Int32)) <<< ((0 : Int32) &&& 31)) ||| (((own_b8 p3) &&& (255 : Int32)) <<< ((8 : Int32) &&& 31)))))) ∧ Fr n0 L ∧ h = h0) := by
  refine own_hN n0 rfl pn_2 ?_
  intro p e s m below meth c s₁ hx b hml hret hZ hown hnm X0 e0 N0
  refine own_ct (mkF m 0 #[.val (.ref a1), .val (.int (0 : Int32))] []) rfl ?_
  obtain ⟨T1, X1, e1, st1⟩ := getS2 X0 hx hZ hown (host := "") (Or.inl (w63 hw)) Via.refl e0 (P1.ext O0.2) (g := (mkF m 0 #[.val (.ref a1), .val (.int (0 : Int32))] [])) rfl (b d14_0)
  refine Go.st st1 ?_
  refine g_ifYes X1 hx (pc := 3) 28 (b d14_3) (XT.i0_ne_t (by decide : ¬ ((1 : Int32) = (0 : Int32)))) (by decide) ?_
  refine g_iloadN X1 hx (b d14_28) rfl ?_
  refine g_iconst X1 hx (1) (b d14_29) rfl ?_
  refine g_ishlZ X1 hx (0 : Int32) (b d14_30) rfl ?_
  refine g_istoreN X1 hx (b d14_31) (l' := #[.val (.ref a1), .val (.int (0 : Int32))]) rfl ?_
  refine g_aloadN X1 hx (b d14_32) rfl rfl ?_
  refine g_iloadN X1 hx (b d14_33) rfl ?_
  refine g_iinc X1 hx (b d14_34) rfl (l' := #[.val (.ref a1), .val (.int (1 : Int32))]) rfl ?_
  obtain ⟨cl2, Ar2, q2, S2, M2, H2, G2⟩ := id P2
  have hin2 : ¬ ((0 : Int32) < 0 ∨ cl2.slots.size ≤ ((0 : Int32)).toNatClampNeg) := inb_of S2 ⟨by decide, by decide⟩
  have hat2 : cl2.slots[((0 : Int32)).toNatClampNeg]? = some (.int (own_b0 p3)) := H2.at hin2 rfl
  refine Go.st (fun t k => X1.baloadBytes hx (j := (0 : Int32)) (v := (.int (own_b0 p3))) (by rw [e1]; exact Ar2.1) (State.isArrayOf_alike hZ.alike Ar2.2.1) Ar2.2.2 hin2 hat2 (g := (mkF m 37 #[.val (.ref a1), .val (.int (1 : Int32))] [(.int (0 : Int32)), (.ref a1)])) rfl rfl (b d14_37) t k) ?_
  refine g_sipush X1 hx (255) (b d14_38) rfl ?_
  refine g_iand X1 hx (b d14_41) ?_
  obtain ⟨T3, X3, e3, st3⟩ := getS2 X1 hx hZ hown (host := "") (Or.inl (w64 hw)) Via.refl e1 (P3.ext O0.2) (g := (mkF m 42 #[.val (.ref a1), .val (.int (1 : Int32))] [(.int ((own_b0 p3) &&& (255 : Int32)))])) rfl (b d14_42)
  refine Go.st st3 ?_
  refine g_ishl X3 hx (b d14_45) ?_
  refine g_aloadN X3 hx (b d14_46) rfl rfl ?_
  refine g_iloadN X3 hx (b d14_47) rfl ?_
  obtain ⟨cl4, Ar4, q4, S4, M4, H4, G4⟩ := id P2
  have hin4 : ¬ ((1 : Int32) < 0 ∨ cl4.slots.size ≤ ((1 : Int32)).toNatClampNeg) := inb_of S4 ⟨by decide, by decide⟩
  have hat4 : cl4.slots[((1 : Int32)).toNatClampNeg]? = some (.int (own_b8 p3)) := H4.at hin4 rfl
  refine Go.st (fun t k => X3.baloadBytes hx (j := (1 : Int32)) (v := (.int (own_b8 p3))) (by rw [e3]; exact Ar4.1) (State.isArrayOf_alike hZ.alike Ar4.2.1) Ar4.2.2 hin4 hat4 (g := (mkF m 48 #[.val (.ref a1), .val (.int (1 : Int32))] [(.int (1 : Int32)), (.ref a1), (.int (((own_b0 p3) &&& (255 : Int32)) <<< ((0 : Int32) &&& 31)))])) rfl rfl (b d14_48) t k) ?_
  refine g_sipush X3 hx (255) (b d14_49) rfl ?_
  refine g_iand X3 hx (b d14_52) ?_
  obtain ⟨T5, X5, e5, st5⟩ := getS2 X3 hx hZ hown (host := "") (Or.inl (w65 hw)) Via.refl e3 (P4.ext O0.2) (g := (mkF m 53 #[.val (.ref a1), .val (.int (1 : Int32))] [(.int ((own_b8 p3) &&& (255 : Int32))), (.int (((own_b0 p3) &&& (255 : Int32)) <<< ((0 : Int32) &&& 31)))])) rfl (b d14_53)
  refine Go.st st5 ?_
  refine g_ishl X5 hx (b d14_56) ?_
  refine g_ior X5 hx (b d14_57) ?_
  refine g_i2cZ X5 hx (own_c ((((own_b0 p3) &&& (255 : Int32)) <<< ((0 : Int32) &&& 31)) ||| (((own_b8 p3) &&& (255 : Int32)) <<< ((8 : Int32) &&& 31)))) (b d14_58) rfl ?_
  exact own_eB X5 hx hret (by simp) rfl (b d14_59) e5 (by decide) ⟨rfl, N0, rfl⟩
theorem rm14_2 (hw : HW Z a0) (a1 : Addr) (kz2 : ClassId) (p3 p4 : Int32) (O0 : Old Z n0 h0) (P1 : Sta Z Z.heap "java/lang/StringUTF16" "$assertionsDisabled" "Z" (.int (1 : Int32))) (P2 : Arv Z h0 a1 kz2 .byte (4 : Int32) [(.int (own_b0 p3)), (.int (own_b8 p3)), (.int (own_b0 p4)), (.int (own_b8 p4))] (.int (0 : Int32))) (P3 : Sta Z Z.heap "java/lang/StringUTF16" "HI_BYTE_SHIFT" "I" (.int (0 : Int32))) (P4 : Sta Z Z.heap "java/lang/StringUTF16" "LO_BYTE_SHIFT" "I" (.int (8 : Int32))) :
    MM l mn7 jdk_52_method_5_code 2 (some .char) (R4 0 0 0 0) #[(.ref a1), (.int (1 : Int32))] Z h0 (fun v h L => v = some (.int (own_c (own_c ((((own_b0 p4) &&& (255 : Int32)) <<< ((0 : Int32) &&& 31)) ||| (((own_b8 p4) &&& (255 : Int32)) <<< ((8 : Int32) &&& 31)))))) ∧ Fr n0 L ∧ h = h0) := by
  refine own_hN n0 rfl pn_2 ?_
  intro p e s m below meth c s₁ hx b hml hret hZ hown hnm X0 e0 N0
  refine own_ct (mkF m 0 #[.val (.ref a1), .val (.int (1 : Int32))] []) rfl ?_
  obtain ⟨T1, X1, e1, st1⟩ := getS2 X0 hx hZ hown (host := "") (Or.inl (w63 hw)) Via.refl e0 (P1.ext O0.2) (g := (mkF m 0 #[.val (.ref a1), .val (.int (1 : Int32))] [])) rfl (b d14_0)
  refine Go.st st1 ?_
  refine g_ifYes X1 hx (pc := 3) 28 (b d14_3) (XT.i0_ne_t (by decide : ¬ ((1 : Int32) = (0 : Int32)))) (by decide) ?_
  refine g_iloadN X1 hx (b d14_28) rfl ?_
  refine g_iconst X1 hx (1) (b d14_29) rfl ?_
  refine g_ishlZ X1 hx (2 : Int32) (b d14_30) rfl ?_
  refine g_istoreN X1 hx (b d14_31) (l' := #[.val (.ref a1), .val (.int (2 : Int32))]) rfl ?_
  refine g_aloadN X1 hx (b d14_32) rfl rfl ?_
  refine g_iloadN X1 hx (b d14_33) rfl ?_
  refine g_iinc X1 hx (b d14_34) rfl (l' := #[.val (.ref a1), .val (.int (3 : Int32))]) rfl ?_
  obtain ⟨cl2, Ar2, q2, S2, M2, H2, G2⟩ := id P2
  have hin2 : ¬ ((2 : Int32) < 0 ∨ cl2.slots.size ≤ ((2 : Int32)).toNatClampNeg) := inb_of S2 ⟨by decide, by decide⟩
  have hat2 : cl2.slots[((2 : Int32)).toNatClampNeg]? = some (.int (own_b0 p4)) := H2.at hin2 rfl
  refine Go.st (fun t k => X1.baloadBytes hx (j := (2 : Int32)) (v := (.int (own_b0 p4))) (by rw [e1]; exact Ar2.1) (State.isArrayOf_alike hZ.alike Ar2.2.1) Ar2.2.2 hin2 hat2 (g := (mkF m 37 #[.val (.ref a1), .val (.int (3 : Int32))] [(.int (2 : Int32)), (.ref a1)])) rfl rfl (b d14_37) t k) ?_
  refine g_sipush X1 hx (255) (b d14_38) rfl ?_
  refine g_iand X1 hx (b d14_41) ?_
  obtain ⟨T3, X3, e3, st3⟩ := getS2 X1 hx hZ hown (host := "") (Or.inl (w64 hw)) Via.refl e1 (P3.ext O0.2) (g := (mkF m 42 #[.val (.ref a1), .val (.int (3 : Int32))] [(.int ((own_b0 p4) &&& (255 : Int32)))])) rfl (b d14_42)
  refine Go.st st3 ?_
  refine g_ishl X3 hx (b d14_45) ?_
  refine g_aloadN X3 hx (b d14_46) rfl rfl ?_
  refine g_iloadN X3 hx (b d14_47) rfl ?_
  obtain ⟨cl4, Ar4, q4, S4, M4, H4, G4⟩ := id P2
  have hin4 : ¬ ((3 : Int32) < 0 ∨ cl4.slots.size ≤ ((3 : Int32)).toNatClampNeg) := inb_of S4 ⟨by decide, by decide⟩
  have hat4 : cl4.slots[((3 : Int32)).toNatClampNeg]? = some (.int (own_b8 p4)) := H4.at hin4 rfl
  refine Go.st (fun t k => X3.baloadBytes hx (j := (3 : Int32)) (v := (.int (own_b8 p4))) (by rw [e3]; exact Ar4.1) (State.isArrayOf_alike hZ.alike Ar4.2.1) Ar4.2.2 hin4 hat4 (g := (mkF m 48 #[.val (.ref a1), .val (.int (3 : Int32))] [(.int (3 : Int32)), (.ref a1), (.int (((own_b0 p4) &&& (255 : Int32)) <<< ((0 : Int32) &&& 31)))])) rfl rfl (b d14_48) t k) ?_
  refine g_sipush X3 hx (255) (b d14_49) rfl ?_
  refine g_iand X3 hx (b d14_52) ?_
  obtain ⟨T5, X5, e5, st5⟩ := getS2 X3 hx hZ hown (host := "") (Or.inl (w65 hw)) Via.refl e3 (P4.ext O0.2) (g := (mkF m 53 #[.val (.ref a1), .val (.int (3 : Int32))] [(.int ((own_b8 p4) &&& (255 : Int32))), (.int (((own_b0 p4) &&& (255 : Int32)) <<< ((0 : Int32) &&& 31)))])) rfl (b d14_53)
  refine Go.st st5 ?_
  refine g_ishl X5 hx (b d14_56) ?_
  refine g_ior X5 hx (b d14_57) ?_
  refine g_i2cZ X5 hx (own_c ((((own_b0 p4) &&& (255 : Int32)) <<< ((0 : Int32) &&& 31)) ||| (((own_b8 p4) &&& (255 : Int32)) <<< ((8 : Int32) &&& 31)))) (b d14_58) rfl ?_
  exact own_eB X5 hx hret (by simp) rfl (b d14_59) e5 (by decide) ⟨rfl, N0, rfl⟩
def Q_rmC2 (Z : State) (ov : Addr) (kv : ClassId) (Xv0 : Int32) (Xv1 : Int32) (h0 : Heap) (n0 : Nat) (v : Option Value) (h : Heap) (L : List Loc) : Prop := v = some (.int ((2 : Int32) - (own_pr Xv0 Xv1))) ∧ Fr n0 L ∧ h = h0
theorem rmC2 (hw : HW Z a0) (ov : Addr) (kv : ClassId) (Xv0 Xv1 : Int32) (O0 : Old Z n0 h0) (MF1 : Arv Z h0 ov kv .byte (4 : Int32) [(.int (own_b0 Xv0)), (.int (own_b8 Xv0)), (.int (own_b0 Xv1)), (.int (own_b8 Xv1))] (.int (0 : Int32))) (Mp1 : ¬ (Xv0 < (0 : Int32))) (Mp2 : ¬ ((65535 : Int32) < Xv0)) (Mp3 : ¬ (Xv1 < (0 : Int32))) (Mp4 : ¬ ((65535 : Int32) < Xv1)) (P6 : Sta Z Z.heap "java/lang/StringUTF16" "$assertionsDisabled" "Z" (.int (1 : Int32))) (P7 : Sta Z Z.heap "java/lang/StringUTF16" "HI_BYTE_SHIFT" "I" (.int (0 : Int32))) (P8 : Sta Z Z.heap "java/lang/StringUTF16" "LO_BYTE_SHIFT" "I" (.int (8 : Int32))) :
    MM l mn6 jdk_52_method_11_code 6 (some .int) (R4 1 0 0 13) #[(.ref ov), (.int (0 : Int32)), (.int (2 : Int32)), (.int (0 : Int32))] Z h0 (Q_rmC2 Z ov kv Xv0 Xv1 h0 n0) := by
  refine own_hN n0 rfl pn_2 ?_
  intro p e s m below meth c s₁ hx b hml hret hZ hown hnm X0 e0 N0
  refine own_ct (mkF m 0 #[.val (.ref ov), .val (.int (0 : Int32)), .val (.int (2 : Int32)), .val (.int (0 : Int32)), .unset, .unset] []) rfl ?_
  obtain ⟨T1, X1, e1, st1⟩ := getS2 X0 hx hZ hown (host := "") (Or.inl (w63 hw)) Via.refl e0 (P6.ext O0.2) (g := (mkF m 0 #[.val (.ref ov), .val (.int (0 : Int32)), .val (.int (2 : Int32)), .val (.int (0 : Int32)), .unset, .unset] [])) rfl (b d23_0)
  refine Go.st st1 ?_
  refine g_ifYes X1 hx (pc := 3) 19 (b d23_3) (XT.i0_ne_t (by decide : ¬ ((1 : Int32) = (0 : Int32)))) (by decide) ?_
  refine g_iloadN X1 hx (b d23_19) rfl ?_
  refine g_iloadN X1 hx (b d23_20) rfl ?_
  refine g_isubZ X1 hx (2 : Int32) (b d23_21) rfl ?_
  refine g_istore X1 hx (b d23_22) (l' := #[.val (.ref ov), .val (.int (0 : Int32)), .val (.int (2 : Int32)), .val (.int (0 : Int32)), .val (.int (2 : Int32)), .unset]) rfl ?_
  refine g_iloadN X1 hx (b d23_24) rfl ?_
  refine g_istore X1 hx (b d23_25) (l' := #[.val (.ref ov), .val (.int (0 : Int32)), .val (.int (2 : Int32)), .val (.int (0 : Int32)), .val (.int (2 : Int32)), .val (.int (0 : Int32))]) rfl ?_
  refine g_iloadN X1 hx (b d23_27) rfl ?_
  refine g_ifYes X1 hx (pc := 28) 44 (b d23_28) (XT.i0_eq_t (by decide : (0 : Int32) = (0 : Int32))) (by decide) ?_
  show Go p e below _ (T1.setTop (mkF m 44 #[.val (.ref ov), .val (.int (0 : Int32)), .val (.int (2 : Int32)), .val (.int (0 : Int32)), .val (.int (2 : Int32)), .val (.int (0 : Int32))] []))
  have tail2 : ∀ (T : State) (locs : List Loc) (nv : Int32), Stand p l e (R4 1 0 0 13) s m #[(.ref ov), (.int (0 : Int32)), (.int (2 : Int32)), (.int (0 : Int32))] below meth c T locs 0 0 → T.heap = h0 → Fr n0 locs → nv = ((2 : Int32) - (own_pr Xv0 Xv1)) → Go p e below (PP s (Q_rmC2 Z ov kv Xv0 Xv1 h0 n0) (R4 1 0 0 13)) (T.setTop (mkF m 44 #[.val (.ref ov), .val (.int (0 : Int32)), .val (.int (2 : Int32)), .val (.int (0 : Int32)), .val (.int nv), .val (.int (2 : Int32))] [])) := by
    intro T locs nv X eT N hnv
    refine g_iload X hx (b d23_44) rfl ?_
    refine g_iloadN X hx (b d23_46) rfl ?_
    refine g_iconst X hx (1) (b d23_47) rfl ?_
    refine g_isubZ X hx (1 : Int32) (b d23_48) rfl ?_
    refine g_icmpYes X hx (pc := 49) 88 (b d23_49) (XT.ii_ge_t (by decide : ¬ ((2 : Int32) < (1 : Int32)))) (by decide) ?_
    refine g_iload X hx (b d23_88) rfl ?_
    exact own_eI X hx hret (b d23_90) eT (by decide) ⟨(congrArg (fun z => some (Value.int z)) hnv), N, rfl⟩
  have tail1 : ∀ (T : State) (locs : List Loc) (nv : Int32), Stand p l e (R4 1 0 0 13) s m #[(.ref ov), (.int (0 : Int32)), (.int (2 : Int32)), (.int (0 : Int32))] below meth c T locs 0 0 → T.heap = h0 → Fr n0 locs → nv = ((2 : Int32) - (own_pr Xv0 Xv1)) → Go p e below (PP s (Q_rmC2 Z ov kv Xv0 Xv1 h0 n0) (R4 1 0 0 13)) (T.setTop (mkF m 44 #[.val (.ref ov), .val (.int (0 : Int32)), .val (.int (2 : Int32)), .val (.int (0 : Int32)), .val (.int nv), .val (.int (1 : Int32))] [])) := by
    intro T locs nv X eT N hnv
    refine g_iload X hx (b d23_44) rfl ?_
    refine g_iloadN X hx (b d23_46) rfl ?_
    refine g_iconst X hx (1) (b d23_47) rfl ?_
    refine g_isubZ X hx (1 : Int32) (b d23_48) rfl ?_
    refine g_icmpYes X hx (pc := 49) 88 (b d23_49) (XT.ii_ge_t (by decide : ¬ ((1 : Int32) < (1 : Int32)))) (by decide) ?_
    refine g_iload X hx (b d23_88) rfl ?_
    exact own_eI X hx hret (b d23_90) eT (by decide) ⟨(congrArg (fun z => some (Value.int z)) hnv), N, rfl⟩
  have tail0 : ∀ (T : State) (locs : List Loc) (nv : Int32), Stand p l e (R4 1 0 0 13) s m #[(.ref ov), (.int (0 : Int32)), (.int (2 : Int32)), (.int (0 : Int32))] below meth c T locs 0 0 → T.heap = h0 → Fr n0 locs → nv = (2 : Int32) → Go p e below (PP s (Q_rmC2 Z ov kv Xv0 Xv1 h0 n0) (R4 1 0 0 13)) (T.setTop (mkF m 44 #[.val (.ref ov), .val (.int (0 : Int32)), .val (.int (2 : Int32)), .val (.int (0 : Int32)), .val (.int nv), .val (.int (0 : Int32))] [])) := by
    intro T locs nv X eT N hnv
    refine g_iload X hx (b d23_44) rfl ?_
    refine g_iloadN X hx (b d23_46) rfl ?_
    refine g_iconst X hx (1) (b d23_47) rfl ?_
    refine g_isubZ X hx (1 : Int32) (b d23_48) rfl ?_
    refine g_icmpNo X hx (b d23_49) (XT.ii_ge_f (by decide : (0 : Int32) < (1 : Int32))) ?_
    refine g_aloadN X hx (b d23_52) rfl rfl ?_
    refine g_iload X hx (b d23_53) rfl ?_
    refine g_iinc X hx (b d23_55) rfl (l' := #[.val (.ref ov), .val (.int (0 : Int32)), .val (.int (2 : Int32)), .val (.int (0 : Int32)), .val (.int nv), .val (.int (1 : Int32))]) rfl ?_
    refine own_cS X hx hZ hown (w66 hw) (w67 hw) (w45 hw) (w68 hw) (rm14_1 hw ov kv Xv0 Xv1 O0 P6 MF1 P7 P8) eT 0 (by decide) (by decide) (by rw [hml]; rfl) [(.ref ov), (.int (0 : Int32))] [] (lenOf pd_1 rfl) rfl rfl (Nat.le_of_eq rfl) (b d23_58) ?_
    rintro T2 _ L2 X2 ⟨rfl, M2, eh2⟩
    have N2 := Fr.app N M2
    refine own_cS X2 hx hZ hown (w107 hw) (w108 hw) (w109 hw) (w110 hw) (rmHJ hw (own_c (own_c ((((own_b0 Xv0) &&& (255 : Int32)) <<< ((0 : Int32) &&& 31)) ||| (((own_b8 Xv0) &&& (255 : Int32)) <<< ((8 : Int32) &&& 31))))) O0) eh2 0 (by decide) (by decide) (by rw [hml]; rfl) [(.int (own_c (own_c ((((own_b0 Xv0) &&& (255 : Int32)) <<< ((0 : Int32) &&& 31)) ||| (((own_b8 Xv0) &&& (255 : Int32)) <<< ((8 : Int32) &&& 31))))))] [] (lenOf pd_0 rfl) rfl rfl (Nat.le_of_eq rfl) (b d23_61) ?_
    rintro T3 _ L3 X3 ⟨rfl, M3, eh3⟩
    have N3 := Fr.app N2 M3
    by_cases hc5 : (own_hi Xv0) = (0 : Int32)
    · have he6 := own_N0 Xv0 Mp1 Mp2
      have hn7 : (own_hi (own_c (own_c ((((own_b0 Xv0) &&& (255 : Int32)) <<< ((0 : Int32) &&& 31)) ||| (((own_b8 Xv0) &&& (255 : Int32)) <<< ((8 : Int32) &&& 31)))))) = (0 : Int32) := by
        rw [he6]
        exact hc5
      refine g_ifYes X3 hx (pc := 64) 44 (b d23_64) (XT.i0_eq_t hn7) (by decide) ?_
      show Go p e below _ (T3.setTop (mkF m 44 #[.val (.ref ov), .val (.int (0 : Int32)), .val (.int (2 : Int32)), .val (.int (0 : Int32)), .val (.int nv), .val (.int (1 : Int32))] []))
      exact tail1 _ _ _ X3 eh3 N3 (by rw [(own_pr0a (b := Xv1) hc5), own_s0]; exact hnv)
    · have he8 := own_N0 Xv0 Mp1 Mp2
      have hn9 : ¬ ((own_hi (own_c (own_c ((((own_b0 Xv0) &&& (255 : Int32)) <<< ((0 : Int32) &&& 31)) ||| (((own_b8 Xv0) &&& (255 : Int32)) <<< ((8 : Int32) &&& 31)))))) = (0 : Int32)) := by
        rw [he8]
        exact hc5
      refine g_ifNo X3 hx (b d23_64) (XT.i0_eq_f hn9) ?_
      refine g_aloadN X3 hx (b d23_67) rfl rfl ?_
      refine g_iload X3 hx (b d23_68) rfl ?_
      refine own_cS X3 hx hZ hown (w66 hw) (w67 hw) (w45 hw) (w68 hw) (rm14_2 hw ov kv Xv0 Xv1 O0 P6 MF1 P7 P8) eh3 0 (by decide) (by decide) (by rw [hml]; rfl) [(.ref ov), (.int (1 : Int32))] [] (lenOf pd_1 rfl) rfl rfl (Nat.le_of_eq rfl) (b d23_70) ?_
      rintro T10 _ L10 X10 ⟨rfl, M10, eh10⟩
      have N10 := Fr.app N3 M10
      refine own_cS X10 hx hZ hown (w119 hw) (w120 hw) (w109 hw) (w121 hw) (rmLJ hw (own_c (own_c ((((own_b0 Xv1) &&& (255 : Int32)) <<< ((0 : Int32) &&& 31)) ||| (((own_b8 Xv1) &&& (255 : Int32)) <<< ((8 : Int32) &&& 31))))) O0) eh10 0 (by decide) (by decide) (by rw [hml]; rfl) [(.int (own_c (own_c ((((own_b0 Xv1) &&& (255 : Int32)) <<< ((0 : Int32) &&& 31)) ||| (((own_b8 Xv1) &&& (255 : Int32)) <<< ((8 : Int32) &&& 31))))))] [] (lenOf pd_0 rfl) rfl rfl (Nat.le_of_eq rfl) (b d23_73) ?_
      rintro T11 _ L11 X11 ⟨rfl, M11, eh11⟩
      have N11 := Fr.app N10 M11
      by_cases hc13 : (own_lo Xv1) = (0 : Int32)
      · have he14 := own_N0 Xv1 Mp3 Mp4
        have hn15 : (own_lo (own_c (own_c ((((own_b0 Xv1) &&& (255 : Int32)) <<< ((0 : Int32) &&& 31)) ||| (((own_b8 Xv1) &&& (255 : Int32)) <<< ((8 : Int32) &&& 31)))))) = (0 : Int32) := by
          rw [he14]
          exact hc13
        refine g_ifYes X11 hx (pc := 76) 44 (b d23_76) (XT.i0_eq_t hn15) (by decide) ?_
        show Go p e below _ (T11.setTop (mkF m 44 #[.val (.ref ov), .val (.int (0 : Int32)), .val (.int (2 : Int32)), .val (.int (0 : Int32)), .val (.int nv), .val (.int (1 : Int32))] []))
        exact tail1 _ _ _ X11 eh11 N11 (by rw [(own_pr0b (a := Xv0) hc13), own_s0]; exact hnv)
      · have he16 := own_N0 Xv1 Mp3 Mp4
        have hn17 : ¬ ((own_lo (own_c (own_c ((((own_b0 Xv1) &&& (255 : Int32)) <<< ((0 : Int32) &&& 31)) ||| (((own_b8 Xv1) &&& (255 : Int32)) <<< ((8 : Int32) &&& 31)))))) = (0 : Int32)) := by
          rw [he16]
          exact hc13
        refine g_ifNo X11 hx (b d23_76) (XT.i0_eq_f hn17) ?_
        refine g_iinc X11 hx (b d23_79) rfl (l' := #[.val (.ref ov), .val (.int (0 : Int32)), .val (.int (2 : Int32)), .val (.int (0 : Int32)), .val (.int (nv + (-1 : Int32))), .val (.int (1 : Int32))]) rfl ?_
        refine g_iinc X11 hx (b d23_82) rfl (l' := #[.val (.ref ov), .val (.int (0 : Int32)), .val (.int (2 : Int32)), .val (.int (0 : Int32)), .val (.int (nv + (-1 : Int32))), .val (.int (2 : Int32))]) rfl ?_
        refine g_goto X11 hx (pc := 85) 44 (b d23_85) (by decide) ?_
        show Go p e below _ (T11.setTop (mkF m 44 #[.val (.ref ov), .val (.int (0 : Int32)), .val (.int (2 : Int32)), .val (.int (0 : Int32)), .val (.int (nv + (-1 : Int32))), .val (.int (2 : Int32))] []))
        exact tail2 _ _ _ X11 eh11 N11 (by rw [(own_pr1 hc5 hc13), hnv]; exact own_s1 _)
  exact tail0 _ _ _ X1 e1 N0 rfl
theorem rm14_3 (hw : HW Z a0) (a1 : Addr) (kz2 : ClassId) (p3 p4 p5 : Int32) (O0 : Old Z n0 h0) (P1 : Sta Z Z.heap "java/lang/StringUTF16" "$assertionsDisabled" "Z" (.int (1 : Int32))) (P2 : Arv Z h0 a1 kz2 .byte (6 : Int32) [(.int (own_b0 p3)), (.int (own_b8 p3)), (.int (own_b0 p4)), (.int (own_b8 p4)), (.int (own_b0 p5)), (.int (own_b8 p5))] (.int (0 : Int32))) (P3 : Sta Z Z.heap "java/lang/StringUTF16" "HI_BYTE_SHIFT" "I" (.int (0 : Int32))) (P4 : Sta Z Z.heap "java/lang/StringUTF16" "LO_BYTE_SHIFT" "I" (.int (8 : Int32))) :
    MM l mn7 jdk_52_method_5_code 2 (some .char) (R4 0 0 0 0) #[(.ref a1), (.int (1 : Int32))] Z h0 (fun v h L => v = some (.int (own_c (own_c ((((own_b0 p4) &&& (255 : Int32)) <<< ((0 : Int32) &&& 31)) ||| (((own_b8 p4) &&& (255 : Int32)) <<< ((8 : Int32) &&& 31)))))) ∧ Fr n0 L ∧ h = h0) := by
  refine own_hN n0 rfl pn_2 ?_
  intro p e s m below meth c s₁ hx b hml hret hZ hown hnm X0 e0 N0
  refine own_ct (mkF m 0 #[.val (.ref a1), .val (.int (1 : Int32))] []) rfl ?_
  obtain ⟨T1, X1, e1, st1⟩ := getS2 X0 hx hZ hown (host := "") (Or.inl (w63 hw)) Via.refl e0 (P1.ext O0.2) (g := (mkF m 0 #[.val (.ref a1), .val (.int (1 : Int32))] [])) rfl (b d14_0)
  refine Go.st st1 ?_
  refine g_ifYes X1 hx (pc := 3) 28 (b d14_3) (XT.i0_ne_t (by decide : ¬ ((1 : Int32) = (0 : Int32)))) (by decide) ?_
  refine g_iloadN X1 hx (b d14_28) rfl ?_
  refine g_iconst X1 hx (1) (b d14_29) rfl ?_
  refine g_ishlZ X1 hx (2 : Int32) (b d14_30) rfl ?_
  refine g_istoreN X1 hx (b d14_31) (l' := #[.val (.ref a1), .val (.int (2 : Int32))]) rfl ?_
  refine g_aloadN X1 hx (b d14_32) rfl rfl ?_
  refine g_iloadN X1 hx (b d14_33) rfl ?_
  refine g_iinc X1 hx (b d14_34) rfl (l' := #[.val (.ref a1), .val (.int (3 : Int32))]) rfl ?_
  obtain ⟨cl2, Ar2, q2, S2, M2, H2, G2⟩ := id P2
  have hin2 : ¬ ((2 : Int32) < 0 ∨ cl2.slots.size ≤ ((2 : Int32)).toNatClampNeg) := inb_of S2 ⟨by decide, by decide⟩
  have hat2 : cl2.slots[((2 : Int32)).toNatClampNeg]? = some (.int (own_b0 p4)) := H2.at hin2 rfl
  refine Go.st (fun t k => X1.baloadBytes hx (j := (2 : Int32)) (v := (.int (own_b0 p4))) (by rw [e1]; exact Ar2.1) (State.isArrayOf_alike hZ.alike Ar2.2.1) Ar2.2.2 hin2 hat2 (g := (mkF m 37 #[.val (.ref a1), .val (.int (3 : Int32))] [(.int (2 : Int32)), (.ref a1)])) rfl rfl (b d14_37) t k) ?_
  refine g_sipush X1 hx (255) (b d14_38) rfl ?_
  refine g_iand X1 hx (b d14_41) ?_
  obtain ⟨T3, X3, e3, st3⟩ := getS2 X1 hx hZ hown (host := "") (Or.inl (w64 hw)) Via.refl e1 (P3.ext O0.2) (g := (mkF m 42 #[.val (.ref a1), .val (.int (3 : Int32))] [(.int ((own_b0 p4) &&& (255 : Int32)))])) rfl (b d14_42)
  refine Go.st st3 ?_
  refine g_ishl X3 hx (b d14_45) ?_
  refine g_aloadN X3 hx (b d14_46) rfl rfl ?_
  refine g_iloadN X3 hx (b d14_47) rfl ?_
  obtain ⟨cl4, Ar4, q4, S4, M4, H4, G4⟩ := id P2
  have hin4 : ¬ ((3 : Int32) < 0 ∨ cl4.slots.size ≤ ((3 : Int32)).toNatClampNeg) := inb_of S4 ⟨by decide, by decide⟩
  have hat4 : cl4.slots[((3 : Int32)).toNatClampNeg]? = some (.int (own_b8 p4)) := H4.at hin4 rfl
  refine Go.st (fun t k => X3.baloadBytes hx (j := (3 : Int32)) (v := (.int (own_b8 p4))) (by rw [e3]; exact Ar4.1) (State.isArrayOf_alike hZ.alike Ar4.2.1) Ar4.2.2 hin4 hat4 (g := (mkF m 48 #[.val (.ref a1), .val (.int (3 : Int32))] [(.int (3 : Int32)), (.ref a1), (.int (((own_b0 p4) &&& (255 : Int32)) <<< ((0 : Int32) &&& 31)))])) rfl rfl (b d14_48) t k) ?_
  refine g_sipush X3 hx (255) (b d14_49) rfl ?_
  refine g_iand X3 hx (b d14_52) ?_
  obtain ⟨T5, X5, e5, st5⟩ := getS2 X3 hx hZ hown (host := "") (Or.inl (w65 hw)) Via.refl e3 (P4.ext O0.2) (g := (mkF m 53 #[.val (.ref a1), .val (.int (3 : Int32))] [(.int ((own_b8 p4) &&& (255 : Int32))), (.int (((own_b0 p4) &&& (255 : Int32)) <<< ((0 : Int32) &&& 31)))])) rfl (b d14_53)
  refine Go.st st5 ?_
  refine g_ishl X5 hx (b d14_56) ?_
  refine g_ior X5 hx (b d14_57) ?_
  refine g_i2cZ X5 hx (own_c ((((own_b0 p4) &&& (255 : Int32)) <<< ((0 : Int32) &&& 31)) ||| (((own_b8 p4) &&& (255 : Int32)) <<< ((8 : Int32) &&& 31)))) (b d14_58) rfl ?_
  exact own_eB X5 hx hret (by simp) rfl (b d14_59) e5 (by decide) ⟨rfl, N0, rfl⟩
theorem rm14_4 (hw : HW Z a0) (a1 : Addr) (kz2 : ClassId) (p3 p4 p5 : Int32) (O0 : Old Z n0 h0) (P1 : Sta Z Z.heap "java/lang/StringUTF16" "$assertionsDisabled" "Z" (.int (1 : Int32))) (P2 : Arv Z h0 a1 kz2 .byte (6 : Int32) [(.int (own_b0 p3)), (.int (own_b8 p3)), (.int (own_b0 p4)), (.int (own_b8 p4)), (.int (own_b0 p5)), (.int (own_b8 p5))] (.int (0 : Int32))) (P3 : Sta Z Z.heap "java/lang/StringUTF16" "HI_BYTE_SHIFT" "I" (.int (0 : Int32))) (P4 : Sta Z Z.heap "java/lang/StringUTF16" "LO_BYTE_SHIFT" "I" (.int (8 : Int32))) :
    MM l mn7 jdk_52_method_5_code 2 (some .char) (R4 0 0 0 0) #[(.ref a1), (.int (2 : Int32))] Z h0 (fun v h L => v = some (.int (own_c (own_c ((((own_b0 p5) &&& (255 : Int32)) <<< ((0 : Int32) &&& 31)) ||| (((own_b8 p5) &&& (255 : Int32)) <<< ((8 : Int32) &&& 31)))))) ∧ Fr n0 L ∧ h = h0) := by
  refine own_hN n0 rfl pn_2 ?_
  intro p e s m below meth c s₁ hx b hml hret hZ hown hnm X0 e0 N0
  refine own_ct (mkF m 0 #[.val (.ref a1), .val (.int (2 : Int32))] []) rfl ?_
  obtain ⟨T1, X1, e1, st1⟩ := getS2 X0 hx hZ hown (host := "") (Or.inl (w63 hw)) Via.refl e0 (P1.ext O0.2) (g := (mkF m 0 #[.val (.ref a1), .val (.int (2 : Int32))] [])) rfl (b d14_0)
  refine Go.st st1 ?_
  refine g_ifYes X1 hx (pc := 3) 28 (b d14_3) (XT.i0_ne_t (by decide : ¬ ((1 : Int32) = (0 : Int32)))) (by decide) ?_
  refine g_iloadN X1 hx (b d14_28) rfl ?_
  refine g_iconst X1 hx (1) (b d14_29) rfl ?_
  refine g_ishlZ X1 hx (4 : Int32) (b d14_30) rfl ?_
  refine g_istoreN X1 hx (b d14_31) (l' := #[.val (.ref a1), .val (.int (4 : Int32))]) rfl ?_
  refine g_aloadN X1 hx (b d14_32) rfl rfl ?_
  refine g_iloadN X1 hx (b d14_33) rfl ?_
  refine g_iinc X1 hx (b d14_34) rfl (l' := #[.val (.ref a1), .val (.int (5 : Int32))]) rfl ?_
  obtain ⟨cl2, Ar2, q2, S2, M2, H2, G2⟩ := id P2
  have hin2 : ¬ ((4 : Int32) < 0 ∨ cl2.slots.size ≤ ((4 : Int32)).toNatClampNeg) := inb_of S2 ⟨by decide, by decide⟩
  have hat2 : cl2.slots[((4 : Int32)).toNatClampNeg]? = some (.int (own_b0 p5)) := H2.at hin2 rfl
  refine Go.st (fun t k => X1.baloadBytes hx (j := (4 : Int32)) (v := (.int (own_b0 p5))) (by rw [e1]; exact Ar2.1) (State.isArrayOf_alike hZ.alike Ar2.2.1) Ar2.2.2 hin2 hat2 (g := (mkF m 37 #[.val (.ref a1), .val (.int (5 : Int32))] [(.int (4 : Int32)), (.ref a1)])) rfl rfl (b d14_37) t k) ?_
  refine g_sipush X1 hx (255) (b d14_38) rfl ?_
  refine g_iand X1 hx (b d14_41) ?_
  obtain ⟨T3, X3, e3, st3⟩ := getS2 X1 hx hZ hown (host := "") (Or.inl (w64 hw)) Via.refl e1 (P3.ext O0.2) (g := (mkF m 42 #[.val (.ref a1), .val (.int (5 : Int32))] [(.int ((own_b0 p5) &&& (255 : Int32)))])) rfl (b d14_42)
  refine Go.st st3 ?_
  refine g_ishl X3 hx (b d14_45) ?_
  refine g_aloadN X3 hx (b d14_46) rfl rfl ?_
  refine g_iloadN X3 hx (b d14_47) rfl ?_
  obtain ⟨cl4, Ar4, q4, S4, M4, H4, G4⟩ := id P2
  have hin4 : ¬ ((5 : Int32) < 0 ∨ cl4.slots.size ≤ ((5 : Int32)).toNatClampNeg) := inb_of S4 ⟨by decide, by decide⟩
  have hat4 : cl4.slots[((5 : Int32)).toNatClampNeg]? = some (.int (own_b8 p5)) := H4.at hin4 rfl
  refine Go.st (fun t k => X3.baloadBytes hx (j := (5 : Int32)) (v := (.int (own_b8 p5))) (by rw [e3]; exact Ar4.1) (State.isArrayOf_alike hZ.alike Ar4.2.1) Ar4.2.2 hin4 hat4 (g := (mkF m 48 #[.val (.ref a1), .val (.int (5 : Int32))] [(.int (5 : Int32)), (.ref a1), (.int (((own_b0 p5) &&& (255 : Int32)) <<< ((0 : Int32) &&& 31)))])) rfl rfl (b d14_48) t k) ?_
  refine g_sipush X3 hx (255) (b d14_49) rfl ?_
  refine g_iand X3 hx (b d14_52) ?_
  obtain ⟨T5, X5, e5, st5⟩ := getS2 X3 hx hZ hown (host := "") (Or.inl (w65 hw)) Via.refl e3 (P4.ext O0.2) (g := (mkF m 53 #[.val (.ref a1), .val (.int (5 : Int32))] [(.int ((own_b8 p5) &&& (255 : Int32))), (.int (((own_b0 p5) &&& (255 : Int32)) <<< ((0 : Int32) &&& 31)))])) rfl (b d14_53)
  refine Go.st st5 ?_
  refine g_ishl X5 hx (b d14_56) ?_
  refine g_ior X5 hx (b d14_57) ?_
  refine g_i2cZ X5 hx (own_c ((((own_b0 p5) &&& (255 : Int32)) <<< ((0 : Int32) &&& 31)) ||| (((own_b8 p5) &&& (255 : Int32)) <<< ((8 : Int32) &&& 31)))) (b d14_58) rfl ?_
  exact own_eB X5 hx hret (by simp) rfl (b d14_59) e5 (by decide) ⟨rfl, N0, rfl⟩
theorem rm14_5 (hw : HW Z a0) (a1 : Addr) (kz2 : ClassId) (p3 p4 p5 : Int32) (O0 : Old Z n0 h0) (P1 : Sta Z Z.heap "java/lang/StringUTF16" "$assertionsDisabled" "Z" (.int (1 : Int32))) (P2 : Arv Z h0 a1 kz2 .byte (6 : Int32) [(.int (own_b0 p3)), (.int (own_b8 p3)), (.int (own_b0 p4)), (.int (own_b8 p4)), (.int (own_b0 p5)), (.int (own_b8 p5))] (.int (0 : Int32))) (P3 : Sta Z Z.heap "java/lang/StringUTF16" "HI_BYTE_SHIFT" "I" (.int (0 : Int32))) (P4 : Sta Z Z.heap "java/lang/StringUTF16" "LO_BYTE_SHIFT" "I" (.int (8 : Int32))) :
    MM l mn7 jdk_52_method_5_code 2 (some .char) (R4 0 0 0 0) #[(.ref a1), (.int (0 : Int32))] Z h0 (fun v h L => v = some (.int (own_c (own_c ((((own_b0 p3) &&& (255 : Int32)) <<< ((0 : Int32) &&& 31)) ||| (((own_b8 p3) &&& (255 : Int32)) <<< ((8 : Int32) &&& 31)))))) ∧ Fr n0 L ∧ h = h0) := by
  refine own_hN n0 rfl pn_2 ?_
  intro p e s m below meth c s₁ hx b hml hret hZ hown hnm X0 e0 N0
  refine own_ct (mkF m 0 #[.val (.ref a1), .val (.int (0 : Int32))] []) rfl ?_
  obtain ⟨T1, X1, e1, st1⟩ := getS2 X0 hx hZ hown (host := "") (Or.inl (w63 hw)) Via.refl e0 (P1.ext O0.2) (g := (mkF m 0 #[.val (.ref a1), .val (.int (0 : Int32))] [])) rfl (b d14_0)
  refine Go.st st1 ?_
  refine g_ifYes X1 hx (pc := 3) 28 (b d14_3) (XT.i0_ne_t (by decide : ¬ ((1 : Int32) = (0 : Int32)))) (by decide) ?_
  refine g_iloadN X1 hx (b d14_28) rfl ?_
  refine g_iconst X1 hx (1) (b d14_29) rfl ?_
  refine g_ishlZ X1 hx (0 : Int32) (b d14_30) rfl ?_
  refine g_istoreN X1 hx (b d14_31) (l' := #[.val (.ref a1), .val (.int (0 : Int32))]) rfl ?_
  refine g_aloadN X1 hx (b d14_32) rfl rfl ?_
  refine g_iloadN X1 hx (b d14_33) rfl ?_
  refine g_iinc X1 hx (b d14_34) rfl (l' := #[.val (.ref a1), .val (.int (1 : Int32))]) rfl ?_
  obtain ⟨cl2, Ar2, q2, S2, M2, H2, G2⟩ := id P2
  have hin2 : ¬ ((0 : Int32) < 0 ∨ cl2.slots.size ≤ ((0 : Int32)).toNatClampNeg) := inb_of S2 ⟨by decide, by decide⟩
  have hat2 : cl2.slots[((0 : Int32)).toNatClampNeg]? = some (.int (own_b0 p3)) := H2.at hin2 rfl
  refine Go.st (fun t k => X1.baloadBytes hx (j := (0 : Int32)) (v := (.int (own_b0 p3))) (by rw [e1]; exact Ar2.1) (State.isArrayOf_alike hZ.alike Ar2.2.1) Ar2.2.2 hin2 hat2 (g := (mkF m 37 #[.val (.ref a1), .val (.int (1 : Int32))] [(.int (0 : Int32)), (.ref a1)])) rfl rfl (b d14_37) t k) ?_
  refine g_sipush X1 hx (255) (b d14_38) rfl ?_
  refine g_iand X1 hx (b d14_41) ?_
  obtain ⟨T3, X3, e3, st3⟩ := getS2 X1 hx hZ hown (host := "") (Or.inl (w64 hw)) Via.refl e1 (P3.ext O0.2) (g := (mkF m 42 #[.val (.ref a1), .val (.int (1 : Int32))] [(.int ((own_b0 p3) &&& (255 : Int32)))])) rfl (b d14_42)
  refine Go.st st3 ?_
  refine g_ishl X3 hx (b d14_45) ?_
  refine g_aloadN X3 hx (b d14_46) rfl rfl ?_
  refine g_iloadN X3 hx (b d14_47) rfl ?_
  obtain ⟨cl4, Ar4, q4, S4, M4, H4, G4⟩ := id P2
  have hin4 : ¬ ((1 : Int32) < 0 ∨ cl4.slots.size ≤ ((1 : Int32)).toNatClampNeg) := inb_of S4 ⟨by decide, by decide⟩
  have hat4 : cl4.slots[((1 : Int32)).toNatClampNeg]? = some (.int (own_b8 p3)) := H4.at hin4 rfl
  refine Go.st (fun t k => X3.baloadBytes hx (j := (1 : Int32)) (v := (.int (own_b8 p3))) (by rw [e3]; exact Ar4.1) (State.isArrayOf_alike hZ.alike Ar4.2.1) Ar4.2.2 hin4 hat4 (g := (mkF m 48 #[.val (.ref a1), .val (.int (1 : Int32))] [(.int (1 : Int32)), (.ref a1), (.int (((own_b0 p3) &&& (255 : Int32)) <<< ((0 : Int32) &&& 31)))])) rfl rfl (b d14_48) t k) ?_
  refine g_sipush X3 hx (255) (b d14_49) rfl ?_
  refine g_iand X3 hx (b d14_52) ?_
  obtain ⟨T5, X5, e5, st5⟩ := getS2 X3 hx hZ hown (host := "") (Or.inl (w65 hw)) Via.refl e3 (P4.ext O0.2) (g := (mkF m 53 #[.val (.ref a1), .val (.int (1 : Int32))] [(.int ((own_b8 p3) &&& (255 : Int32))), (.int (((own_b0 p3) &&& (255 : Int32)) <<< ((0 : Int32) &&& 31)))])) rfl (b d14_53)
  refine Go.st st5 ?_
  refine g_ishl X5 hx (b d14_56) ?_
  refine g_ior X5 hx (b d14_57) ?_
  refine g_i2cZ X5 hx (own_c ((((own_b0 p3) &&& (255 : Int32)) <<< ((0 : Int32) &&& 31)) ||| (((own_b8 p3) &&& (255 : Int32)) <<< ((8 : Int32) &&& 31)))) (b d14_58) rfl ?_
  exact own_eB X5 hx hret (by simp) rfl (b d14_59) e5 (by decide) ⟨rfl, N0, rfl⟩
def Q_rmC3 (Z : State) (ov : Addr) (kv : ClassId) (Xv0 : Int32) (Xv1 : Int32) (Xv2 : Int32) (h0 : Heap) (n0 : Nat) (v : Option Value) (h : Heap) (L : List Loc) : Prop := v = some (.int (((3 : Int32) - (own_pr Xv0 Xv1)) - (own_pr Xv1 Xv2))) ∧ Fr n0 L ∧ h = h0
theorem rmC3 (hw : HW Z a0) (ov : Addr) (kv : ClassId) (Xv0 Xv1 Xv2 : Int32) (O0 : Old Z n0 h0) (MF1 : Arv Z h0 ov kv .byte (6 : Int32) [(.int (own_b0 Xv0)), (.int (own_b8 Xv0)), (.int (own_b0 Xv1)), (.int (own_b8 Xv1)), (.int (own_b0 Xv2)), (.int (own_b8 Xv2))] (.int (0 : Int32))) (Mp1 : ¬ (Xv0 < (0 : Int32))) (Mp2 : ¬ ((65535 : Int32) < Xv0)) (Mp3 : ¬ (Xv1 < (0 : Int32))) (Mp4 : ¬ ((65535 : Int32) < Xv1)) (Mp5 : ¬ (Xv2 < (0 : Int32))) (Mp6 : ¬ ((65535 : Int32) < Xv2)) (P8 : Sta Z Z.heap "java/lang/StringUTF16" "$assertionsDisabled" "Z" (.int (1 : Int32))) (P9 : Sta Z Z.heap "java/lang/StringUTF16" "HI_BYTE_SHIFT" "I" (.int (0 : Int32))) (P10 : Sta Z Z.heap "java/lang/StringUTF16" "LO_BYTE_SHIFT" "I" (.int (8 : Int32))) :
    MM l mn6 jdk_52_method_11_code 6 (some .int) (R4 1 0 0 13) #[(.ref ov), (.int (0 : Int32)), (.int (3 : Int32)), (.int (0 : Int32))] Z h0 (Q_rmC3 Z ov kv Xv0 Xv1 Xv2 h0 n0) := by
  refine own_hN n0 rfl pn_2 ?_
  intro p e s m below meth c s₁ hx b hml hret hZ hown hnm X0 e0 N0
  refine own_ct (mkF m 0 #[.val (.ref ov), .val (.int (0 : Int32)), .val (.int (3 : Int32)), .val (.int (0 : Int32)), .unset, .unset] []) rfl ?_
  obtain ⟨T1, X1, e1, st1⟩ := getS2 X0 hx hZ hown (host := "") (Or.inl (w63 hw)) Via.refl e0 (P8.ext O0.2) (g := (mkF m 0 #[.val (.ref ov), .val (.int (0 : Int32)), .val (.int (3 : Int32)), .val (.int (0 : Int32)), .unset, .unset] [])) rfl (b d23_0)
  refine Go.st st1 ?_
  refine g_ifYes X1 hx (pc := 3) 19 (b d23_3) (XT.i0_ne_t (by decide : ¬ ((1 : Int32) = (0 : Int32)))) (by decide) ?_
  refine g_iloadN X1 hx (b d23_19) rfl ?_
  refine g_iloadN X1 hx (b d23_20) rfl ?_
  refine g_isubZ X1 hx (3 : Int32) (b d23_21) rfl ?_
  refine g_istore X1 hx (b d23_22) (l' := #[.val (.ref ov), .val (.int (0 : Int32)), .val (.int (3 : Int32)), .val (.int (0 : Int32)), .val (.int (3 : Int32)), .unset]) rfl ?_
  refine g_iloadN X1 hx (b d23_24) rfl ?_
  refine g_istore X1 hx (b d23_25) (l' := #[.val (.ref ov), .val (.int (0 : Int32)), .val (.int (3 : Int32)), .val (.int (0 : Int32)), .val (.int (3 : Int32)), .val (.int (0 : Int32))]) rfl ?_
  refine g_iloadN X1 hx (b d23_27) rfl ?_
  refine g_ifYes X1 hx (pc := 28) 44 (b d23_28) (XT.i0_eq_t (by decide : (0 : Int32) = (0 : Int32))) (by decide) ?_
  show Go p e below _ (T1.setTop (mkF m 44 #[.val (.ref ov), .val (.int (0 : Int32)), .val (.int (3 : Int32)), .val (.int (0 : Int32)), .val (.int (3 : Int32)), .val (.int (0 : Int32))] []))
  have tail3 : ∀ (T : State) (locs : List Loc) (nv : Int32), Stand p l e (R4 1 0 0 13) s m #[(.ref ov), (.int (0 : Int32)), (.int (3 : Int32)), (.int (0 : Int32))] below meth c T locs 0 0 → T.heap = h0 → Fr n0 locs → nv = (((3 : Int32) - (own_pr Xv0 Xv1)) - (own_pr Xv1 Xv2)) → Go p e below (PP s (Q_rmC3 Z ov kv Xv0 Xv1 Xv2 h0 n0) (R4 1 0 0 13)) (T.setTop (mkF m 44 #[.val (.ref ov), .val (.int (0 : Int32)), .val (.int (3 : Int32)), .val (.int (0 : Int32)), .val (.int nv), .val (.int (3 : Int32))] [])) := by
    intro T locs nv X eT N hnv
    refine g_iload X hx (b d23_44) rfl ?_
    refine g_iloadN X hx (b d23_46) rfl ?_
    refine g_iconst X hx (1) (b d23_47) rfl ?_
    refine g_isubZ X hx (2 : Int32) (b d23_48) rfl ?_
    refine g_icmpYes X hx (pc := 49) 88 (b d23_49) (XT.ii_ge_t (by decide : ¬ ((3 : Int32) < (2 : Int32)))) (by decide) ?_
    refine g_iload X hx (b d23_88) rfl ?_
    exact own_eI X hx hret (b d23_90) eT (by decide) ⟨(congrArg (fun z => some (Value.int z)) hnv), N, rfl⟩
  have tail2 : ∀ (T : State) (locs : List Loc) (nv : Int32), Stand p l e (R4 1 0 0 13) s m #[(.ref ov), (.int (0 : Int32)), (.int (3 : Int32)), (.int (0 : Int32))] below meth c T locs 0 0 → T.heap = h0 → Fr n0 locs → nv = (((3 : Int32) - (own_pr Xv0 Xv1)) - (own_pr Xv1 Xv2)) → Go p e below (PP s (Q_rmC3 Z ov kv Xv0 Xv1 Xv2 h0 n0) (R4 1 0 0 13)) (T.setTop (mkF m 44 #[.val (.ref ov), .val (.int (0 : Int32)), .val (.int (3 : Int32)), .val (.int (0 : Int32)), .val (.int nv), .val (.int (2 : Int32))] [])) := by
    intro T locs nv X eT N hnv
    refine g_iload X hx (b d23_44) rfl ?_
    refine g_iloadN X hx (b d23_46) rfl ?_
    refine g_iconst X hx (1) (b d23_47) rfl ?_
    refine g_isubZ X hx (2 : Int32) (b d23_48) rfl ?_
    refine g_icmpYes X hx (pc := 49) 88 (b d23_49) (XT.ii_ge_t (by decide : ¬ ((2 : Int32) < (2 : Int32)))) (by decide) ?_
    refine g_iload X hx (b d23_88) rfl ?_
    exact own_eI X hx hret (b d23_90) eT (by decide) ⟨(congrArg (fun z => some (Value.int z)) hnv), N, rfl⟩
  have tail1 : ∀ (T : State) (locs : List Loc) (nv : Int32), Stand p l e (R4 1 0 0 13) s m #[(.ref ov), (.int (0 : Int32)), (.int (3 : Int32)), (.int (0 : Int32))] below meth c T locs 0 0 → T.heap = h0 → Fr n0 locs → nv = ((3 : Int32) - (own_pr Xv0 Xv1)) → Go p e below (PP s (Q_rmC3 Z ov kv Xv0 Xv1 Xv2 h0 n0) (R4 1 0 0 13)) (T.setTop (mkF m 44 #[.val (.ref ov), .val (.int (0 : Int32)), .val (.int (3 : Int32)), .val (.int (0 : Int32)), .val (.int nv), .val (.int (1 : Int32))] [])) := by
    intro T locs nv X eT N hnv
    refine g_iload X hx (b d23_44) rfl ?_
    refine g_iloadN X hx (b d23_46) rfl ?_
    refine g_iconst X hx (1) (b d23_47) rfl ?_
    refine g_isubZ X hx (2 : Int32) (b d23_48) rfl ?_
    refine g_icmpNo X hx (b d23_49) (XT.ii_ge_f (by decide : (1 : Int32) < (2 : Int32))) ?_
    refine g_aloadN X hx (b d23_52) rfl rfl ?_
    refine g_iload X hx (b d23_53) rfl ?_
    refine g_iinc X hx (b d23_55) rfl (l' := #[.val (.ref ov), .val (.int (0 : Int32)), .val (.int (3 : Int32)), .val (.int (0 : Int32)), .val (.int nv), .val (.int (2 : Int32))]) rfl ?_
    refine own_cS X hx hZ hown (w66 hw) (w67 hw) (w45 hw) (w68 hw) (rm14_3 hw ov kv Xv0 Xv1 Xv2 O0 P8 MF1 P9 P10) eT 0 (by decide) (by decide) (by rw [hml]; rfl) [(.ref ov), (.int (1 : Int32))] [] (lenOf pd_1 rfl) rfl rfl (Nat.le_of_eq rfl) (b d23_58) ?_
    rintro T2 _ L2 X2 ⟨rfl, M2, eh2⟩
    have N2 := Fr.app N M2
    refine own_cS X2 hx hZ hown (w107 hw) (w108 hw) (w109 hw) (w110 hw) (rmHJ hw (own_c (own_c ((((own_b0 Xv1) &&& (255 : Int32)) <<< ((0 : Int32) &&& 31)) ||| (((own_b8 Xv1) &&& (255 : Int32)) <<< ((8 : Int32) &&& 31))))) O0) eh2 0 (by decide) (by decide) (by rw [hml]; rfl) [(.int (own_c (own_c ((((own_b0 Xv1) &&& (255 : Int32)) <<< ((0 : Int32) &&& 31)) ||| (((own_b8 Xv1) &&& (255 : Int32)) <<< ((8 : Int32) &&& 31))))))] [] (lenOf pd_0 rfl) rfl rfl (Nat.le_of_eq rfl) (b d23_61) ?_
    rintro T3 _ L3 X3 ⟨rfl, M3, eh3⟩
    have N3 := Fr.app N2 M3
    by_cases hc5 : (own_hi Xv1) = (0 : Int32)
    · have he6 := own_N0 Xv1 Mp3 Mp4
      have hn7 : (own_hi (own_c (own_c ((((own_b0 Xv1) &&& (255 : Int32)) <<< ((0 : Int32) &&& 31)) ||| (((own_b8 Xv1) &&& (255 : Int32)) <<< ((8 : Int32) &&& 31)))))) = (0 : Int32) := by
        rw [he6]
        exact hc5
      refine g_ifYes X3 hx (pc := 64) 44 (b d23_64) (XT.i0_eq_t hn7) (by decide) ?_
      show Go p e below _ (T3.setTop (mkF m 44 #[.val (.ref ov), .val (.int (0 : Int32)), .val (.int (3 : Int32)), .val (.int (0 : Int32)), .val (.int nv), .val (.int (2 : Int32))] []))
      exact tail2 _ _ _ X3 eh3 N3 (by rw [(own_pr0a (b := Xv2) hc5), own_s0]; exact hnv)
    · have he8 := own_N0 Xv1 Mp3 Mp4
      have hn9 : ¬ ((own_hi (own_c (own_c ((((own_b0 Xv1) &&& (255 : Int32)) <<< ((0 : Int32) &&& 31)) ||| (((own_b8 Xv1) &&& (255 : Int32)) <<< ((8 : Int32) &&& 31)))))) = (0 : Int32)) := by
        rw [he8]
        exact hc5
      refine g_ifNo X3 hx (b d23_64) (XT.i0_eq_f hn9) ?_
      refine g_aloadN X3 hx (b d23_67) rfl rfl ?_
      refine g_iload X3 hx (b d23_68) rfl ?_
      refine own_cS X3 hx hZ hown (w66 hw) (w67 hw) (w45 hw) (w68 hw) (rm14_4 hw ov kv Xv0 Xv1 Xv2 O0 P8 MF1 P9 P10) eh3 0 (by decide) (by decide) (by rw [hml]; rfl) [(.ref ov), (.int (2 : Int32))] [] (lenOf pd_1 rfl) rfl rfl (Nat.le_of_eq rfl) (b d23_70) ?_
      rintro T10 _ L10 X10 ⟨rfl, M10, eh10⟩
      have N10 := Fr.app N3 M10
      refine own_cS X10 hx hZ hown (w119 hw) (w120 hw) (w109 hw) (w121 hw) (rmLJ hw (own_c (own_c ((((own_b0 Xv2) &&& (255 : Int32)) <<< ((0 : Int32) &&& 31)) ||| (((own_b8 Xv2) &&& (255 : Int32)) <<< ((8 : Int32) &&& 31))))) O0) eh10 0 (by decide) (by decide) (by rw [hml]; rfl) [(.int (own_c (own_c ((((own_b0 Xv2) &&& (255 : Int32)) <<< ((0 : Int32) &&& 31)) ||| (((own_b8 Xv2) &&& (255 : Int32)) <<< ((8 : Int32) &&& 31))))))] [] (lenOf pd_0 rfl) rfl rfl (Nat.le_of_eq rfl) (b d23_73) ?_
      rintro T11 _ L11 X11 ⟨rfl, M11, eh11⟩
      have N11 := Fr.app N10 M11
      by_cases hc13 : (own_lo Xv2) = (0 : Int32)
      · have he14 := own_N0 Xv2 Mp5 Mp6
        have hn15 : (own_lo (own_c (own_c ((((own_b0 Xv2) &&& (255 : Int32)) <<< ((0 : Int32) &&& 31)) ||| (((own_b8 Xv2) &&& (255 : Int32)) <<< ((8 : Int32) &&& 31)))))) = (0 : Int32) := by
          rw [he14]
          exact hc13
        refine g_ifYes X11 hx (pc := 76) 44 (b d23_76) (XT.i0_eq_t hn15) (by decide) ?_
        show Go p e below _ (T11.setTop (mkF m 44 #[.val (.ref ov), .val (.int (0 : Int32)), .val (.int (3 : Int32)), .val (.int (0 : Int32)), .val (.int nv), .val (.int (2 : Int32))] []))
        exact tail2 _ _ _ X11 eh11 N11 (by rw [(own_pr0b (a := Xv1) hc13), own_s0]; exact hnv)
      · have he16 := own_N0 Xv2 Mp5 Mp6
        have hn17 : ¬ ((own_lo (own_c (own_c ((((own_b0 Xv2) &&& (255 : Int32)) <<< ((0 : Int32) &&& 31)) ||| (((own_b8 Xv2) &&& (255 : Int32)) <<< ((8 : Int32) &&& 31)))))) = (0 : Int32)) := by
          rw [he16]
          exact hc13
        refine g_ifNo X11 hx (b d23_76) (XT.i0_eq_f hn17) ?_
        refine g_iinc X11 hx (b d23_79) rfl (l' := #[.val (.ref ov), .val (.int (0 : Int32)), .val (.int (3 : Int32)), .val (.int (0 : Int32)), .val (.int (nv + (-1 : Int32))), .val (.int (2 : Int32))]) rfl ?_
        refine g_iinc X11 hx (b d23_82) rfl (l' := #[.val (.ref ov), .val (.int (0 : Int32)), .val (.int (3 : Int32)), .val (.int (0 : Int32)), .val (.int (nv + (-1 : Int32))), .val (.int (3 : Int32))]) rfl ?_
        refine g_goto X11 hx (pc := 85) 44 (b d23_85) (by decide) ?_
        show Go p e below _ (T11.setTop (mkF m 44 #[.val (.ref ov), .val (.int (0 : Int32)), .val (.int (3 : Int32)), .val (.int (0 : Int32)), .val (.int (nv + (-1 : Int32))), .val (.int (3 : Int32))] []))
        exact tail3 _ _ _ X11 eh11 N11 (by rw [(own_pr1 hc5 hc13), hnv]; exact own_s1 _)
  have tail0 : ∀ (T : State) (locs : List Loc) (nv : Int32), Stand p l e (R4 1 0 0 13) s m #[(.ref ov), (.int (0 : Int32)), (.int (3 : Int32)), (.int (0 : Int32))] below meth c T locs 0 0 → T.heap = h0 → Fr n0 locs → nv = (3 : Int32) → Go p e below (PP s (Q_rmC3 Z ov kv Xv0 Xv1 Xv2 h0 n0) (R4 1 0 0 13)) (T.setTop (mkF m 44 #[.val (.ref ov), .val (.int (0 : Int32)), .val (.int (3 : Int32)), .val (.int (0 : Int32)), .val (.int nv), .val (.int (0 : Int32))] [])) := by
    intro T locs nv X eT N hnv
    refine g_iload X hx (b d23_44) rfl ?_
    refine g_iloadN X hx (b d23_46) rfl ?_
    refine g_iconst X hx (1) (b d23_47) rfl ?_
    refine g_isubZ X hx (2 : Int32) (b d23_48) rfl ?_
    refine g_icmpNo X hx (b d23_49) (XT.ii_ge_f (by decide : (0 : Int32) < (2 : Int32))) ?_
    refine g_aloadN X hx (b d23_52) rfl rfl ?_
    refine g_iload X hx (b d23_53) rfl ?_
    refine g_iinc X hx (b d23_55) rfl (l' := #[.val (.ref ov), .val (.int (0 : Int32)), .val (.int (3 : Int32)), .val (.int (0 : Int32)), .val (.int nv), .val (.int (1 : Int32))]) rfl ?_
    refine own_cS X hx hZ hown (w66 hw) (w67 hw) (w45 hw) (w68 hw) (rm14_5 hw ov kv Xv0 Xv1 Xv2 O0 P8 MF1 P9 P10) eT 0 (by decide) (by decide) (by rw [hml]; rfl) [(.ref ov), (.int (0 : Int32))] [] (lenOf pd_1 rfl) rfl rfl (Nat.le_of_eq rfl) (b d23_58) ?_
    rintro T18 _ L18 X18 ⟨rfl, M18, eh18⟩
    have N18 := Fr.app N M18
    refine own_cS X18 hx hZ hown (w107 hw) (w108 hw) (w109 hw) (w110 hw) (rmHJ hw (own_c (own_c ((((own_b0 Xv0) &&& (255 : Int32)) <<< ((0 : Int32) &&& 31)) ||| (((own_b8 Xv0) &&& (255 : Int32)) <<< ((8 : Int32) &&& 31))))) O0) eh18 0 (by decide) (by decide) (by rw [hml]; rfl) [(.int (own_c (own_c ((((own_b0 Xv0) &&& (255 : Int32)) <<< ((0 : Int32) &&& 31)) ||| (((own_b8 Xv0) &&& (255 : Int32)) <<< ((8 : Int32) &&& 31))))))] [] (lenOf pd_0 rfl) rfl rfl (Nat.le_of_eq rfl) (b d23_61) ?_
    rintro T19 _ L19 X19 ⟨rfl, M19, eh19⟩
    have N19 := Fr.app N18 M19
    by_cases hc21 : (own_hi Xv0) = (0 : Int32)
    · have he22 := own_N0 Xv0 Mp1 Mp2
      have hn23 : (own_hi (own_c (own_c ((((own_b0 Xv0) &&& (255 : Int32)) <<< ((0 : Int32) &&& 31)) ||| (((own_b8 Xv0) &&& (255 : Int32)) <<< ((8 : Int32) &&& 31)))))) = (0 : Int32) := by
        rw [he22]
        exact hc21
      refine g_ifYes X19 hx (pc := 64) 44 (b d23_64) (XT.i0_eq_t hn23) (by decide) ?_
      show Go p e below _ (T19.setTop (mkF m 44 #[.val (.ref ov), .val (.int (0 : Int32)), .val (.int (3 : Int32)), .val (.int (0 : Int32)), .val (.int nv), .val (.int (1 : Int32))] []))
      exact tail1 _ _ _ X19 eh19 N19 (by rw [(own_pr0a (b := Xv1) hc21), own_s0]; exact hnv)
    · have he24 := own_N0 Xv0 Mp1 Mp2
      have hn25 : ¬ ((own_hi (own_c (own_c ((((own_b0 Xv0) &&& (255 : Int32)) <<< ((0 : Int32) &&& 31)) ||| (((own_b8 Xv0) &&& (255 : Int32)) <<< ((8 : Int32) &&& 31)))))) = (0 : Int32)) := by
        rw [he24]
        exact hc21
      refine g_ifNo X19 hx (b d23_64) (XT.i0_eq_f hn25) ?_
      refine g_aloadN X19 hx (b d23_67) rfl rfl ?_
      refine g_iload X19 hx (b d23_68) rfl ?_
      refine own_cS X19 hx hZ hown (w66 hw) (w67 hw) (w45 hw) (w68 hw) (rm14_3 hw ov kv Xv0 Xv1 Xv2 O0 P8 MF1 P9 P10) eh19 0 (by decide) (by decide) (by rw [hml]; rfl) [(.ref ov), (.int (1 : Int32))] [] (lenOf pd_1 rfl) rfl rfl (Nat.le_of_eq rfl) (b d23_70) ?_
      rintro T26 _ L26 X26 ⟨rfl, M26, eh26⟩
      have N26 := Fr.app N19 M26
      refine own_cS X26 hx hZ hown (w119 hw) (w120 hw) (w109 hw) (w121 hw) (rmLJ hw (own_c (own_c ((((own_b0 Xv1) &&& (255 : Int32)) <<< ((0 : Int32) &&& 31)) ||| (((own_b8 Xv1) &&& (255 : Int32)) <<< ((8 : Int32) &&& 31))))) O0) eh26 0 (by decide) (by decide) (by rw [hml]; rfl) [(.int (own_c (own_c ((((own_b0 Xv1) &&& (255 : Int32)) <<< ((0 : Int32) &&& 31)) ||| (((own_b8 Xv1) &&& (255 : Int32)) <<< ((8 : Int32) &&& 31))))))] [] (lenOf pd_0 rfl) rfl rfl (Nat.le_of_eq rfl) (b d23_73) ?_
      rintro T27 _ L27 X27 ⟨rfl, M27, eh27⟩
      have N27 := Fr.app N26 M27
      by_cases hc29 : (own_lo Xv1) = (0 : Int32)
      · have he30 := own_N0 Xv1 Mp3 Mp4
        have hn31 : (own_lo (own_c (own_c ((((own_b0 Xv1) &&& (255 : Int32)) <<< ((0 : Int32) &&& 31)) ||| (((own_b8 Xv1) &&& (255 : Int32)) <<< ((8 : Int32) &&& 31)))))) = (0 : Int32) := by
          rw [he30]
          exact hc29
        refine g_ifYes X27 hx (pc := 76) 44 (b d23_76) (XT.i0_eq_t hn31) (by decide) ?_
        show Go p e below _ (T27.setTop (mkF m 44 #[.val (.ref ov), .val (.int (0 : Int32)), .val (.int (3 : Int32)), .val (.int (0 : Int32)), .val (.int nv), .val (.int (1 : Int32))] []))
        exact tail1 _ _ _ X27 eh27 N27 (by rw [(own_pr0b (a := Xv0) hc29), own_s0]; exact hnv)
      · have he32 := own_N0 Xv1 Mp3 Mp4
        have hn33 : ¬ ((own_lo (own_c (own_c ((((own_b0 Xv1) &&& (255 : Int32)) <<< ((0 : Int32) &&& 31)) ||| (((own_b8 Xv1) &&& (255 : Int32)) <<< ((8 : Int32) &&& 31)))))) = (0 : Int32)) := by
          rw [he32]
          exact hc29
        refine g_ifNo X27 hx (b d23_76) (XT.i0_eq_f hn33) ?_
        refine g_iinc X27 hx (b d23_79) rfl (l' := #[.val (.ref ov), .val (.int (0 : Int32)), .val (.int (3 : Int32)), .val (.int (0 : Int32)), .val (.int (nv + (-1 : Int32))), .val (.int (1 : Int32))]) rfl ?_
        refine g_iinc X27 hx (b d23_82) rfl (l' := #[.val (.ref ov), .val (.int (0 : Int32)), .val (.int (3 : Int32)), .val (.int (0 : Int32)), .val (.int (nv + (-1 : Int32))), .val (.int (2 : Int32))]) rfl ?_
        refine g_goto X27 hx (pc := 85) 44 (b d23_85) (by decide) ?_
        show Go p e below _ (T27.setTop (mkF m 44 #[.val (.ref ov), .val (.int (0 : Int32)), .val (.int (3 : Int32)), .val (.int (0 : Int32)), .val (.int (nv + (-1 : Int32))), .val (.int (2 : Int32))] []))
        have hp34 : (own_hi Xv1) = (0 : Int32) := by
          have j1 := own_c32 (Xv1)
          have j2 := own_k32 (0 : Int32) (0) (by decide)
          have j3 := own_nlt32 Mp3
          have j4 := own_k32 (65535 : Int32) (65535) (by decide)
          have j5 := own_nlt32 Mp4
          have j6 : (0 : Int) ≤ (Xv1).toInt ∧ (Xv1).toInt ≤ 65535 := by constructor <;> omega
          have j7 := own_hl Xv1
          have j8 := own_hiB Xv1
          have j9 := own_nlt32 Mp3
          have j10 := own_nlt32 Mp4
          have j11 := own_hl Xv1
          have j12 := own_loB Xv1
          have j13 := own_neq32 hc29
          rw [← Int32.toInt_inj]
          omega
        exact tail2 _ _ _ X27 eh27 N27 (by rw [(own_pr1 hc21 hc29), (own_pr0a (b := Xv2) hp34), own_s0, hnv]; exact own_s1 _)
  exact tail0 _ _ _ X1 e1 N0 rfl
theorem rm14_6 (hw : HW Z a0) (a1 : Addr) (kz2 : ClassId) (p3 p4 p5 p6 : Int32) (O0 : Old Z n0 h0) (P1 : Sta Z Z.heap "java/lang/StringUTF16" "$assertionsDisabled" "Z" (.int (1 : Int32))) (P2 : Arv Z h0 a1 kz2 .byte (8 : Int32) [(.int (own_b0 p3)), (.int (own_b8 p3)), (.int (own_b0 p4)), (.int (own_b8 p4)), (.int (own_b0 p5)), (.int (own_b8 p5)), (.int (own_b0 p6)), (.int (own_b8 p6))] (.int (0 : Int32))) (P3 : Sta Z Z.heap "java/lang/StringUTF16" "HI_BYTE_SHIFT" "I" (.int (0 : Int32))) (P4 : Sta Z Z.heap "java/lang/StringUTF16" "LO_BYTE_SHIFT" "I" (.int (8 : Int32))) :
    MM l mn7 jdk_52_method_5_code 2 (some .char) (R4 0 0 0 0) #[(.ref a1), (.int (2 : Int32))] Z h0 (fun v h L => v = some (.int (own_c (own_c ((((own_b0 p5) &&& (255 : Int32)) <<< ((0 : Int32) &&& 31)) ||| (((own_b8 p5) &&& (255 : Int32)) <<< ((8 : Int32) &&& 31)))))) ∧ Fr n0 L ∧ h = h0) := by
  refine own_hN n0 rfl pn_2 ?_
  intro p e s m below meth c s₁ hx b hml hret hZ hown hnm X0 e0 N0
  refine own_ct (mkF m 0 #[.val (.ref a1), .val (.int (2 : Int32))] []) rfl ?_
  obtain ⟨T1, X1, e1, st1⟩ := getS2 X0 hx hZ hown (host := "") (Or.inl (w63 hw)) Via.refl e0 (P1.ext O0.2) (g := (mkF m 0 #[.val (.ref a1), .val (.int (2 : Int32))] [])) rfl (b d14_0)
  refine Go.st st1 ?_
  refine g_ifYes X1 hx (pc := 3) 28 (b d14_3) (XT.i0_ne_t (by decide : ¬ ((1 : Int32) = (0 : Int32)))) (by decide) ?_
  refine g_iloadN X1 hx (b d14_28) rfl ?_
  refine g_iconst X1 hx (1) (b d14_29) rfl ?_
  refine g_ishlZ X1 hx (4 : Int32) (b d14_30) rfl ?_
  refine g_istoreN X1 hx (b d14_31) (l' := #[.val (.ref a1), .val (.int (4 : Int32))]) rfl ?_
  refine g_aloadN X1 hx (b d14_32) rfl rfl ?_
  refine g_iloadN X1 hx (b d14_33) rfl ?_
  refine g_iinc X1 hx (b d14_34) rfl (l' := #[.val (.ref a1), .val (.int (5 : Int32))]) rfl ?_
  obtain ⟨cl2, Ar2, q2, S2, M2, H2, G2⟩ := id P2
  have hin2 : ¬ ((4 : Int32) < 0 ∨ cl2.slots.size ≤ ((4 : Int32)).toNatClampNeg) := inb_of S2 ⟨by decide, by decide⟩
  have hat2 : cl2.slots[((4 : Int32)).toNatClampNeg]? = some (.int (own_b0 p5)) := H2.at hin2 rfl
  refine Go.st (fun t k => X1.baloadBytes hx (j := (4 : Int32)) (v := (.int (own_b0 p5))) (by rw [e1]; exact Ar2.1) (State.isArrayOf_alike hZ.alike Ar2.2.1) Ar2.2.2 hin2 hat2 (g := (mkF m 37 #[.val (.ref a1), .val (.int (5 : Int32))] [(.int (4 : Int32)), (.ref a1)])) rfl rfl (b d14_37) t k) ?_
  refine g_sipush X1 hx (255) (b d14_38) rfl ?_
  refine g_iand X1 hx (b d14_41) ?_
  obtain ⟨T3, X3, e3, st3⟩ := getS2 X1 hx hZ hown (host := "") (Or.inl (w64 hw)) Via.refl e1 (P3.ext O0.2) (g := (mkF m 42 #[.val (.ref a1), .val (.int (5 : Int32))] [(.int ((own_b0 p5) &&& (255 : Int32)))])) rfl (b d14_42)
  refine Go.st st3 ?_
  refine g_ishl X3 hx (b d14_45) ?_
  refine g_aloadN X3 hx (b d14_46) rfl rfl ?_
  refine g_iloadN X3 hx (b d14_47) rfl ?_
  obtain ⟨cl4, Ar4, q4, S4, M4, H4, G4⟩ := id P2
  have hin4 : ¬ ((5 : Int32) < 0 ∨ cl4.slots.size ≤ ((5 : Int32)).toNatClampNeg) := inb_of S4 ⟨by decide, by decide⟩
  have hat4 : cl4.slots[((5 : Int32)).toNatClampNeg]? = some (.int (own_b8 p5)) := H4.at hin4 rfl
  refine Go.st (fun t k => X3.baloadBytes hx (j := (5 : Int32)) (v := (.int (own_b8 p5))) (by rw [e3]; exact Ar4.1) (State.isArrayOf_alike hZ.alike Ar4.2.1) Ar4.2.2 hin4 hat4 (g := (mkF m 48 #[.val (.ref a1), .val (.int (5 : Int32))] [(.int (5 : Int32)), (.ref a1), (.int (((own_b0 p5) &&& (255 : Int32)) <<< ((0 : Int32) &&& 31)))])) rfl rfl (b d14_48) t k) ?_
  refine g_sipush X3 hx (255) (b d14_49) rfl ?_
  refine g_iand X3 hx (b d14_52) ?_
  obtain ⟨T5, X5, e5, st5⟩ := getS2 X3 hx hZ hown (host := "") (Or.inl (w65 hw)) Via.refl e3 (P4.ext O0.2) (g := (mkF m 53 #[.val (.ref a1), .val (.int (5 : Int32))] [(.int ((own_b8 p5) &&& (255 : Int32))), (.int (((own_b0 p5) &&& (255 : Int32)) <<< ((0 : Int32) &&& 31)))])) rfl (b d14_53)
  refine Go.st st5 ?_
  refine g_ishl X5 hx (b d14_56) ?_
  refine g_ior X5 hx (b d14_57) ?_
  refine g_i2cZ X5 hx (own_c ((((own_b0 p5) &&& (255 : Int32)) <<< ((0 : Int32) &&& 31)) ||| (((own_b8 p5) &&& (255 : Int32)) <<< ((8 : Int32) &&& 31)))) (b d14_58) rfl ?_
  exact own_eB X5 hx hret (by simp) rfl (b d14_59) e5 (by decide) ⟨rfl, N0, rfl⟩
theorem rm14_7 (hw : HW Z a0) (a1 : Addr) (kz2 : ClassId) (p3 p4 p5 p6 : Int32) (O0 : Old Z n0 h0) (P1 : Sta Z Z.heap "java/lang/StringUTF16" "$assertionsDisabled" "Z" (.int (1 : Int32))) (P2 : Arv Z h0 a1 kz2 .byte (8 : Int32) [(.int (own_b0 p3)), (.int (own_b8 p3)), (.int (own_b0 p4)), (.int (own_b8 p4)), (.int (own_b0 p5)), (.int (own_b8 p5)), (.int (own_b0 p6)), (.int (own_b8 p6))] (.int (0 : Int32))) (P3 : Sta Z Z.heap "java/lang/StringUTF16" "HI_BYTE_SHIFT" "I" (.int (0 : Int32))) (P4 : Sta Z Z.heap "java/lang/StringUTF16" "LO_BYTE_SHIFT" "I" (.int (8 : Int32))) :
    MM l mn7 jdk_52_method_5_code 2 (some .char) (R4 0 0 0 0) #[(.ref a1), (.int (3 : Int32))] Z h0 (fun v h L => v = some (.int (own_c (own_c ((((own_b0 p6) &&& (255 : Int32)) <<< ((0 : Int32) &&& 31)) ||| (((own_b8 p6) &&& (255 : Int32)) <<< ((8 : Int32) &&& 31)))))) ∧ Fr n0 L ∧ h = h0) := by
  refine own_hN n0 rfl pn_2 ?_
  intro p e s m below meth c s₁ hx b hml hret hZ hown hnm X0 e0 N0
  refine own_ct (mkF m 0 #[.val (.ref a1), .val (.int (3 : Int32))] []) rfl ?_
  obtain ⟨T1, X1, e1, st1⟩ := getS2 X0 hx hZ hown (host := "") (Or.inl (w63 hw)) Via.refl e0 (P1.ext O0.2) (g := (mkF m 0 #[.val (.ref a1), .val (.int (3 : Int32))] [])) rfl (b d14_0)
  refine Go.st st1 ?_
  refine g_ifYes X1 hx (pc := 3) 28 (b d14_3) (XT.i0_ne_t (by decide : ¬ ((1 : Int32) = (0 : Int32)))) (by decide) ?_
  refine g_iloadN X1 hx (b d14_28) rfl ?_
  refine g_iconst X1 hx (1) (b d14_29) rfl ?_
  refine g_ishlZ X1 hx (6 : Int32) (b d14_30) rfl ?_
  refine g_istoreN X1 hx (b d14_31) (l' := #[.val (.ref a1), .val (.int (6 : Int32))]) rfl ?_
  refine g_aloadN X1 hx (b d14_32) rfl rfl ?_
  refine g_iloadN X1 hx (b d14_33) rfl ?_
  refine g_iinc X1 hx (b d14_34) rfl (l' := #[.val (.ref a1), .val (.int (7 : Int32))]) rfl ?_
  obtain ⟨cl2, Ar2, q2, S2, M2, H2, G2⟩ := id P2
  have hin2 : ¬ ((6 : Int32) < 0 ∨ cl2.slots.size ≤ ((6 : Int32)).toNatClampNeg) := inb_of S2 ⟨by decide, by decide⟩
  have hat2 : cl2.slots[((6 : Int32)).toNatClampNeg]? = some (.int (own_b0 p6)) := H2.at hin2 rfl
  refine Go.st (fun t k => X1.baloadBytes hx (j := (6 : Int32)) (v := (.int (own_b0 p6))) (by rw [e1]; exact Ar2.1) (State.isArrayOf_alike hZ.alike Ar2.2.1) Ar2.2.2 hin2 hat2 (g := (mkF m 37 #[.val (.ref a1), .val (.int (7 : Int32))] [(.int (6 : Int32)), (.ref a1)])) rfl rfl (b d14_37) t k) ?_
  refine g_sipush X1 hx (255) (b d14_38) rfl ?_
  refine g_iand X1 hx (b d14_41) ?_
  obtain ⟨T3, X3, e3, st3⟩ := getS2 X1 hx hZ hown (host := "") (Or.inl (w64 hw)) Via.refl e1 (P3.ext O0.2) (g := (mkF m 42 #[.val (.ref a1), .val (.int (7 : Int32))] [(.int ((own_b0 p6) &&& (255 : Int32)))])) rfl (b d14_42)
  refine Go.st st3 ?_
  refine g_ishl X3 hx (b d14_45) ?_
  refine g_aloadN X3 hx (b d14_46) rfl rfl ?_
  refine g_iloadN X3 hx (b d14_47) rfl ?_
  obtain ⟨cl4, Ar4, q4, S4, M4, H4, G4⟩ := id P2
  have hin4 : ¬ ((7 : Int32) < 0 ∨ cl4.slots.size ≤ ((7 : Int32)).toNatClampNeg) := inb_of S4 ⟨by decide, by decide⟩
  have hat4 : cl4.slots[((7 : Int32)).toNatClampNeg]? = some (.int (own_b8 p6)) := H4.at hin4 rfl
  refine Go.st (fun t k => X3.baloadBytes hx (j := (7 : Int32)) (v := (.int (own_b8 p6))) (by rw [e3]; exact Ar4.1) (State.isArrayOf_alike hZ.alike Ar4.2.1) Ar4.2.2 hin4 hat4 (g := (mkF m 48 #[.val (.ref a1), .val (.int (7 : Int32))] [(.int (7 : Int32)), (.ref a1), (.int (((own_b0 p6) &&& (255 : Int32)) <<< ((0 : Int32) &&& 31)))])) rfl rfl (b d14_48) t k) ?_
  refine g_sipush X3 hx (255) (b d14_49) rfl ?_
  refine g_iand X3 hx (b d14_52) ?_
  obtain ⟨T5, X5, e5, st5⟩ := getS2 X3 hx hZ hown (host := "") (Or.inl (w65 hw)) Via.refl e3 (P4.ext O0.2) (g := (mkF m 53 #[.val (.ref a1), .val (.int (7 : Int32))] [(.int ((own_b8 p6) &&& (255 : Int32))), (.int (((own_b0 p6) &&& (255 : Int32)) <<< ((0 : Int32) &&& 31)))])) rfl (b d14_53)
  refine Go.st st5 ?_
  refine g_ishl X5 hx (b d14_56) ?_
  refine g_ior X5 hx (b d14_57) ?_
  refine g_i2cZ X5 hx (own_c ((((own_b0 p6) &&& (255 : Int32)) <<< ((0 : Int32) &&& 31)) ||| (((own_b8 p6) &&& (255 : Int32)) <<< ((8 : Int32) &&& 31)))) (b d14_58) rfl ?_
  exact own_eB X5 hx hret (by simp) rfl (b d14_59) e5 (by decide) ⟨rfl, N0, rfl⟩
theorem rm14_8 (hw : HW Z a0) (a1 : Addr) (kz2 : ClassId) (p3 p4 p5 p6 : Int32) (O0 : Old Z n0 h0) (P1 : Sta Z Z.heap "java/lang/StringUTF16" "$assertionsDisabled" "Z" (.int (1 : Int32))) (P2 : Arv Z h0 a1 kz2 .byte (8 : Int32) [(.int (own_b0 p3)), (.int (own_b8 p3)), (.int (own_b0 p4)), (.int (own_b8 p4)), (.int (own_b0 p5)), (.int (own_b8 p5)), (.int (own_b0 p6)), (.int (own_b8 p6))] (.int (0 : Int32))) (P3 : Sta Z Z.heap "java/lang/StringUTF16" "HI_BYTE_SHIFT" "I" (.int (0 : Int32))) (P4 : Sta Z Z.heap "java/lang/StringUTF16" "LO_BYTE_SHIFT" "I" (.int (8 : Int32))) :
    MM l mn7 jdk_52_method_5_code 2 (some .char) (R4 0 0 0 0) #[(.ref a1), (.int (1 : Int32))] Z h0 (fun v h L => v = some (.int (own_c (own_c ((((own_b0 p4) &&& (255 : Int32)) <<< ((0 : Int32) &&& 31)) ||| (((own_b8 p4) &&& (255 : Int32)) <<< ((8 : Int32) &&& 31)))))) ∧ Fr n0 L ∧ h = h0) := by
  refine own_hN n0 rfl pn_2 ?_
  intro p e s m below meth c s₁ hx b hml hret hZ hown hnm X0 e0 N0
  refine own_ct (mkF m 0 #[.val (.ref a1), .val (.int (1 : Int32))] []) rfl ?_
  obtain ⟨T1, X1, e1, st1⟩ := getS2 X0 hx hZ hown (host := "") (Or.inl (w63 hw)) Via.refl e0 (P1.ext O0.2) (g := (mkF m 0 #[.val (.ref a1), .val (.int (1 : Int32))] [])) rfl (b d14_0)
  refine Go.st st1 ?_
  refine g_ifYes X1 hx (pc := 3) 28 (b d14_3) (XT.i0_ne_t (by decide : ¬ ((1 : Int32) = (0 : Int32)))) (by decide) ?_
  refine g_iloadN X1 hx (b d14_28) rfl ?_
  refine g_iconst X1 hx (1) (b d14_29) rfl ?_
  refine g_ishlZ X1 hx (2 : Int32) (b d14_30) rfl ?_
  refine g_istoreN X1 hx (b d14_31) (l' := #[.val (.ref a1), .val (.int (2 : Int32))]) rfl ?_
  refine g_aloadN X1 hx (b d14_32) rfl rfl ?_
  refine g_iloadN X1 hx (b d14_33) rfl ?_
  refine g_iinc X1 hx (b d14_34) rfl (l' := #[.val (.ref a1), .val (.int (3 : Int32))]) rfl ?_
  obtain ⟨cl2, Ar2, q2, S2, M2, H2, G2⟩ := id P2
  have hin2 : ¬ ((2 : Int32) < 0 ∨ cl2.slots.size ≤ ((2 : Int32)).toNatClampNeg) := inb_of S2 ⟨by decide, by decide⟩
  have hat2 : cl2.slots[((2 : Int32)).toNatClampNeg]? = some (.int (own_b0 p4)) := H2.at hin2 rfl
  refine Go.st (fun t k => X1.baloadBytes hx (j := (2 : Int32)) (v := (.int (own_b0 p4))) (by rw [e1]; exact Ar2.1) (State.isArrayOf_alike hZ.alike Ar2.2.1) Ar2.2.2 hin2 hat2 (g := (mkF m 37 #[.val (.ref a1), .val (.int (3 : Int32))] [(.int (2 : Int32)), (.ref a1)])) rfl rfl (b d14_37) t k) ?_
  refine g_sipush X1 hx (255) (b d14_38) rfl ?_
  refine g_iand X1 hx (b d14_41) ?_
  obtain ⟨T3, X3, e3, st3⟩ := getS2 X1 hx hZ hown (host := "") (Or.inl (w64 hw)) Via.refl e1 (P3.ext O0.2) (g := (mkF m 42 #[.val (.ref a1), .val (.int (3 : Int32))] [(.int ((own_b0 p4) &&& (255 : Int32)))])) rfl (b d14_42)
  refine Go.st st3 ?_
  refine g_ishl X3 hx (b d14_45) ?_
  refine g_aloadN X3 hx (b d14_46) rfl rfl ?_
  refine g_iloadN X3 hx (b d14_47) rfl ?_
  obtain ⟨cl4, Ar4, q4, S4, M4, H4, G4⟩ := id P2
  have hin4 : ¬ ((3 : Int32) < 0 ∨ cl4.slots.size ≤ ((3 : Int32)).toNatClampNeg) := inb_of S4 ⟨by decide, by decide⟩
  have hat4 : cl4.slots[((3 : Int32)).toNatClampNeg]? = some (.int (own_b8 p4)) := H4.at hin4 rfl
  refine Go.st (fun t k => X3.baloadBytes hx (j := (3 : Int32)) (v := (.int (own_b8 p4))) (by rw [e3]; exact Ar4.1) (State.isArrayOf_alike hZ.alike Ar4.2.1) Ar4.2.2 hin4 hat4 (g := (mkF m 48 #[.val (.ref a1), .val (.int (3 : Int32))] [(.int (3 : Int32)), (.ref a1), (.int (((own_b0 p4) &&& (255 : Int32)) <<< ((0 : Int32) &&& 31)))])) rfl rfl (b d14_48) t k) ?_
  refine g_sipush X3 hx (255) (b d14_49) rfl ?_
  refine g_iand X3 hx (b d14_52) ?_
  obtain ⟨T5, X5, e5, st5⟩ := getS2 X3 hx hZ hown (host := "") (Or.inl (w65 hw)) Via.refl e3 (P4.ext O0.2) (g := (mkF m 53 #[.val (.ref a1), .val (.int (3 : Int32))] [(.int ((own_b8 p4) &&& (255 : Int32))), (.int (((own_b0 p4) &&& (255 : Int32)) <<< ((0 : Int32) &&& 31)))])) rfl (b d14_53)
  refine Go.st st5 ?_
  refine g_ishl X5 hx (b d14_56) ?_
  refine g_ior X5 hx (b d14_57) ?_
  refine g_i2cZ X5 hx (own_c ((((own_b0 p4) &&& (255 : Int32)) <<< ((0 : Int32) &&& 31)) ||| (((own_b8 p4) &&& (255 : Int32)) <<< ((8 : Int32) &&& 31)))) (b d14_58) rfl ?_
  exact own_eB X5 hx hret (by simp) rfl (b d14_59) e5 (by decide) ⟨rfl, N0, rfl⟩
theorem rm14_9 (hw : HW Z a0) (a1 : Addr) (kz2 : ClassId) (p3 p4 p5 p6 : Int32) (O0 : Old Z n0 h0) (P1 : Sta Z Z.heap "java/lang/StringUTF16" "$assertionsDisabled" "Z" (.int (1 : Int32))) (P2 : Arv Z h0 a1 kz2 .byte (8 : Int32) [(.int (own_b0 p3)), (.int (own_b8 p3)), (.int (own_b0 p4)), (.int (own_b8 p4)), (.int (own_b0 p5)), (.int (own_b8 p5)), (.int (own_b0 p6)), (.int (own_b8 p6))] (.int (0 : Int32))) (P3 : Sta Z Z.heap "java/lang/StringUTF16" "HI_BYTE_SHIFT" "I" (.int (0 : Int32))) (P4 : Sta Z Z.heap "java/lang/StringUTF16" "LO_BYTE_SHIFT" "I" (.int (8 : Int32))) :
    MM l mn7 jdk_52_method_5_code 2 (some .char) (R4 0 0 0 0) #[(.ref a1), (.int (0 : Int32))] Z h0 (fun v h L => v = some (.int (own_c (own_c ((((own_b0 p3) &&& (255 : Int32)) <<< ((0 : Int32) &&& 31)) ||| (((own_b8 p3) &&& (255 : Int32)) <<< ((8 : Int32) &&& 31)))))) ∧ Fr n0 L ∧ h = h0) := by
  refine own_hN n0 rfl pn_2 ?_
  intro p e s m below meth c s₁ hx b hml hret hZ hown hnm X0 e0 N0
  refine own_ct (mkF m 0 #[.val (.ref a1), .val (.int (0 : Int32))] []) rfl ?_
  obtain ⟨T1, X1, e1, st1⟩ := getS2 X0 hx hZ hown (host := "") (Or.inl (w63 hw)) Via.refl e0 (P1.ext O0.2) (g := (mkF m 0 #[.val (.ref a1), .val (.int (0 : Int32))] [])) rfl (b d14_0)
  refine Go.st st1 ?_
  refine g_ifYes X1 hx (pc := 3) 28 (b d14_3) (XT.i0_ne_t (by decide : ¬ ((1 : Int32) = (0 : Int32)))) (by decide) ?_
  refine g_iloadN X1 hx (b d14_28) rfl ?_
  refine g_iconst X1 hx (1) (b d14_29) rfl ?_
  refine g_ishlZ X1 hx (0 : Int32) (b d14_30) rfl ?_
  refine g_istoreN X1 hx (b d14_31) (l' := #[.val (.ref a1), .val (.int (0 : Int32))]) rfl ?_
  refine g_aloadN X1 hx (b d14_32) rfl rfl ?_
  refine g_iloadN X1 hx (b d14_33) rfl ?_
  refine g_iinc X1 hx (b d14_34) rfl (l' := #[.val (.ref a1), .val (.int (1 : Int32))]) rfl ?_
  obtain ⟨cl2, Ar2, q2, S2, M2, H2, G2⟩ := id P2
  have hin2 : ¬ ((0 : Int32) < 0 ∨ cl2.slots.size ≤ ((0 : Int32)).toNatClampNeg) := inb_of S2 ⟨by decide, by decide⟩
  have hat2 : cl2.slots[((0 : Int32)).toNatClampNeg]? = some (.int (own_b0 p3)) := H2.at hin2 rfl
  refine Go.st (fun t k => X1.baloadBytes hx (j := (0 : Int32)) (v := (.int (own_b0 p3))) (by rw [e1]; exact Ar2.1) (State.isArrayOf_alike hZ.alike Ar2.2.1) Ar2.2.2 hin2 hat2 (g := (mkF m 37 #[.val (.ref a1), .val (.int (1 : Int32))] [(.int (0 : Int32)), (.ref a1)])) rfl rfl (b d14_37) t k) ?_
  refine g_sipush X1 hx (255) (b d14_38) rfl ?_
  refine g_iand X1 hx (b d14_41) ?_
  obtain ⟨T3, X3, e3, st3⟩ := getS2 X1 hx hZ hown (host := "") (Or.inl (w64 hw)) Via.refl e1 (P3.ext O0.2) (g := (mkF m 42 #[.val (.ref a1), .val (.int (1 : Int32))] [(.int ((own_b0 p3) &&& (255 : Int32)))])) rfl (b d14_42)
  refine Go.st st3 ?_
  refine g_ishl X3 hx (b d14_45) ?_
  refine g_aloadN X3 hx (b d14_46) rfl rfl ?_
  refine g_iloadN X3 hx (b d14_47) rfl ?_
  obtain ⟨cl4, Ar4, q4, S4, M4, H4, G4⟩ := id P2
  have hin4 : ¬ ((1 : Int32) < 0 ∨ cl4.slots.size ≤ ((1 : Int32)).toNatClampNeg) := inb_of S4 ⟨by decide, by decide⟩
  have hat4 : cl4.slots[((1 : Int32)).toNatClampNeg]? = some (.int (own_b8 p3)) := H4.at hin4 rfl
  refine Go.st (fun t k => X3.baloadBytes hx (j := (1 : Int32)) (v := (.int (own_b8 p3))) (by rw [e3]; exact Ar4.1) (State.isArrayOf_alike hZ.alike Ar4.2.1) Ar4.2.2 hin4 hat4 (g := (mkF m 48 #[.val (.ref a1), .val (.int (1 : Int32))] [(.int (1 : Int32)), (.ref a1), (.int (((own_b0 p3) &&& (255 : Int32)) <<< ((0 : Int32) &&& 31)))])) rfl rfl (b d14_48) t k) ?_
  refine g_sipush X3 hx (255) (b d14_49) rfl ?_
  refine g_iand X3 hx (b d14_52) ?_
  obtain ⟨T5, X5, e5, st5⟩ := getS2 X3 hx hZ hown (host := "") (Or.inl (w65 hw)) Via.refl e3 (P4.ext O0.2) (g := (mkF m 53 #[.val (.ref a1), .val (.int (1 : Int32))] [(.int ((own_b8 p3) &&& (255 : Int32))), (.int (((own_b0 p3) &&& (255 : Int32)) <<< ((0 : Int32) &&& 31)))])) rfl (b d14_53)
  refine Go.st st5 ?_
  refine g_ishl X5 hx (b d14_56) ?_
  refine g_ior X5 hx (b d14_57) ?_
  refine g_i2cZ X5 hx (own_c ((((own_b0 p3) &&& (255 : Int32)) <<< ((0 : Int32) &&& 31)) ||| (((own_b8 p3) &&& (255 : Int32)) <<< ((8 : Int32) &&& 31)))) (b d14_58) rfl ?_
  exact own_eB X5 hx hret (by simp) rfl (b d14_59) e5 (by decide) ⟨rfl, N0, rfl⟩
def Q_rmC4 (Z : State) (ov : Addr) (kv : ClassId) (Xv0 : Int32) (Xv1 : Int32) (Xv2 : Int32) (Xv3 : Int32) (h0 : Heap) (n0 : Nat) (v : Option Value) (h : Heap) (L : List Loc) : Prop := v = some (.int ((((4 : Int32) - (own_pr Xv0 Xv1)) - (own_pr Xv1 Xv2)) - (own_pr Xv2 Xv3))) ∧ Fr n0 L ∧ h = h0
theorem rmC4 (hw : HW Z a0) (ov : Addr) (kv : ClassId) (Xv0 Xv1 Xv2 Xv3 : Int32) (O0 : Old Z n0 h0) (MF1 : Arv Z h0 ov kv .byte (8 : Int32) [(.int (own_b0 Xv0)), (.int (own_b8 Xv0)), (.int (own_b0 Xv1)), (.int (own_b8 Xv1)), (.int (own_b0 Xv2)), (.int (own_b8 Xv2)), (.int (own_b0 Xv3)), (.int (own_b8 Xv3))] (.int (0 : Int32))) (Mp1 : ¬ (Xv0 < (0 : Int32))) (Mp2 : ¬ ((65535 : Int32) < Xv0)) (Mp3 : ¬ (Xv1 < (0 : Int32))) (Mp4 : ¬ ((65535 : Int32) < Xv1)) (Mp5 : ¬ (Xv2 < (0 : Int32))) (Mp6 : ¬ ((65535 : Int32) < Xv2)) (Mp7 : ¬ (Xv3 < (0 : Int32))) (Mp8 : ¬ ((65535 : Int32) < Xv3)) (P10 : Sta Z Z.heap "java/lang/StringUTF16" "$assertionsDisabled" "Z" (.int (1 : Int32))) (P11 : Sta Z Z.heap "java/lang/StringUTF16" "HI_BYTE_SHIFT" "I" (.int (0 : Int32))) (P12 : Sta Z Z.heap "java/lang/StringUTF16" "LO_BYTE_SHIFT" "I" (.int (8 : Int32))) :
    MM l mn6 jdk_52_method_11_code 6 (some .int) (R4 1 0 0 13) #[(.ref ov), (.int (0 : Int32)), (.int (4 : Int32)), (.int (0 : Int32))] Z h0 (Q_rmC4 Z ov kv Xv0 Xv1 Xv2 Xv3 h0 n0) := by
  refine own_hN n0 rfl pn_2 ?_
  intro p e s m below meth c s₁ hx b hml hret hZ hown hnm X0 e0 N0
  refine own_ct (mkF m 0 #[.val (.ref ov), .val (.int (0 : Int32)), .val (.int (4 : Int32)), .val (.int (0 : Int32)), .unset, .unset] []) rfl ?_
  obtain ⟨T1, X1, e1, st1⟩ := getS2 X0 hx hZ hown (host := "") (Or.inl (w63 hw)) Via.refl e0 (P10.ext O0.2) (g := (mkF m 0 #[.val (.ref ov), .val (.int (0 : Int32)), .val (.int (4 : Int32)), .val (.int (0 : Int32)), .unset, .unset] [])) rfl (b d23_0)
  refine Go.st st1 ?_
  refine g_ifYes X1 hx (pc := 3) 19 (b d23_3) (XT.i0_ne_t (by decide : ¬ ((1 : Int32) = (0 : Int32)))) (by decide) ?_
  refine g_iloadN X1 hx (b d23_19) rfl ?_
  refine g_iloadN X1 hx (b d23_20) rfl ?_
  refine g_isubZ X1 hx (4 : Int32) (b d23_21) rfl ?_
  refine g_istore X1 hx (b d23_22) (l' := #[.val (.ref ov), .val (.int (0 : Int32)), .val (.int (4 : Int32)), .val (.int (0 : Int32)), .val (.int (4 : Int32)), .unset]) rfl ?_
  refine g_iloadN X1 hx (b d23_24) rfl ?_
  refine g_istore X1 hx (b d23_25) (l' := #[.val (.ref ov), .val (.int (0 : Int32)), .val (.int (4 : Int32)), .val (.int (0 : Int32)), .val (.int (4 : Int32)), .val (.int (0 : Int32))]) rfl ?_
  refine g_iloadN X1 hx (b d23_27) rfl ?_
  refine g_ifYes X1 hx (pc := 28) 44 (b d23_28) (XT.i0_eq_t (by decide : (0 : Int32) = (0 : Int32))) (by decide) ?_
  show Go p e below _ (T1.setTop (mkF m 44 #[.val (.ref ov), .val (.int (0 : Int32)), .val (.int (4 : Int32)), .val (.int (0 : Int32)), .val (.int (4 : Int32)), .val (.int (0 : Int32))] []))
  have tail4 : ∀ (T : State) (locs : List Loc) (nv : Int32), Stand p l e (R4 1 0 0 13) s m #[(.ref ov), (.int (0 : Int32)), (.int (4 : Int32)), (.int (0 : Int32))] below meth c T locs 0 0 → T.heap = h0 → Fr n0 locs → nv = ((((4 : Int32) - (own_pr Xv0 Xv1)) - (own_pr Xv1 Xv2)) - (own_pr Xv2 Xv3)) → Go p e below (PP s (Q_rmC4 Z ov kv Xv0 Xv1 Xv2 Xv3 h0 n0) (R4 1 0 0 13)) (T.setTop (mkF m 44 #[.val (.ref ov), .val (.int (0 : Int32)), .val (.int (4 : Int32)), .val (.int (0 : Int32)), .val (.int nv), .val (.int (4 : Int32))] [])) := by
    intro T locs nv X eT N hnv
    refine g_iload X hx (b d23_44) rfl ?_
    refine g_iloadN X hx (b d23_46) rfl ?_
    refine g_iconst X hx (1) (b d23_47) rfl ?_
    refine g_isubZ X hx (3 : Int32) (b d23_48) rfl ?_
    refine g_icmpYes X hx (pc := 49) 88 (b d23_49) (XT.ii_ge_t (by decide : ¬ ((4 : Int32) < (3 : Int32)))) (by decide) ?_
    refine g_iload X hx (b d23_88) rfl ?_
    exact own_eI X hx hret (b d23_90) eT (by decide) ⟨(congrArg (fun z => some (Value.int z)) hnv), N, rfl⟩
  have tail3 : ∀ (T : State) (locs : List Loc) (nv : Int32), Stand p l e (R4 1 0 0 13) s m #[(.ref ov), (.int (0 : Int32)), (.int (4 : Int32)), (.int (0 : Int32))] below meth c T locs 0 0 → T.heap = h0 → Fr n0 locs → nv = ((((4 : Int32) - (own_pr Xv0 Xv1)) - (own_pr Xv1 Xv2)) - (own_pr Xv2 Xv3)) → Go p e below (PP s (Q_rmC4 Z ov kv Xv0 Xv1 Xv2 Xv3 h0 n0) (R4 1 0 0 13)) (T.setTop (mkF m 44 #[.val (.ref ov), .val (.int (0 : Int32)), .val (.int (4 : Int32)), .val (.int (0 : Int32)), .val (.int nv), .val (.int (3 : Int32))] [])) := by
    intro T locs nv X eT N hnv
    refine g_iload X hx (b d23_44) rfl ?_
    refine g_iloadN X hx (b d23_46) rfl ?_
    refine g_iconst X hx (1) (b d23_47) rfl ?_
    refine g_isubZ X hx (3 : Int32) (b d23_48) rfl ?_
    refine g_icmpYes X hx (pc := 49) 88 (b d23_49) (XT.ii_ge_t (by decide : ¬ ((3 : Int32) < (3 : Int32)))) (by decide) ?_
    refine g_iload X hx (b d23_88) rfl ?_
    exact own_eI X hx hret (b d23_90) eT (by decide) ⟨(congrArg (fun z => some (Value.int z)) hnv), N, rfl⟩
  have tail2 : ∀ (T : State) (locs : List Loc) (nv : Int32), Stand p l e (R4 1 0 0 13) s m #[(.ref ov), (.int (0 : Int32)), (.int (4 : Int32)), (.int (0 : Int32))] below meth c T locs 0 0 → T.heap = h0 → Fr n0 locs → nv = (((4 : Int32) - (own_pr Xv0 Xv1)) - (own_pr Xv1 Xv2)) → Go p e below (PP s (Q_rmC4 Z ov kv Xv0 Xv1 Xv2 Xv3 h0 n0) (R4 1 0 0 13)) (T.setTop (mkF m 44 #[.val (.ref ov), .val (.int (0 : Int32)), .val (.int (4 : Int32)), .val (.int (0 : Int32)), .val (.int nv), .val (.int (2 : Int32))] [])) := by
    intro T locs nv X eT N hnv
    refine g_iload X hx (b d23_44) rfl ?_
    refine g_iloadN X hx (b d23_46) rfl ?_
    refine g_iconst X hx (1) (b d23_47) rfl ?_
    refine g_isubZ X hx (3 : Int32) (b d23_48) rfl ?_
    refine g_icmpNo X hx (b d23_49) (XT.ii_ge_f (by decide : (2 : Int32) < (3 : Int32))) ?_
    refine g_aloadN X hx (b d23_52) rfl rfl ?_
    refine g_iload X hx (b d23_53) rfl ?_
    refine g_iinc X hx (b d23_55) rfl (l' := #[.val (.ref ov), .val (.int (0 : Int32)), .val (.int (4 : Int32)), .val (.int (0 : Int32)), .val (.int nv), .val (.int (3 : Int32))]) rfl ?_
    refine own_cS X hx hZ hown (w66 hw) (w67 hw) (w45 hw) (w68 hw) (rm14_6 hw ov kv Xv0 Xv1 Xv2 Xv3 O0 P10 MF1 P11 P12) eT 0 (by decide) (by decide) (by rw [hml]; rfl) [(.ref ov), (.int (2 : Int32))] [] (lenOf pd_1 rfl) rfl rfl (Nat.le_of_eq rfl) (b d23_58) ?_
    rintro T2 _ L2 X2 ⟨rfl, M2, eh2⟩
    have N2 := Fr.app N M2
    refine own_cS X2 hx hZ hown (w107 hw) (w108 hw) (w109 hw) (w110 hw) (rmHJ hw (own_c (own_c ((((own_b0 Xv2) &&& (255 : Int32)) <<< ((0 : Int32) &&& 31)) ||| (((own_b8 Xv2) &&& (255 : Int32)) <<< ((8 : Int32) &&& 31))))) O0) eh2 0 (by decide) (by decide) (by rw [hml]; rfl) [(.int (own_c (own_c ((((own_b0 Xv2) &&& (255 : Int32)) <<< ((0 : Int32) &&& 31)) ||| (((own_b8 Xv2) &&& (255 : Int32)) <<< ((8 : Int32) &&& 31))))))] [] (lenOf pd_0 rfl) rfl rfl (Nat.le_of_eq rfl) (b d23_61) ?_
    rintro T3 _ L3 X3 ⟨rfl, M3, eh3⟩
    have N3 := Fr.app N2 M3
    by_cases hc5 : (own_hi Xv2) = (0 : Int32)
    · have he6 := own_N0 Xv2 Mp5 Mp6
      have hn7 : (own_hi (own_c (own_c ((((own_b0 Xv2) &&& (255 : Int32)) <<< ((0 : Int32) &&& 31)) ||| (((own_b8 Xv2) &&& (255 : Int32)) <<< ((8 : Int32) &&& 31)))))) = (0 : Int32) := by
        rw [he6]
        exact hc5
      refine g_ifYes X3 hx (pc := 64) 44 (b d23_64) (XT.i0_eq_t hn7) (by decide) ?_
      show Go p e below _ (T3.setTop (mkF m 44 #[.val (.ref ov), .val (.int (0 : Int32)), .val (.int (4 : Int32)), .val (.int (0 : Int32)), .val (.int nv), .val (.int (3 : Int32))] []))
      exact tail3 _ _ _ X3 eh3 N3 (by rw [(own_pr0a (b := Xv3) hc5), own_s0]; exact hnv)
    · have he8 := own_N0 Xv2 Mp5 Mp6
      have hn9 : ¬ ((own_hi (own_c (own_c ((((own_b0 Xv2) &&& (255 : Int32)) <<< ((0 : Int32) &&& 31)) ||| (((own_b8 Xv2) &&& (255 : Int32)) <<< ((8 : Int32) &&& 31)))))) = (0 : Int32)) := by
        rw [he8]
        exact hc5
      refine g_ifNo X3 hx (b d23_64) (XT.i0_eq_f hn9) ?_
      refine g_aloadN X3 hx (b d23_67) rfl rfl ?_
      refine g_iload X3 hx (b d23_68) rfl ?_
      refine own_cS X3 hx hZ hown (w66 hw) (w67 hw) (w45 hw) (w68 hw) (rm14_7 hw ov kv Xv0 Xv1 Xv2 Xv3 O0 P10 MF1 P11 P12) eh3 0 (by decide) (by decide) (by rw [hml]; rfl) [(.ref ov), (.int (3 : Int32))] [] (lenOf pd_1 rfl) rfl rfl (Nat.le_of_eq rfl) (b d23_70) ?_
      rintro T10 _ L10 X10 ⟨rfl, M10, eh10⟩
      have N10 := Fr.app N3 M10
      refine own_cS X10 hx hZ hown (w119 hw) (w120 hw) (w109 hw) (w121 hw) (rmLJ hw (own_c (own_c ((((own_b0 Xv3) &&& (255 : Int32)) <<< ((0 : Int32) &&& 31)) ||| (((own_b8 Xv3) &&& (255 : Int32)) <<< ((8 : Int32) &&& 31))))) O0) eh10 0 (by decide) (by decide) (by rw [hml]; rfl) [(.int (own_c (own_c ((((own_b0 Xv3) &&& (255 : Int32)) <<< ((0 : Int32) &&& 31)) ||| (((own_b8 Xv3) &&& (255 : Int32)) <<< ((8 : Int32) &&& 31))))))] [] (lenOf pd_0 rfl) rfl rfl (Nat.le_of_eq rfl) (b d23_73) ?_
      rintro T11 _ L11 X11 ⟨rfl, M11, eh11⟩
      have N11 := Fr.app N10 M11
      by_cases hc13 : (own_lo Xv3) = (0 : Int32)
      · have he14 := own_N0 Xv3 Mp7 Mp8
        have hn15 : (own_lo (own_c (own_c ((((own_b0 Xv3) &&& (255 : Int32)) <<< ((0 : Int32) &&& 31)) ||| (((own_b8 Xv3) &&& (255 : Int32)) <<< ((8 : Int32) &&& 31)))))) = (0 : Int32) := by
          rw [he14]
          exact hc13
        refine g_ifYes X11 hx (pc := 76) 44 (b d23_76) (XT.i0_eq_t hn15) (by decide) ?_
        show Go p e below _ (T11.setTop (mkF m 44 #[.val (.ref ov), .val (.int (0 : Int32)), .val (.int (4 : Int32)), .val (.int (0 : Int32)), .val (.int nv), .val (.int (3 : Int32))] []))
        exact tail3 _ _ _ X11 eh11 N11 (by rw [(own_pr0b (a := Xv2) hc13), own_s0]; exact hnv)
      · have he16 := own_N0 Xv3 Mp7 Mp8
        have hn17 : ¬ ((own_lo (own_c (own_c ((((own_b0 Xv3) &&& (255 : Int32)) <<< ((0 : Int32) &&& 31)) ||| (((own_b8 Xv3) &&& (255 : Int32)) <<< ((8 : Int32) &&& 31)))))) = (0 : Int32)) := by
          rw [he16]
          exact hc13
        refine g_ifNo X11 hx (b d23_76) (XT.i0_eq_f hn17) ?_
        refine g_iinc X11 hx (b d23_79) rfl (l' := #[.val (.ref ov), .val (.int (0 : Int32)), .val (.int (4 : Int32)), .val (.int (0 : Int32)), .val (.int (nv + (-1 : Int32))), .val (.int (3 : Int32))]) rfl ?_
        refine g_iinc X11 hx (b d23_82) rfl (l' := #[.val (.ref ov), .val (.int (0 : Int32)), .val (.int (4 : Int32)), .val (.int (0 : Int32)), .val (.int (nv + (-1 : Int32))), .val (.int (4 : Int32))]) rfl ?_
        refine g_goto X11 hx (pc := 85) 44 (b d23_85) (by decide) ?_
        show Go p e below _ (T11.setTop (mkF m 44 #[.val (.ref ov), .val (.int (0 : Int32)), .val (.int (4 : Int32)), .val (.int (0 : Int32)), .val (.int (nv + (-1 : Int32))), .val (.int (4 : Int32))] []))
        exact tail4 _ _ _ X11 eh11 N11 (by rw [(own_pr1 hc5 hc13), hnv]; exact own_s1 _)
  have tail1 : ∀ (T : State) (locs : List Loc) (nv : Int32), Stand p l e (R4 1 0 0 13) s m #[(.ref ov), (.int (0 : Int32)), (.int (4 : Int32)), (.int (0 : Int32))] below meth c T locs 0 0 → T.heap = h0 → Fr n0 locs → nv = ((4 : Int32) - (own_pr Xv0 Xv1)) → Go p e below (PP s (Q_rmC4 Z ov kv Xv0 Xv1 Xv2 Xv3 h0 n0) (R4 1 0 0 13)) (T.setTop (mkF m 44 #[.val (.ref ov), .val (.int (0 : Int32)), .val (.int (4 : Int32)), .val (.int (0 : Int32)), .val (.int nv), .val (.int (1 : Int32))] [])) := by
    intro T locs nv X eT N hnv
    refine g_iload X hx (b d23_44) rfl ?_
    refine g_iloadN X hx (b d23_46) rfl ?_
    refine g_iconst X hx (1) (b d23_47) rfl ?_
    refine g_isubZ X hx (3 : Int32) (b d23_48) rfl ?_
    refine g_icmpNo X hx (b d23_49) (XT.ii_ge_f (by decide : (1 : Int32) < (3 : Int32))) ?_
    refine g_aloadN X hx (b d23_52) rfl rfl ?_
    refine g_iload X hx (b d23_53) rfl ?_
    refine g_iinc X hx (b d23_55) rfl (l' := #[.val (.ref ov), .val (.int (0 : Int32)), .val (.int (4 : Int32)), .val (.int (0 : Int32)), .val (.int nv), .val (.int (2 : Int32))]) rfl ?_
    refine own_cS X hx hZ hown (w66 hw) (w67 hw) (w45 hw) (w68 hw) (rm14_8 hw ov kv Xv0 Xv1 Xv2 Xv3 O0 P10 MF1 P11 P12) eT 0 (by decide) (by decide) (by rw [hml]; rfl) [(.ref ov), (.int (1 : Int32))] [] (lenOf pd_1 rfl) rfl rfl (Nat.le_of_eq rfl) (b d23_58) ?_
    rintro T18 _ L18 X18 ⟨rfl, M18, eh18⟩
    have N18 := Fr.app N M18
    refine own_cS X18 hx hZ hown (w107 hw) (w108 hw) (w109 hw) (w110 hw) (rmHJ hw (own_c (own_c ((((own_b0 Xv1) &&& (255 : Int32)) <<< ((0 : Int32) &&& 31)) ||| (((own_b8 Xv1) &&& (255 : Int32)) <<< ((8 : Int32) &&& 31))))) O0) eh18 0 (by decide) (by decide) (by rw [hml]; rfl) [(.int (own_c (own_c ((((own_b0 Xv1) &&& (255 : Int32)) <<< ((0 : Int32) &&& 31)) ||| (((own_b8 Xv1) &&& (255 : Int32)) <<< ((8 : Int32) &&& 31))))))] [] (lenOf pd_0 rfl) rfl rfl (Nat.le_of_eq rfl) (b d23_61) ?_
    rintro T19 _ L19 X19 ⟨rfl, M19, eh19⟩
    have N19 := Fr.app N18 M19
    by_cases hc21 : (own_hi Xv1) = (0 : Int32)
    · have he22 := own_N0 Xv1 Mp3 Mp4
      have hn23 : (own_hi (own_c (own_c ((((own_b0 Xv1) &&& (255 : Int32)) <<< ((0 : Int32) &&& 31)) ||| (((own_b8 Xv1) &&& (255 : Int32)) <<< ((8 : Int32) &&& 31)))))) = (0 : Int32) := by
        rw [he22]
        exact hc21
      refine g_ifYes X19 hx (pc := 64) 44 (b d23_64) (XT.i0_eq_t hn23) (by decide) ?_
      show Go p e below _ (T19.setTop (mkF m 44 #[.val (.ref ov), .val (.int (0 : Int32)), .val (.int (4 : Int32)), .val (.int (0 : Int32)), .val (.int nv), .val (.int (2 : Int32))] []))
      exact tail2 _ _ _ X19 eh19 N19 (by rw [(own_pr0a (b := Xv2) hc21), own_s0]; exact hnv)
    · have he24 := own_N0 Xv1 Mp3 Mp4
      have hn25 : ¬ ((own_hi (own_c (own_c ((((own_b0 Xv1) &&& (255 : Int32)) <<< ((0 : Int32) &&& 31)) ||| (((own_b8 Xv1) &&& (255 : Int32)) <<< ((8 : Int32) &&& 31)))))) = (0 : Int32)) := by
        rw [he24]
        exact hc21
      refine g_ifNo X19 hx (b d23_64) (XT.i0_eq_f hn25) ?_
      refine g_aloadN X19 hx (b d23_67) rfl rfl ?_
      refine g_iload X19 hx (b d23_68) rfl ?_
      refine own_cS X19 hx hZ hown (w66 hw) (w67 hw) (w45 hw) (w68 hw) (rm14_6 hw ov kv Xv0 Xv1 Xv2 Xv3 O0 P10 MF1 P11 P12) eh19 0 (by decide) (by decide) (by rw [hml]; rfl) [(.ref ov), (.int (2 : Int32))] [] (lenOf pd_1 rfl) rfl rfl (Nat.le_of_eq rfl) (b d23_70) ?_
      rintro T26 _ L26 X26 ⟨rfl, M26, eh26⟩
      have N26 := Fr.app N19 M26
      refine own_cS X26 hx hZ hown (w119 hw) (w120 hw) (w109 hw) (w121 hw) (rmLJ hw (own_c (own_c ((((own_b0 Xv2) &&& (255 : Int32)) <<< ((0 : Int32) &&& 31)) ||| (((own_b8 Xv2) &&& (255 : Int32)) <<< ((8 : Int32) &&& 31))))) O0) eh26 0 (by decide) (by decide) (by rw [hml]; rfl) [(.int (own_c (own_c ((((own_b0 Xv2) &&& (255 : Int32)) <<< ((0 : Int32) &&& 31)) ||| (((own_b8 Xv2) &&& (255 : Int32)) <<< ((8 : Int32) &&& 31))))))] [] (lenOf pd_0 rfl) rfl rfl (Nat.le_of_eq rfl) (b d23_73) ?_
      rintro T27 _ L27 X27 ⟨rfl, M27, eh27⟩
      have N27 := Fr.app N26 M27
      by_cases hc29 : (own_lo Xv2) = (0 : Int32)
      · have he30 := own_N0 Xv2 Mp5 Mp6
        have hn31 : (own_lo (own_c (own_c ((((own_b0 Xv2) &&& (255 : Int32)) <<< ((0 : Int32) &&& 31)) ||| (((own_b8 Xv2) &&& (255 : Int32)) <<< ((8 : Int32) &&& 31)))))) = (0 : Int32) := by
          rw [he30]
          exact hc29
        refine g_ifYes X27 hx (pc := 76) 44 (b d23_76) (XT.i0_eq_t hn31) (by decide) ?_
        show Go p e below _ (T27.setTop (mkF m 44 #[.val (.ref ov), .val (.int (0 : Int32)), .val (.int (4 : Int32)), .val (.int (0 : Int32)), .val (.int nv), .val (.int (2 : Int32))] []))
        exact tail2 _ _ _ X27 eh27 N27 (by rw [(own_pr0b (a := Xv1) hc29), own_s0]; exact hnv)
      · have he32 := own_N0 Xv2 Mp5 Mp6
        have hn33 : ¬ ((own_lo (own_c (own_c ((((own_b0 Xv2) &&& (255 : Int32)) <<< ((0 : Int32) &&& 31)) ||| (((own_b8 Xv2) &&& (255 : Int32)) <<< ((8 : Int32) &&& 31)))))) = (0 : Int32)) := by
          rw [he32]
          exact hc29
        refine g_ifNo X27 hx (b d23_76) (XT.i0_eq_f hn33) ?_
        refine g_iinc X27 hx (b d23_79) rfl (l' := #[.val (.ref ov), .val (.int (0 : Int32)), .val (.int (4 : Int32)), .val (.int (0 : Int32)), .val (.int (nv + (-1 : Int32))), .val (.int (2 : Int32))]) rfl ?_
        refine g_iinc X27 hx (b d23_82) rfl (l' := #[.val (.ref ov), .val (.int (0 : Int32)), .val (.int (4 : Int32)), .val (.int (0 : Int32)), .val (.int (nv + (-1 : Int32))), .val (.int (3 : Int32))]) rfl ?_
        refine g_goto X27 hx (pc := 85) 44 (b d23_85) (by decide) ?_
        show Go p e below _ (T27.setTop (mkF m 44 #[.val (.ref ov), .val (.int (0 : Int32)), .val (.int (4 : Int32)), .val (.int (0 : Int32)), .val (.int (nv + (-1 : Int32))), .val (.int (3 : Int32))] []))
        have hp34 : (own_hi Xv2) = (0 : Int32) := by
          have j1 := own_c32 (Xv2)
          have j2 := own_k32 (0 : Int32) (0) (by decide)
          have j3 := own_nlt32 Mp5
          have j4 := own_k32 (65535 : Int32) (65535) (by decide)
          have j5 := own_nlt32 Mp6
          have j6 : (0 : Int) ≤ (Xv2).toInt ∧ (Xv2).toInt ≤ 65535 := by constructor <;> omega
          have j7 := own_hl Xv2
          have j8 := own_hiB Xv2
          have j9 := own_nlt32 Mp5
          have j10 := own_nlt32 Mp6
          have j11 := own_hl Xv2
          have j12 := own_loB Xv2
          have j13 := own_neq32 hc29
          rw [← Int32.toInt_inj]
          omega
        exact tail3 _ _ _ X27 eh27 N27 (by rw [(own_pr1 hc21 hc29), (own_pr0a (b := Xv3) hp34), own_s0, hnv]; exact own_s1 _)
  have tail0 : ∀ (T : State) (locs : List Loc) (nv : Int32), Stand p l e (R4 1 0 0 13) s m #[(.ref ov), (.int (0 : Int32)), (.int (4 : Int32)), (.int (0 : Int32))] below meth c T locs 0 0 → T.heap = h0 → Fr n0 locs → nv = (4 : Int32) → Go p e below (PP s (Q_rmC4 Z ov kv Xv0 Xv1 Xv2 Xv3 h0 n0) (R4 1 0 0 13)) (T.setTop (mkF m 44 #[.val (.ref ov), .val (.int (0 : Int32)), .val (.int (4 : Int32)), .val (.int (0 : Int32)), .val (.int nv), .val (.int (0 : Int32))] [])) := by
    intro T locs nv X eT N hnv
    refine g_iload X hx (b d23_44) rfl ?_
    refine g_iloadN X hx (b d23_46) rfl ?_
    refine g_iconst X hx (1) (b d23_47) rfl ?_
    refine g_isubZ X hx (3 : Int32) (b d23_48) rfl ?_
    refine g_icmpNo X hx (b d23_49) (XT.ii_ge_f (by decide : (0 : Int32) < (3 : Int32))) ?_
    refine g_aloadN X hx (b d23_52) rfl rfl ?_
    refine g_iload X hx (b d23_53) rfl ?_
    refine g_iinc X hx (b d23_55) rfl (l' := #[.val (.ref ov), .val (.int (0 : Int32)), .val (.int (4 : Int32)), .val (.int (0 : Int32)), .val (.int nv), .val (.int (1 : Int32))]) rfl ?_
    refine own_cS X hx hZ hown (w66 hw) (w67 hw) (w45 hw) (w68 hw) (rm14_9 hw ov kv Xv0 Xv1 Xv2 Xv3 O0 P10 MF1 P11 P12) eT 0 (by decide) (by decide) (by rw [hml]; rfl) [(.ref ov), (.int (0 : Int32))] [] (lenOf pd_1 rfl) rfl rfl (Nat.le_of_eq rfl) (b d23_58) ?_
    rintro T35 _ L35 X35 ⟨rfl, M35, eh35⟩
    have N35 := Fr.app N M35
    refine own_cS X35 hx hZ hown (w107 hw) (w108 hw) (w109 hw) (w110 hw) (rmHJ hw (own_c (own_c ((((own_b0 Xv0) &&& (255 : Int32)) <<< ((0 : Int32) &&& 31)) ||| (((own_b8 Xv0) &&& (255 : Int32)) <<< ((8 : Int32) &&& 31))))) O0) eh35 0 (by decide) (by decide) (by rw [hml]; rfl) [(.int (own_c (own_c ((((own_b0 Xv0) &&& (255 : Int32)) <<< ((0 : Int32) &&& 31)) ||| (((own_b8 Xv0) &&& (255 : Int32)) <<< ((8 : Int32) &&& 31))))))] [] (lenOf pd_0 rfl) rfl rfl (Nat.le_of_eq rfl) (b d23_61) ?_
    rintro T36 _ L36 X36 ⟨rfl, M36, eh36⟩
    have N36 := Fr.app N35 M36
    by_cases hc38 : (own_hi Xv0) = (0 : Int32)
    · have he39 := own_N0 Xv0 Mp1 Mp2
      have hn40 : (own_hi (own_c (own_c ((((own_b0 Xv0) &&& (255 : Int32)) <<< ((0 : Int32) &&& 31)) ||| (((own_b8 Xv0) &&& (255 : Int32)) <<< ((8 : Int32) &&& 31)))))) = (0 : Int32) := by
        rw [he39]
        exact hc38
      refine g_ifYes X36 hx (pc := 64) 44 (b d23_64) (XT.i0_eq_t hn40) (by decide) ?_
      show Go p e below _ (T36.setTop (mkF m 44 #[.val (.ref ov), .val (.int (0 : Int32)), .val (.int (4 : Int32)), .val (.int (0 : Int32)), .val (.int nv), .val (.int (1 : Int32))] []))
      exact tail1 _ _ _ X36 eh36 N36 (by rw [(own_pr0a (b := Xv1) hc38), own_s0]; exact hnv)
    · have he41 := own_N0 Xv0 Mp1 Mp2
      have hn42 : ¬ ((own_hi (own_c (own_c ((((own_b0 Xv0) &&& (255 : Int32)) <<< ((0 : Int32) &&& 31)) ||| (((own_b8 Xv0) &&& (255 : Int32)) <<< ((8 : Int32) &&& 31)))))) = (0 : Int32)) := by
        rw [he41]
        exact hc38
      refine g_ifNo X36 hx (b d23_64) (XT.i0_eq_f hn42) ?_
      refine g_aloadN X36 hx (b d23_67) rfl rfl ?_
      refine g_iload X36 hx (b d23_68) rfl ?_
      refine own_cS X36 hx hZ hown (w66 hw) (w67 hw) (w45 hw) (w68 hw) (rm14_8 hw ov kv Xv0 Xv1 Xv2 Xv3 O0 P10 MF1 P11 P12) eh36 0 (by decide) (by decide) (by rw [hml]; rfl) [(.ref ov), (.int (1 : Int32))] [] (lenOf pd_1 rfl) rfl rfl (Nat.le_of_eq rfl) (b d23_70) ?_
      rintro T43 _ L43 X43 ⟨rfl, M43, eh43⟩
      have N43 := Fr.app N36 M43
      refine own_cS X43 hx hZ hown (w119 hw) (w120 hw) (w109 hw) (w121 hw) (rmLJ hw (own_c (own_c ((((own_b0 Xv1) &&& (255 : Int32)) <<< ((0 : Int32) &&& 31)) ||| (((own_b8 Xv1) &&& (255 : Int32)) <<< ((8 : Int32) &&& 31))))) O0) eh43 0 (by decide) (by decide) (by rw [hml]; rfl) [(.int (own_c (own_c ((((own_b0 Xv1) &&& (255 : Int32)) <<< ((0 : Int32) &&& 31)) ||| (((own_b8 Xv1) &&& (255 : Int32)) <<< ((8 : Int32) &&& 31))))))] [] (lenOf pd_0 rfl) rfl rfl (Nat.le_of_eq rfl) (b d23_73) ?_
      rintro T44 _ L44 X44 ⟨rfl, M44, eh44⟩
      have N44 := Fr.app N43 M44
      by_cases hc46 : (own_lo Xv1) = (0 : Int32)
      · have he47 := own_N0 Xv1 Mp3 Mp4
        have hn48 : (own_lo (own_c (own_c ((((own_b0 Xv1) &&& (255 : Int32)) <<< ((0 : Int32) &&& 31)) ||| (((own_b8 Xv1) &&& (255 : Int32)) <<< ((8 : Int32) &&& 31)))))) = (0 : Int32) := by
          rw [he47]
          exact hc46
        refine g_ifYes X44 hx (pc := 76) 44 (b d23_76) (XT.i0_eq_t hn48) (by decide) ?_
        show Go p e below _ (T44.setTop (mkF m 44 #[.val (.ref ov), .val (.int (0 : Int32)), .val (.int (4 : Int32)), .val (.int (0 : Int32)), .val (.int nv), .val (.int (1 : Int32))] []))
        exact tail1 _ _ _ X44 eh44 N44 (by rw [(own_pr0b (a := Xv0) hc46), own_s0]; exact hnv)
      · have he49 := own_N0 Xv1 Mp3 Mp4
        have hn50 : ¬ ((own_lo (own_c (own_c ((((own_b0 Xv1) &&& (255 : Int32)) <<< ((0 : Int32) &&& 31)) ||| (((own_b8 Xv1) &&& (255 : Int32)) <<< ((8 : Int32) &&& 31)))))) = (0 : Int32)) := by
          rw [he49]
          exact hc46
        refine g_ifNo X44 hx (b d23_76) (XT.i0_eq_f hn50) ?_
        refine g_iinc X44 hx (b d23_79) rfl (l' := #[.val (.ref ov), .val (.int (0 : Int32)), .val (.int (4 : Int32)), .val (.int (0 : Int32)), .val (.int (nv + (-1 : Int32))), .val (.int (1 : Int32))]) rfl ?_
        refine g_iinc X44 hx (b d23_82) rfl (l' := #[.val (.ref ov), .val (.int (0 : Int32)), .val (.int (4 : Int32)), .val (.int (0 : Int32)), .val (.int (nv + (-1 : Int32))), .val (.int (2 : Int32))]) rfl ?_
        refine g_goto X44 hx (pc := 85) 44 (b d23_85) (by decide) ?_
        show Go p e below _ (T44.setTop (mkF m 44 #[.val (.ref ov), .val (.int (0 : Int32)), .val (.int (4 : Int32)), .val (.int (0 : Int32)), .val (.int (nv + (-1 : Int32))), .val (.int (2 : Int32))] []))
        have hp51 : (own_hi Xv1) = (0 : Int32) := by
          have j1 := own_c32 (Xv1)
          have j2 := own_k32 (0 : Int32) (0) (by decide)
          have j3 := own_nlt32 Mp3
          have j4 := own_k32 (65535 : Int32) (65535) (by decide)
          have j5 := own_nlt32 Mp4
          have j6 : (0 : Int) ≤ (Xv1).toInt ∧ (Xv1).toInt ≤ 65535 := by constructor <;> omega
          have j7 := own_hl Xv1
          have j8 := own_hiB Xv1
          have j9 := own_nlt32 Mp3
          have j10 := own_nlt32 Mp4
          have j11 := own_hl Xv1
          have j12 := own_loB Xv1
          have j13 := own_neq32 hc46
          rw [← Int32.toInt_inj]
          omega
        exact tail2 _ _ _ X44 eh44 N44 (by rw [(own_pr1 hc38 hc46), (own_pr0a (b := Xv2) hp51), own_s0, hnv]; exact own_s1 _)
  exact tail0 _ _ _ X1 e1 N0 rfl
theorem rm9_1 (hw : HW Z a0) (a1 a2 : Addr) (kz3 : ClassId) (p4 : Int32) (O0 : Old Z n0 h0) (P1 : Arv Z h0 a1 kz3 .char (1 : Int32) [(.int p4)] (.int (0 : Int32))) (P2 : (255 : Int32) < p4) :
    MM l mn8 jdk_52_method_21_code 7 (some .int) (R4 0 0 0 0) #[(.ref a1), (.int (0 : Int32)), (.ref a2), (.int (0 : Int32)), (.int (1 : Int32))] Z h0 (fun v h L => v = some (.int (0 : Int32)) ∧ Fr n0 L ∧ h = h0) := by
  refine own_hN n0 rfl pn_2 ?_
  intro p e s m below meth c s₁ hx b hml hret hZ hown hnm X0 e0 N0
  refine own_ct (mkF m 0 #[.val (.ref a1), .val (.int (0 : Int32)), .val (.ref a2), .val (.int (0 : Int32)), .val (.int (1 : Int32)), .unset, .unset] []) rfl ?_
  refine g_iconst X0 hx (0) (b d9_0) rfl ?_
  refine g_istore X0 hx (b d9_1) (l' := #[.val (.ref a1), .val (.int (0 : Int32)), .val (.ref a2), .val (.int (0 : Int32)), .val (.int (1 : Int32)), .val (.int (0 : Int32)), .unset]) rfl ?_
  refine g_iload X0 hx (b d9_3) rfl ?_
  refine g_iload X0 hx (b d9_5) rfl ?_
  refine g_icmpNo X0 hx (b d9_7) (XT.ii_ge_f (by decide : (0 : Int32) < (1 : Int32))) ?_
  refine g_aloadN X0 hx (b d9_10) rfl rfl ?_
  refine g_iloadN X0 hx (b d9_11) rfl ?_
  obtain ⟨cl1, Ar1, q1, S1, M1, H1, G1⟩ := id P1
  have hin1 : ¬ ((0 : Int32) < 0 ∨ cl1.slots.size ≤ ((0 : Int32)).toNatClampNeg) := inb_of S1 ⟨by decide, by decide⟩
  have hat1 : cl1.slots[((0 : Int32)).toNatClampNeg]? = some (.int p4) := H1.at hin1 rfl
  refine Go.st (fun t k => X0.caload hx (j := (0 : Int32)) (v := (.int p4)) (by rw [e0]; exact Ar1.1) (State.isArrayOf_alike hZ.alike Ar1.2.1) Ar1.2.2 hin1 hat1 (g := (mkF m 12 #[.val (.ref a1), .val (.int (0 : Int32)), .val (.ref a2), .val (.int (0 : Int32)), .val (.int (1 : Int32)), .val (.int (0 : Int32)), .unset] [(.int (0 : Int32)), (.ref a1)])) rfl rfl (b d9_12) t k) ?_
  refine g_istore X0 hx (b d9_13) (l' := #[.val (.ref a1), .val (.int (0 : Int32)), .val (.ref a2), .val (.int (0 : Int32)), .val (.int (1 : Int32)), .val (.int (0 : Int32)), .val (.int p4)]) rfl ?_
  refine g_iload X0 hx (b d9_15) rfl ?_
  refine g_sipush X0 hx (255) (b d9_17) rfl ?_
  refine g_icmpNo X0 hx (b d9_20) (XT.ii_le_f P2) ?_
  refine g_iload X0 hx (b d9_23) rfl ?_
  exact own_eI X0 hx hret (b d9_25) e0 (by decide) ⟨rfl, N0, rfl⟩
theorem rm12_1 (hw : HW Z a0)  (O0 : Old Z n0 h0) :
    MM l mn9 jdk_52_method_3_code 1 (some .int) (R4 0 0 0 0) #[(.int (1 : Int32))] Z h0 (fun v h L => v = some (.int (2 : Int32)) ∧ Fr n0 L ∧ h = h0) := by
  refine own_hN n0 rfl pn_2 ?_
  intro p e s m below meth c s₁ hx b hml hret hZ hown hnm X0 e0 N0
  refine own_ct (mkF m 0 #[.val (.int (1 : Int32))] []) rfl ?_
  refine g_iloadN X0 hx (b d12_0) rfl ?_
  refine g_ifYes X0 hx (pc := 1) 12 (b d12_1) (XT.i0_ge_t (by decide : ¬ ((1 : Int32) < (0 : Int32)))) (by decide) ?_
  refine g_iloadN X0 hx (b d12_12) rfl ?_
  refine Go.st (fun t k => X0.ldcI hx hown (mvT hZ (w59 hw)) (g := (mkF m 13 #[.val (.int (1 : Int32))] [(.int (1 : Int32))])) rfl (b d12_13) k) ?_
  refine g_icmpYes X0 hx (pc := 15) 55 (b d12_15) (XT.ii_lt_t (by decide : (1 : Int32) < (1073741823 : Int32))) (by decide) ?_
  refine g_iloadN X0 hx (b d12_55) rfl ?_
  refine g_iconst X0 hx (1) (b d12_56) rfl ?_
  refine g_ishlZ X0 hx (2 : Int32) (b d12_57) rfl ?_
  exact own_eI X0 hx hret (b d12_58) e0 (by decide) ⟨rfl, N0, rfl⟩
theorem rm11_1 (hw : HW Z a0)  (O0 : Old Z n0 h0) :
    MM l mn10 jdk_52_method_2_code 1 (some (.array .byte)) (R4 1 1 2 12) #[(.int (1 : Int32))] Z h0 (fun v h L => ∃ (b2 : Addr) (k2 : ClassId), v = some (.ref b2) ∧ Fr n0 L ∧ Keep h0 h [] ∧ h0.size ≤ b2 ∧ Arv Z h b2 k2 .byte (2 : Int32) [(.int (0 : Int32)), (.int (0 : Int32))] (.int (0 : Int32))) := by
  refine own_hN n0 rfl pn_2 ?_
  intro p e s m below meth c s₁ hx b hml hret hZ hown hnm X0 e0 N0
  refine own_ct (mkF m 0 #[.val (.int (1 : Int32))] []) rfl ?_
  refine g_iloadN X0 hx (b d11_0) rfl ?_
  refine own_cS X0 hx hZ hown (w56 hw) (w57 hw) (w45 hw) (w58 hw) (rm12_1 hw O0) e0 0 (by decide) (by decide) (by rw [hml]; rfl) [(.int (1 : Int32))] [] (lenOf pd_3 rfl) rfl rfl (Nat.le_of_eq rfl) (b d11_1) ?_
  rintro T1 _ L1 X1 ⟨rfl, M1, eh1⟩
  have N1 := Fr.app N0 M1
  obtain ⟨T2, h2, k2, X2, e2, E2, A2, st2⟩ := newP X1 hx hZ (aty := .byte) (w26 hw) eh1 (g := (mkF m 4 #[.val (.int (1 : Int32))] [(.int (2 : Int32))])) rfl (b d11_4) rfl (by decide) (cap := 2) (by decide) (by decide) (by decide) (by decide)
  obtain ⟨b2, z2⟩ : ∃ z, z = h0.size := ⟨_, rfl⟩
  rw [← z2] at A2 st2
  have g_b2 : n0 ≤ b2 := Nat.le_trans (own_n0 O0) (Nat.le_of_eq z2.symm)
  have s_b2 : h0.size ≤ b2 := Nat.le_trans (Keep.refl h0 []).1 (Nat.le_of_eq z2.symm)
  have V2 : Arv Z h2 b2 k2 .byte (2 : Int32) [(.int (0 : Int32)), (.int (0 : Int32))] (.int (0 : Int32)) := (Arv.new A2 (by decide)).pad (pad_rep [] (.int (0 : Int32)) 2)
  have O2 : Old Z n0 h2 := O0.ext E2
  have K2 : Keep h0 h2 [] := (Keep.refl h0 []).ext E2
  refine Go.st st2 ?_
  exact own_eA X2 hx hret rfl rfl (b d11_6) e2 (by decide) ⟨b2, k2, rfl, N1, K2, s_b2, V2⟩
theorem rm13_1 (hw : HW Z a0) (a1 : Addr) (p2 : Int32) (kz3 : ClassId) (O0 : Old Z n0 h0) (P1 : Sta Z Z.heap "java/lang/StringUTF16" "$assertionsDisabled" "Z" (.int (1 : Int32))) (P2 : Sta Z Z.heap "java/lang/StringUTF16" "HI_BYTE_SHIFT" "I" (.int (0 : Int32))) (P3 : Arv Z h0 a1 kz3 .byte (2 : Int32) [(.int (0 : Int32)), (.int (0 : Int32))] (.int (0 : Int32))) (P4 : n0 ≤ a1) (P5 : Sta Z Z.heap "java/lang/StringUTF16" "LO_BYTE_SHIFT" "I" (.int (8 : Int32))) :
    MM l mn11 jdk_52_method_4_code 3 none (R4 0 0 0 0) #[(.ref a1), (.int (0 : Int32)), (.int p2)] Z h0 (fun v h L => v = none ∧ Fr n0 L ∧ Keep h0 h [a1] ∧ Arv Z h a1 kz3 .byte (2 : Int32) [(.int (own_b0 p2)), (.int (own_b8 p2))] (.int (0 : Int32))) := by
  refine own_hN n0 rfl pn_2 ?_
  intro p e s m below meth c s₁ hx b hml hret hZ hown hnm X0 e0 N0
  refine own_ct (mkF m 0 #[.val (.ref a1), .val (.int (0 : Int32)), .val (.int p2)] []) rfl ?_
  obtain ⟨T1, X1, e1, st1⟩ := getS2 X0 hx hZ hown (host := "") (Or.inl (w63 hw)) Via.refl e0 (P1.ext O0.2) (g := (mkF m 0 #[.val (.ref a1), .val (.int (0 : Int32)), .val (.int p2)] [])) rfl (b d13_0)
  refine Go.st st1 ?_
  refine g_ifYes X1 hx (pc := 3) 28 (b d13_3) (XT.i0_ne_t (by decide : ¬ ((1 : Int32) = (0 : Int32)))) (by decide) ?_
  refine g_iloadN X1 hx (b d13_28) rfl ?_
  refine g_iconst X1 hx (1) (b d13_29) rfl ?_
  refine g_ishlZ X1 hx (0 : Int32) (b d13_30) rfl ?_
  refine g_istoreN X1 hx (b d13_31) (l' := #[.val (.ref a1), .val (.int (0 : Int32)), .val (.int p2)]) rfl ?_
  refine g_aloadN X1 hx (b d13_32) rfl rfl ?_
  refine g_iloadN X1 hx (b d13_33) rfl ?_
  refine g_iinc X1 hx (b d13_34) rfl (l' := #[.val (.ref a1), .val (.int (1 : Int32)), .val (.int p2)]) rfl ?_
  refine g_iloadN X1 hx (b d13_37) rfl ?_
  obtain ⟨T2, X2, e2, st2⟩ := getS2 X1 hx hZ hown (host := "") (Or.inl (w64 hw)) Via.refl e1 (P2.ext O0.2) (g := (mkF m 38 #[.val (.ref a1), .val (.int (1 : Int32)), .val (.int p2)] [(.int p2), (.int (0 : Int32)), (.ref a1)])) rfl (b d13_38)
  refine Go.st st2 ?_
  refine g_ishr X2 hx (b d13_41) ?_
  refine g_i2bZ X2 hx ((p2 >>> ((0 : Int32) &&& 31)).toInt8.toInt32) (b d13_42) rfl ?_
  obtain ⟨cl3, Ar3, q3, S3, M3, H3, G3⟩ := id P3
  have hin3 : ¬ ((0 : Int32) < 0 ∨ cl3.slots.size ≤ ((0 : Int32)).toNatClampNeg) := inb_of S3 ⟨by decide, by decide⟩
  obtain ⟨T3, h3, X3, e3, W3, st3⟩ := stB X2 hx hZ e2 Ar3 (j := (0 : Int32)) hin3 (g := (mkF m 43 #[.val (.ref a1), .val (.int (1 : Int32)), .val (.int p2)] [(.int ((p2 >>> ((0 : Int32) &&& 31)).toInt8.toInt32)), (.int (0 : Int32)), (.ref a1)])) rfl rfl (b d13_43)
  have V3 : Arv Z h3 a1 kz3 .byte (2 : Int32) [(.int (own_b0 p2)), (.int (0 : Int32))] (.int (0 : Int32)) := Arv.set Ar3 q3 S3 M3 H3 G3 (fits_nar_byte _) W3 0 rfl (Nat.le_of_ble_eq_true rfl)
  have N3 := Fr.snoc X3 N0 P4
  have O3 : Old Z n0 h3 := O0.wr W3 P4
  have K3 : Keep h0 h3 [a1] := (Keep.refl h0 [a1]).wr W3 (Or.inl (List.mem_of_getElem? (i := 0) rfl))
  refine Go.st st3 ?_
  refine g_aloadN X3 hx (b d13_44) rfl rfl ?_
  refine g_iloadN X3 hx (b d13_45) rfl ?_
  refine g_iloadN X3 hx (b d13_46) rfl ?_
  obtain ⟨T4, X4, e4, st4⟩ := getS2 X3 hx hZ hown (host := "") (Or.inl (w65 hw)) Via.refl e3 (P5.ext O3.2) (g := (mkF m 47 #[.val (.ref a1), .val (.int (1 : Int32)), .val (.int p2)] [(.int p2), (.int (1 : Int32)), (.ref a1)])) rfl (b d13_47)
  refine Go.st st4 ?_
  refine g_ishr X4 hx (b d13_50) ?_
  refine g_i2bZ X4 hx ((p2 >>> ((8 : Int32) &&& 31)).toInt8.toInt32) (b d13_51) rfl ?_
  obtain ⟨cl5, Ar5, q5, S5, M5, H5, G5⟩ := id V3
  have hin5 : ¬ ((1 : Int32) < 0 ∨ cl5.slots.size ≤ ((1 : Int32)).toNatClampNeg) := inb_of S5 ⟨by decide, by decide⟩
  obtain ⟨T5, h5, X5, e5, W5, st5⟩ := stB X4 hx hZ e4 Ar5 (j := (1 : Int32)) hin5 (g := (mkF m 52 #[.val (.ref a1), .val (.int (1 : Int32)), .val (.int p2)] [(.int ((p2 >>> ((8 : Int32) &&& 31)).toInt8.toInt32)), (.int (1 : Int32)), (.ref a1)])) rfl rfl (b d13_52)
  have V5 : Arv Z h5 a1 kz3 .byte (2 : Int32) [(.int (own_b0 p2)), (.int (own_b8 p2))] (.int (0 : Int32)) := Arv.set Ar5 q5 S5 M5 H5 G5 (fits_nar_byte _) W5 1 rfl (Nat.le_of_ble_eq_true rfl)
  have N5 := Fr.snoc X5 N3 P4
  have O5 : Old Z n0 h5 := O3.wr W5 P4
  have K5 : Keep h0 h5 [a1] := K3.wr W5 (Or.inl (List.mem_of_getElem? (i := 0) rfl))
  refine Go.st st5 ?_
  exact own_eV X5 hx hret (b d13_53) e5 (by decide) ⟨rfl, N5, K5, V5⟩
theorem rm10_1 (hw : HW Z a0) (a1 : Addr) (kz2 : ClassId) (p3 : Int32) (O0 : Old Z n0 h0) (P1 : Arv Z h0 a1 kz2 .char (1 : Int32) [(.int p3)] (.int (0 : Int32))) (P2 : Sta Z Z.heap "java/lang/StringUTF16" "$assertionsDisabled" "Z" (.int (1 : Int32))) (P3 : Sta Z Z.heap "java/lang/StringUTF16" "HI_BYTE_SHIFT" "I" (.int (0 : Int32))) (P4 : Sta Z Z.heap "java/lang/StringUTF16" "LO_BYTE_SHIFT" "I" (.int (8 : Int32))) :
    MM l mn12 jdk_52_method_14_code 5 (some (.array .byte)) (R4 2 1 2 24) #[(.ref a1), (.int (0 : Int32)), (.int (1 : Int32))] Z h0 (fun v h L => ∃ (b2_1 : Addr) (k2_1 : ClassId), v = some (.ref b2_1) ∧ Fr n0 L ∧ Keep h0 h [] ∧ h0.size ≤ b2_1 ∧ Arv Z h b2_1 k2_1 .byte (2 : Int32) [(.int (own_b0 p3)), (.int (own_b8 p3))] (.int (0 : Int32))) := by
  refine own_hN n0 rfl pn_2 ?_
  intro p e s m below meth c s₁ hx b hml hret hZ hown hnm X0 e0 N0
  refine own_ct (mkF m 0 #[.val (.ref a1), .val (.int (0 : Int32)), .val (.int (1 : Int32)), .unset, .unset] []) rfl ?_
  refine g_iloadN X0 hx (b d10_0) rfl ?_
  refine own_cS X0 hx hZ hown (w53 hw) (w54 hw) (w45 hw) (w55 hw) (rm11_1 hw O0) e0 0 (by decide) (by decide) (by rw [hml]; rfl) [(.int (1 : Int32))] [] (lenOf pd_4 rfl) rfl rfl (Nat.le_of_eq rfl) (b d10_1) ?_
  rintro T1 _ L1 X1 ⟨b2_1, k2_1, rfl, M1, K1c, r1_0, r1_1⟩
  have N1 := Fr.app N0 M1
  have g_b2_1 : n0 ≤ b2_1 := Nat.le_trans (own_n0 O0) r1_0
  have s_b2_1 : h0.size ≤ b2_1 := Nat.le_trans (Keep.refl h0 []).1 r1_0
  have O1 : Old Z n0 T1.heap := O0.keep K1c all0
  have K1 : Keep h0 T1.heap [] := (Keep.refl h0 []).trans K1c all0
  refine g_astoreN X1 hx (b d10_4) rfl (l' := #[.val (.ref a1), .val (.int (0 : Int32)), .val (.int (1 : Int32)), .val (.ref b2_1), .unset]) rfl ?_
  refine g_iconst X1 hx (0) (b d10_5) rfl ?_
  refine g_istore X1 hx (b d10_6) (l' := #[.val (.ref a1), .val (.int (0 : Int32)), .val (.int (1 : Int32)), .val (.ref b2_1), .val (.int (0 : Int32))]) rfl ?_
  refine g_iload X1 hx (b d10_8) rfl ?_
  refine g_iloadN X1 hx (b d10_10) rfl ?_
  refine g_icmpNo X1 hx (b d10_11) (XT.ii_ge_f (by decide : (0 : Int32) < (1 : Int32))) ?_
  refine g_aloadN X1 hx (b d10_14) rfl rfl ?_
  refine g_iload X1 hx (b d10_15) rfl ?_
  refine g_aloadN X1 hx (b d10_17) rfl rfl ?_
  refine g_iloadN X1 hx (b d10_18) rfl ?_
  obtain ⟨cl2, Ar2, q2, S2, M2, H2, G2⟩ := id (P1.keep K1c nin0)
  have hin2 : ¬ ((0 : Int32) < 0 ∨ cl2.slots.size ≤ ((0 : Int32)).toNatClampNeg) := inb_of S2 ⟨by decide, by decide⟩
  have hat2 : cl2.slots[((0 : Int32)).toNatClampNeg]? = some (.int p3) := H2.at hin2 rfl
  refine Go.st (fun t k => X1.caload hx (j := (0 : Int32)) (v := (.int p3)) Ar2.1 (State.isArrayOf_alike hZ.alike Ar2.2.1) Ar2.2.2 hin2 hat2 (g := (mkF m 19 #[.val (.ref a1), .val (.int (0 : Int32)), .val (.int (1 : Int32)), .val (.ref b2_1), .val (.int (0 : Int32))] [(.int (0 : Int32)), (.ref a1), (.int (0 : Int32)), (.ref b2_1)])) rfl rfl (b d10_19) t k) ?_
  refine own_cS X1 hx hZ hown (w60 hw) (w61 hw) (w45 hw) (w62 hw) (rm13_1 hw b2_1 p3 k2_1 O1 P2 P3 r1_1 g_b2_1 P4) rfl 0 (by decide) (by decide) (by rw [hml]; rfl) [(.ref b2_1), (.int (0 : Int32)), (.int p3)] [] (lenOf pd_5 rfl) rfl rfl (Nat.le_of_eq rfl) (b d10_20) ?_
  rintro T3 _ L3 X3 ⟨rfl, M3, K3c, r3_0⟩
  have N3 := Fr.app N1 M3
  have O3 : Old Z n0 T3.heap := O1.keep K3c (allS g_b2_1 all0)
  have K3 : Keep h0 T3.heap [] := K1.trans K3c (allS (Or.inr s_b2_1) all0)
  refine g_iinc X3 hx (b d10_23) rfl (l' := #[.val (.ref a1), .val (.int (1 : Int32)), .val (.int (1 : Int32)), .val (.ref b2_1), .val (.int (0 : Int32))]) rfl ?_
  refine g_iinc X3 hx (b d10_26) rfl (l' := #[.val (.ref a1), .val (.int (1 : Int32)), .val (.int (1 : Int32)), .val (.ref b2_1), .val (.int (1 : Int32))]) rfl ?_
  refine g_goto X3 hx (pc := 29) 8 (b d10_29) (by decide) ?_
  refine g_iload X3 hx (b d10_8) rfl ?_
  refine g_iloadN X3 hx (b d10_10) rfl ?_
  refine g_icmpYes X3 hx (pc := 11) 32 (b d10_11) (XT.ii_ge_t (by decide : ¬ ((1 : Int32) < (1 : Int32)))) (by decide) ?_
  refine g_aloadN X3 hx (b d10_32) rfl rfl ?_
  exact own_eA X3 hx hret rfl rfl (b d10_33) rfl (by decide) ⟨b2_1, k2_1, rfl, N3, K3, s_b2_1, r3_0⟩
theorem rm14_10 (hw : HW Z a0) (a1 : Addr) (kz2 : ClassId) (p3 : Int32) (O0 : Old Z n0 h0) (P1 : Sta Z Z.heap "java/lang/StringUTF16" "$assertionsDisabled" "Z" (.int (1 : Int32))) (P2 : Arv Z h0 a1 kz2 .byte (2 : Int32) [(.int (own_b0 p3)), (.int (own_b8 p3))] (.int (0 : Int32))) (P3 : Sta Z Z.heap "java/lang/StringUTF16" "HI_BYTE_SHIFT" "I" (.int (0 : Int32))) (P4 : Sta Z Z.heap "java/lang/StringUTF16" "LO_BYTE_SHIFT" "I" (.int (8 : Int32))) :
    MM l mn7 jdk_52_method_5_code 2 (some .char) (R4 0 0 0 0) #[(.ref a1), (.int (0 : Int32))] Z h0 (fun v h L => v = some (.int (own_c (own_c ((((own_b0 p3) &&& (255 : Int32)) <<< ((0 : Int32) &&& 31)) ||| (((own_b8 p3) &&& (255 : Int32)) <<< ((8 : Int32) &&& 31)))))) ∧ Fr n0 L ∧ h = h0) := by
  refine own_hN n0 rfl pn_2 ?_
  intro p e s m below meth c s₁ hx b hml hret hZ hown hnm X0 e0 N0
  refine own_ct (mkF m 0 #[.val (.ref a1), .val (.int (0 : Int32))] []) rfl ?_
  obtain ⟨T1, X1, e1, st1⟩ := getS2 X0 hx hZ hown (host := "") (Or.inl (w63 hw)) Via.refl e0 (P1.ext O0.2) (g := (mkF m 0 #[.val (.ref a1), .val (.int (0 : Int32))] [])) rfl (b d14_0)
  refine Go.st st1 ?_
  refine g_ifYes X1 hx (pc := 3) 28 (b d14_3) (XT.i0_ne_t (by decide : ¬ ((1 : Int32) = (0 : Int32)))) (by decide) ?_
  refine g_iloadN X1 hx (b d14_28) rfl ?_
  refine g_iconst X1 hx (1) (b d14_29) rfl ?_
  refine g_ishlZ X1 hx (0 : Int32) (b d14_30) rfl ?_
  refine g_istoreN X1 hx (b d14_31) (l' := #[.val (.ref a1), .val (.int (0 : Int32))]) rfl ?_
  refine g_aloadN X1 hx (b d14_32) rfl rfl ?_
  refine g_iloadN X1 hx (b d14_33) rfl ?_
  refine g_iinc X1 hx (b d14_34) rfl (l' := #[.val (.ref a1), .val (.int (1 : Int32))]) rfl ?_
  obtain ⟨cl2, Ar2, q2, S2, M2, H2, G2⟩ := id P2
  have hin2 : ¬ ((0 : Int32) < 0 ∨ cl2.slots.size ≤ ((0 : Int32)).toNatClampNeg) := inb_of S2 ⟨by decide, by decide⟩
  have hat2 : cl2.slots[((0 : Int32)).toNatClampNeg]? = some (.int (own_b0 p3)) := H2.at hin2 rfl
  refine Go.st (fun t k => X1.baloadBytes hx (j := (0 : Int32)) (v := (.int (own_b0 p3))) (by rw [e1]; exact Ar2.1) (State.isArrayOf_alike hZ.alike Ar2.2.1) Ar2.2.2 hin2 hat2 (g := (mkF m 37 #[.val (.ref a1), .val (.int (1 : Int32))] [(.int (0 : Int32)), (.ref a1)])) rfl rfl (b d14_37) t k) ?_
  refine g_sipush X1 hx (255) (b d14_38) rfl ?_
  refine g_iand X1 hx (b d14_41) ?_
  obtain ⟨T3, X3, e3, st3⟩ := getS2 X1 hx hZ hown (host := "") (Or.inl (w64 hw)) Via.refl e1 (P3.ext O0.2) (g := (mkF m 42 #[.val (.ref a1), .val (.int (1 : Int32))] [(.int ((own_b0 p3) &&& (255 : Int32)))])) rfl (b d14_42)
  refine Go.st st3 ?_
  refine g_ishl X3 hx (b d14_45) ?_
  refine g_aloadN X3 hx (b d14_46) rfl rfl ?_
  refine g_iloadN X3 hx (b d14_47) rfl ?_
  obtain ⟨cl4, Ar4, q4, S4, M4, H4, G4⟩ := id P2
  have hin4 : ¬ ((1 : Int32) < 0 ∨ cl4.slots.size ≤ ((1 : Int32)).toNatClampNeg) := inb_of S4 ⟨by decide, by decide⟩
  have hat4 : cl4.slots[((1 : Int32)).toNatClampNeg]? = some (.int (own_b8 p3)) := H4.at hin4 rfl
  refine Go.st (fun t k => X3.baloadBytes hx (j := (1 : Int32)) (v := (.int (own_b8 p3))) (by rw [e3]; exact Ar4.1) (State.isArrayOf_alike hZ.alike Ar4.2.1) Ar4.2.2 hin4 hat4 (g := (mkF m 48 #[.val (.ref a1), .val (.int (1 : Int32))] [(.int (1 : Int32)), (.ref a1), (.int (((own_b0 p3) &&& (255 : Int32)) <<< ((0 : Int32) &&& 31)))])) rfl rfl (b d14_48) t k) ?_
  refine g_sipush X3 hx (255) (b d14_49) rfl ?_
  refine g_iand X3 hx (b d14_52) ?_
  obtain ⟨T5, X5, e5, st5⟩ := getS2 X3 hx hZ hown (host := "") (Or.inl (w65 hw)) Via.refl e3 (P4.ext O0.2) (g := (mkF m 53 #[.val (.ref a1), .val (.int (1 : Int32))] [(.int ((own_b8 p3) &&& (255 : Int32))), (.int (((own_b0 p3) &&& (255 : Int32)) <<< ((0 : Int32) &&& 31)))])) rfl (b d14_53)
  refine Go.st st5 ?_
  refine g_ishl X5 hx (b d14_56) ?_
  refine g_ior X5 hx (b d14_57) ?_
  refine g_i2cZ X5 hx (own_c ((((own_b0 p3) &&& (255 : Int32)) <<< ((0 : Int32) &&& 31)) ||| (((own_b8 p3) &&& (255 : Int32)) <<< ((8 : Int32) &&& 31)))) (b d14_58) rfl ?_
  exact own_eB X5 hx hret (by simp) rfl (b d14_59) e5 (by decide) ⟨rfl, N0, rfl⟩
theorem rmU1 (hw : HW Z a0) (ov : Addr) (kv : ClassId) (Xv0 : Int32) (O0 : Old Z n0 h0) (MF1 : Arv Z h0 ov kv .char (1 : Int32) [(.int Xv0)] (.int (0 : Int32))) (Mp1 : ¬ (Xv0 < (0 : Int32))) (Mp2 : ¬ ((65535 : Int32) < Xv0)) (Mp3 : (255 : Int32) < Xv0) (P5 : Sta Z Z.heap "java/lang/StringUTF16" "$assertionsDisabled" "Z" (.int (1 : Int32))) (P6 : Sta Z Z.heap "java/lang/StringUTF16" "HI_BYTE_SHIFT" "I" (.int (0 : Int32))) (P7 : Sta Z Z.heap "java/lang/StringUTF16" "LO_BYTE_SHIFT" "I" (.int (8 : Int32))) :
    MM l mn13 jdk_52_method_16_code 6 (some (.array .byte)) (R4 3 2 3 40) #[(.ref ov), (.int (0 : Int32)), (.int (1 : Int32))] Z h0 (fun v h L => ∃ (bo : Addr) (ko : ClassId), v = some (.ref bo) ∧ Fr n0 L ∧ Keep h0 h [] ∧ h0.size ≤ bo ∧ Arv Z h bo ko .byte (2 : Int32) [(.int (own_b0 Xv0)), (.int (own_b8 Xv0))] (.int (0 : Int32))) := by
  refine own_hN n0 rfl pn_2 ?_
  intro p e s m below meth c s₁ hx b hml hret hZ hown hnm X0 e0 N0
  refine own_ct (mkF m 0 #[.val (.ref ov), .val (.int (0 : Int32)), .val (.int (1 : Int32)), .unset, .unset, .unset] []) rfl ?_
  refine g_iloadN X0 hx (b d8_0) rfl ?_
  obtain ⟨T1, h1, k1, X1, e1, E1, A1, st1⟩ := newP X0 hx hZ (aty := .byte) (w26 hw) e0 (g := (mkF m 1 #[.val (.ref ov), .val (.int (0 : Int32)), .val (.int (1 : Int32)), .unset, .unset, .unset] [(.int (1 : Int32))])) rfl (b d8_1) rfl (by decide) (cap := 1) (by decide) (by decide) (by decide) (by decide)
  obtain ⟨b1, z1⟩ : ∃ z, z = h0.size := ⟨_, rfl⟩
  rw [← z1] at A1 st1
  have g_b1 : n0 ≤ b1 := Nat.le_trans (own_n0 O0) (Nat.le_of_eq z1.symm)
  have s_b1 : h0.size ≤ b1 := Nat.le_trans (Keep.refl h0 []).1 (Nat.le_of_eq z1.symm)
  have V1 : Arv Z h1 b1 k1 .byte (1 : Int32) [(.int (0 : Int32))] (.int (0 : Int32)) := (Arv.new A1 (by decide)).pad (pad_rep [] (.int (0 : Int32)) 1)
  have O1 : Old Z n0 h1 := O0.ext E1
  have K1 : Keep h0 h1 [] := (Keep.refl h0 []).ext E1
  refine Go.st st1 ?_
  refine g_astoreN X1 hx (b d8_3) rfl (l' := #[.val (.ref ov), .val (.int (0 : Int32)), .val (.int (1 : Int32)), .val (.ref b1), .unset, .unset]) rfl ?_
  refine g_aloadN X1 hx (b d8_4) rfl rfl ?_
  refine g_iloadN X1 hx (b d8_5) rfl ?_
  refine g_aloadN X1 hx (b d8_6) rfl rfl ?_
  refine g_iconst X1 hx (0) (b d8_7) rfl ?_
  refine g_iloadN X1 hx (b d8_8) rfl ?_
  refine own_cS X1 hx hZ hown (w47 hw) (w48 hw) (w45 hw) (w49 hw) (rm9_1 hw ov b1 kv Xv0 O1 (MF1.ext E1) Mp3) e1 0 (by decide) (by decide) (by rw [hml]; rfl) [(.ref ov), (.int (0 : Int32)), (.ref b1), (.int (0 : Int32)), (.int (1 : Int32))] [] (lenOf pd_2 rfl) rfl rfl (Nat.le_of_eq rfl) (b d8_9) ?_
  rintro T2 _ L2 X2 ⟨rfl, M2, eh2⟩
  have N2 := Fr.app N0 M2
  refine g_istore X2 hx (b d8_12) (l' := #[.val (.ref ov), .val (.int (0 : Int32)), .val (.int (1 : Int32)), .val (.ref b1), .val (.int (0 : Int32)), .unset]) rfl ?_
  refine g_iload X2 hx (b d8_14) rfl ?_
  refine g_iloadN X2 hx (b d8_16) rfl ?_
  refine g_icmpNo X2 hx (b d8_17) (XT.ii_eq_f (by decide : ¬ ((0 : Int32) = (1 : Int32)))) ?_
  refine g_aloadN X2 hx (b d8_20) rfl rfl ?_
  refine g_iloadN X2 hx (b d8_21) rfl ?_
  refine g_iloadN X2 hx (b d8_22) rfl ?_
  refine own_cS X2 hx hZ hown (w50 hw) (w51 hw) (w45 hw) (w52 hw) (rm10_1 hw ov kv Xv0 O1 (MF1.ext E1) P5 P6 P7) eh2 0 (by decide) (by decide) (by rw [hml]; rfl) [(.ref ov), (.int (0 : Int32)), (.int (1 : Int32))] [] (lenOf pd_6 rfl) rfl rfl (Nat.le_of_eq rfl) (b d8_23) ?_
  rintro T3 _ L3 X3 ⟨b2_1_3, k2_1_3, rfl, M3, K3c, r3_0, r3_1⟩
  have N3 := Fr.app N2 M3
  have g_b2_1_3 : n0 ≤ b2_1_3 := Nat.le_trans (own_n0 O1) r3_0
  have s_b2_1_3 : h0.size ≤ b2_1_3 := Nat.le_trans K1.1 r3_0
  have O3 : Old Z n0 T3.heap := O1.keep K3c all0
  have K3 : Keep h0 T3.heap [] := K1.trans K3c all0
  refine g_astore X3 hx (b d8_26) rfl (l' := #[.val (.ref ov), .val (.int (0 : Int32)), .val (.int (1 : Int32)), .val (.ref b1), .val (.int (0 : Int32)), .val (.ref b2_1_3)]) rfl ?_
  refine g_aload X3 hx (b d8_28) rfl rfl ?_
  refine g_iload X3 hx (b d8_30) rfl ?_
  refine own_cS X3 hx hZ hown (w66 hw) (w67 hw) (w45 hw) (w68 hw) (rm14_10 hw b2_1_3 k2_1_3 Xv0 O3 P5 r3_1 P6 P7) rfl 0 (by decide) (by decide) (by rw [hml]; rfl) [(.ref b2_1_3), (.int (0 : Int32))] [] (lenOf pd_1 rfl) rfl rfl (Nat.le_of_eq rfl) (b d8_32) ?_
  rintro T4 _ L4 X4 ⟨rfl, M4, eh4⟩
  have N4 := Fr.app N3 M4
  refine g_sipush X4 hx (255) (b d8_35) rfl ?_
  have he5 := own_N0 Xv0 Mp1 Mp2
  have hn6 : (255 : Int32) < (own_c (own_c ((((own_b0 Xv0) &&& (255 : Int32)) <<< ((0 : Int32) &&& 31)) ||| (((own_b8 Xv0) &&& (255 : Int32)) <<< ((8 : Int32) &&& 31))))) := by
    rw [he5]
    exact Mp3
  refine g_icmpYes X4 hx (pc := 38) 54 (b d8_38) (XT.ii_gt_t hn6) (by decide) ?_
  refine g_aload X4 hx (b d8_54) rfl rfl ?_
  exact own_eA X4 hx hret rfl rfl (b d8_56) eh4 (by decide) ⟨b2_1_3, k2_1_3, rfl, N4, K3, s_b2_1_3, r3_1⟩
theorem rm9_2 (hw : HW Z a0) (a1 a2 : Addr) (kz3 : ClassId) (p4 p5 : Int32) (O0 : Old Z n0 h0) (P1 : Arv Z h0 a1 kz3 .char (2 : Int32) [(.int p4), (.int p5)] (.int (0 : Int32))) (P2 : (255 : Int32) < p4) :
    MM l mn8 jdk_52_method_21_code 7 (some .int) (R4 0 0 0 0) #[(.ref a1), (.int (0 : Int32)), (.ref a2), (.int (0 : Int32)), (.int (2 : Int32))] Z h0 (fun v h L => v = some (.int (0 : Int32)) ∧ Fr n0 L ∧ h = h0) := by
  refine own_hN n0 rfl pn_2 ?_
  intro p e s m below meth c s₁ hx b hml hret hZ hown hnm X0 e0 N0
  refine own_ct (mkF m 0 #[.val (.ref a1), .val (.int (0 : Int32)), .val (.ref a2), .val (.int (0 : Int32)), .val (.int (2 : Int32)), .unset, .unset] []) rfl ?_
  refine g_iconst X0 hx (0) (b d9_0) rfl ?_
  refine g_istore X0 hx (b d9_1) (l' := #[.val (.ref a1), .val (.int (0 : Int32)), .val (.ref a2), .val (.int (0 : Int32)), .val (.int (2 : Int32)), .val (.int (0 : Int32)), .unset]) rfl ?_
  refine g_iload X0 hx (b d9_3) rfl ?_
  refine g_iload X0 hx (b d9_5) rfl ?_
  refine g_icmpNo X0 hx (b d9_7) (XT.ii_ge_f (by decide : (0 : Int32) < (2 : Int32))) ?_
  refine g_aloadN X0 hx (b d9_10) rfl rfl ?_
  refine g_iloadN X0 hx (b d9_11) rfl ?_
  obtain ⟨cl1, Ar1, q1, S1, M1, H1, G1⟩ := id P1
  have hin1 : ¬ ((0 : Int32) < 0 ∨ cl1.slots.size ≤ ((0 : Int32)).toNatClampNeg) := inb_of S1 ⟨by decide, by decide⟩
  have hat1 : cl1.slots[((0 : Int32)).toNatClampNeg]? = some (.int p4) := H1.at hin1 rfl
  refine Go.st (fun t k => X0.caload hx (j := (0 : Int32)) (v := (.int p4)) (by rw [e0]; exact Ar1.1) (State.isArrayOf_alike hZ.alike Ar1.2.1) Ar1.2.2 hin1 hat1 (g := (mkF m 12 #[.val (.ref a1), .val (.int (0 : Int32)), .val (.ref a2), .val (.int (0 : Int32)), .val (.int (2 : Int32)), .val (.int (0 : Int32)), .unset] [(.int (0 : Int32)), (.ref a1)])) rfl rfl (b d9_12) t k) ?_
  refine g_istore X0 hx (b d9_13) (l' := #[.val (.ref a1), .val (.int (0 : Int32)), .val (.ref a2), .val (.int (0 : Int32)), .val (.int (2 : Int32)), .val (.int (0 : Int32)), .val (.int p4)]) rfl ?_
  refine g_iload X0 hx (b d9_15) rfl ?_
  refine g_sipush X0 hx (255) (b d9_17) rfl ?_
  refine g_icmpNo X0 hx (b d9_20) (XT.ii_le_f P2) ?_
  refine g_iload X0 hx (b d9_23) rfl ?_
  exact own_eI X0 hx hret (b d9_25) e0 (by decide) ⟨rfl, N0, rfl⟩
theorem rm12_2 (hw : HW Z a0)  (O0 : Old Z n0 h0) :
    MM l mn9 jdk_52_method_3_code 1 (some .int) (R4 0 0 0 0) #[(.int (2 : Int32))] Z h0 (fun v h L => v = some (.int (4 : Int32)) ∧ Fr n0 L ∧ h = h0) := by
  refine own_hN n0 rfl pn_2 ?_
  intro p e s m below meth c s₁ hx b hml hret hZ hown hnm X0 e0 N0
  refine own_ct (mkF m 0 #[.val (.int (2 : Int32))] []) rfl ?_
  refine g_iloadN X0 hx (b d12_0) rfl ?_
  refine g_ifYes X0 hx (pc := 1) 12 (b d12_1) (XT.i0_ge_t (by decide : ¬ ((2 : Int32) < (0 : Int32)))) (by decide) ?_
  refine g_iloadN X0 hx (b d12_12) rfl ?_
  refine Go.st (fun t k => X0.ldcI hx hown (mvT hZ (w59 hw)) (g := (mkF m 13 #[.val (.int (2 : Int32))] [(.int (2 : Int32))])) rfl (b d12_13) k) ?_
  refine g_icmpYes X0 hx (pc := 15) 55 (b d12_15) (XT.ii_lt_t (by decide : (2 : Int32) < (1073741823 : Int32))) (by decide) ?_
  refine g_iloadN X0 hx (b d12_55) rfl ?_
  refine g_iconst X0 hx (1) (b d12_56) rfl ?_
  refine g_ishlZ X0 hx (4 : Int32) (b d12_57) rfl ?_
  exact own_eI X0 hx hret (b d12_58) e0 (by decide) ⟨rfl, N0, rfl⟩
theorem rm11_2 (hw : HW Z a0)  (O0 : Old Z n0 h0) :
    MM l mn10 jdk_52_method_2_code 1 (some (.array .byte)) (R4 1 1 4 12) #[(.int (2 : Int32))] Z h0 (fun v h L => ∃ (b2 : Addr) (k2 : ClassId), v = some (.ref b2) ∧ Fr n0 L ∧ Keep h0 h [] ∧ h0.size ≤ b2 ∧ Arv Z h b2 k2 .byte (4 : Int32) [(.int (0 : Int32)), (.int (0 : Int32)), (.int (0 : Int32)), (.int (0 : Int32))] (.int (0 : Int32))) := by
  refine own_hN n0 rfl pn_2 ?_
  intro p e s m below meth c s₁ hx b hml hret hZ hown hnm X0 e0 N0
  refine own_ct (mkF m 0 #[.val (.int (2 : Int32))] []) rfl ?_
  refine g_iloadN X0 hx (b d11_0) rfl ?_
  refine own_cS X0 hx hZ hown (w56 hw) (w57 hw) (w45 hw) (w58 hw) (rm12_2 hw O0) e0 0 (by decide) (by decide) (by rw [hml]; rfl) [(.int (2 : Int32))] [] (lenOf pd_3 rfl) rfl rfl (Nat.le_of_eq rfl) (b d11_1) ?_
  rintro T1 _ L1 X1 ⟨rfl, M1, eh1⟩
  have N1 := Fr.app N0 M1
  obtain ⟨T2, h2, k2, X2, e2, E2, A2, st2⟩ := newP X1 hx hZ (aty := .byte) (w26 hw) eh1 (g := (mkF m 4 #[.val (.int (2 : Int32))] [(.int (4 : Int32))])) rfl (b d11_4) rfl (by decide) (cap := 4) (by decide) (by decide) (by decide) (by decide)
  obtain ⟨b2, z2⟩ : ∃ z, z = h0.size := ⟨_, rfl⟩
  rw [← z2] at A2 st2
  have g_b2 : n0 ≤ b2 := Nat.le_trans (own_n0 O0) (Nat.le_of_eq z2.symm)
  have s_b2 : h0.size ≤ b2 := Nat.le_trans (Keep.refl h0 []).1 (Nat.le_of_eq z2.symm)
  have V2 : Arv Z h2 b2 k2 .byte (4 : Int32) [(.int (0 : Int32)), (.int (0 : Int32)), (.int (0 : Int32)), (.int (0 : Int32))] (.int (0 : Int32)) := (Arv.new A2 (by decide)).pad (pad_rep [] (.int (0 : Int32)) 4)
  have O2 : Old Z n0 h2 := O0.ext E2
  have K2 : Keep h0 h2 [] := (Keep.refl h0 []).ext E2
  refine Go.st st2 ?_
  exact own_eA X2 hx hret rfl rfl (b d11_6) e2 (by decide) ⟨b2, k2, rfl, N1, K2, s_b2, V2⟩
theorem rm13_2 (hw : HW Z a0) (a1 : Addr) (p2 : Int32) (kz3 : ClassId) (O0 : Old Z n0 h0) (P1 : Sta Z Z.heap "java/lang/StringUTF16" "$assertionsDisabled" "Z" (.int (1 : Int32))) (P2 : Sta Z Z.heap "java/lang/StringUTF16" "HI_BYTE_SHIFT" "I" (.int (0 : Int32))) (P3 : Arv Z h0 a1 kz3 .byte (4 : Int32) [(.int (0 : Int32)), (.int (0 : Int32)), (.int (0 : Int32)), (.int (0 : Int32))] (.int (0 : Int32))) (P4 : n0 ≤ a1) (P5 : Sta Z Z.heap "java/lang/StringUTF16" "LO_BYTE_SHIFT" "I" (.int (8 : Int32))) :
    MM l mn11 jdk_52_method_4_code 3 none (R4 0 0 0 0) #[(.ref a1), (.int (0 : Int32)), (.int p2)] Z h0 (fun v h L => v = none ∧ Fr n0 L ∧ Keep h0 h [a1] ∧ Arv Z h a1 kz3 .byte (4 : Int32) [(.int (own_b0 p2)), (.int (own_b8 p2)), (.int (0 : Int32)), (.int (0 : Int32))] (.int (0 : Int32))) := by
  refine own_hN n0 rfl pn_2 ?_
  intro p e s m below meth c s₁ hx b hml hret hZ hown hnm X0 e0 N0
  refine own_ct (mkF m 0 #[.val (.ref a1), .val (.int (0 : Int32)), .val (.int p2)] []) rfl ?_
  obtain ⟨T1, X1, e1, st1⟩ := getS2 X0 hx hZ hown (host := "") (Or.inl (w63 hw)) Via.refl e0 (P1.ext O0.2) (g := (mkF m 0 #[.val (.ref a1), .val (.int (0 : Int32)), .val (.int p2)] [])) rfl (b d13_0)
  refine Go.st st1 ?_
  refine g_ifYes X1 hx (pc := 3) 28 (b d13_3) (XT.i0_ne_t (by decide : ¬ ((1 : Int32) = (0 : Int32)))) (by decide) ?_
  refine g_iloadN X1 hx (b d13_28) rfl ?_
  refine g_iconst X1 hx (1) (b d13_29) rfl ?_
  refine g_ishlZ X1 hx (0 : Int32) (b d13_30) rfl ?_
  refine g_istoreN X1 hx (b d13_31) (l' := #[.val (.ref a1), .val (.int (0 : Int32)), .val (.int p2)]) rfl ?_
  refine g_aloadN X1 hx (b d13_32) rfl rfl ?_
  refine g_iloadN X1 hx (b d13_33) rfl ?_
  refine g_iinc X1 hx (b d13_34) rfl (l' := #[.val (.ref a1), .val (.int (1 : Int32)), .val (.int p2)]) rfl ?_
  refine g_iloadN X1 hx (b d13_37) rfl ?_
  obtain ⟨T2, X2, e2, st2⟩ := getS2 X1 hx hZ hown (host := "") (Or.inl (w64 hw)) Via.refl e1 (P2.ext O0.2) (g := (mkF m 38 #[.val (.ref a1), .val (.int (1 : Int32)), .val (.int p2)] [(.int p2), (.int (0 : Int32)), (.ref a1)])) rfl (b d13_38)
  refine Go.st st2 ?_
  refine g_ishr X2 hx (b d13_41) ?_
  refine g_i2bZ X2 hx ((p2 >>> ((0 : Int32) &&& 31)).toInt8.toInt32) (b d13_42) rfl ?_
  obtain ⟨cl3, Ar3, q3, S3, M3, H3, G3⟩ := id P3
  have hin3 : ¬ ((0 : Int32) < 0 ∨ cl3.slots.size ≤ ((0 : Int32)).toNatClampNeg) := inb_of S3 ⟨by decide, by decide⟩
  obtain ⟨T3, h3, X3, e3, W3, st3⟩ := stB X2 hx hZ e2 Ar3 (j := (0 : Int32)) hin3 (g := (mkF m 43 #[.val (.ref a1), .val (.int (1 : Int32)), .val (.int p2)] [(.int ((p2 >>> ((0 : Int32) &&& 31)).toInt8.toInt32)), (.int (0 : Int32)), (.ref a1)])) rfl rfl (b d13_43)
  have V3 : Arv Z h3 a1 kz3 .byte (4 : Int32) [(.int (own_b0 p2)), (.int (0 : Int32)), (.int (0 : Int32)), (.int (0 : Int32))] (.int (0 : Int32)) := Arv.set Ar3 q3 S3 M3 H3 G3 (fits_nar_byte _) W3 0 rfl (Nat.le_of_ble_eq_true rfl)
  have N3 := Fr.snoc X3 N0 P4
  have O3 : Old Z n0 h3 := O0.wr W3 P4
  have K3 : Keep h0 h3 [a1] := (Keep.refl h0 [a1]).wr W3 (Or.inl (List.mem_of_getElem? (i := 0) rfl))
  refine Go.st st3 ?_
  refine g_aloadN X3 hx (b d13_44) rfl rfl ?_
  refine g_iloadN X3 hx (b d13_45) rfl ?_
  refine g_iloadN X3 hx (b d13_46) rfl ?_
  obtain ⟨T4, X4, e4, st4⟩ := getS2 X3 hx hZ hown (host := "") (Or.inl (w65 hw)) Via.refl e3 (P5.ext O3.2) (g := (mkF m 47 #[.val (.ref a1), .val (.int (1 : Int32)), .val (.int p2)] [(.int p2), (.int (1 : Int32)), (.ref a1)])) rfl (b d13_47)
  refine Go.st st4 ?_
  refine g_ishr X4 hx (b d13_50) ?_
  refine g_i2bZ X4 hx ((p2 >>> ((8 : Int32) &&& 31)).toInt8.toInt32) (b d13_51) rfl ?_
  obtain ⟨cl5, Ar5, q5, S5, M5, H5, G5⟩ := id V3
  have hin5 : ¬ ((1 : Int32) < 0 ∨ cl5.slots.size ≤ ((1 : Int32)).toNatClampNeg) := inb_of S5 ⟨by decide, by decide⟩
  obtain ⟨T5, h5, X5, e5, W5, st5⟩ := stB X4 hx hZ e4 Ar5 (j := (1 : Int32)) hin5 (g := (mkF m 52 #[.val (.ref a1), .val (.int (1 : Int32)), .val (.int p2)] [(.int ((p2 >>> ((8 : Int32) &&& 31)).toInt8.toInt32)), (.int (1 : Int32)), (.ref a1)])) rfl rfl (b d13_52)
  have V5 : Arv Z h5 a1 kz3 .byte (4 : Int32) [(.int (own_b0 p2)), (.int (own_b8 p2)), (.int (0 : Int32)), (.int (0 : Int32))] (.int (0 : Int32)) := Arv.set Ar5 q5 S5 M5 H5 G5 (fits_nar_byte _) W5 1 rfl (Nat.le_of_ble_eq_true rfl)
  have N5 := Fr.snoc X5 N3 P4
  have O5 : Old Z n0 h5 := O3.wr W5 P4
  have K5 : Keep h0 h5 [a1] := K3.wr W5 (Or.inl (List.mem_of_getElem? (i := 0) rfl))
  refine Go.st st5 ?_
  exact own_eV X5 hx hret (b d13_53) e5 (by decide) ⟨rfl, N5, K5, V5⟩
theorem rm13_3 (hw : HW Z a0) (a1 : Addr) (p2 : Int32) (kz3 : ClassId) (p4 : Int32) (O0 : Old Z n0 h0) (P1 : Sta Z Z.heap "java/lang/StringUTF16" "$assertionsDisabled" "Z" (.int (1 : Int32))) (P2 : Sta Z Z.heap "java/lang/StringUTF16" "HI_BYTE_SHIFT" "I" (.int (0 : Int32))) (P3 : Arv Z h0 a1 kz3 .byte (4 : Int32) [(.int (own_b0 p4)), (.int (own_b8 p4)), (.int (0 : Int32)), (.int (0 : Int32))] (.int (0 : Int32))) (P4 : n0 ≤ a1) (P5 : Sta Z Z.heap "java/lang/StringUTF16" "LO_BYTE_SHIFT" "I" (.int (8 : Int32))) :
    MM l mn11 jdk_52_method_4_code 3 none (R4 0 0 0 0) #[(.ref a1), (.int (1 : Int32)), (.int p2)] Z h0 (fun v h L => v = none ∧ Fr n0 L ∧ Keep h0 h [a1] ∧ Arv Z h a1 kz3 .byte (4 : Int32) [(.int (own_b0 p4)), (.int (own_b8 p4)), (.int (own_b0 p2)), (.int (own_b8 p2))] (.int (0 : Int32))) := by
  refine own_hN n0 rfl pn_2 ?_
  intro p e s m below meth c s₁ hx b hml hret hZ hown hnm X0 e0 N0
  refine own_ct (mkF m 0 #[.val (.ref a1), .val (.int (1 : Int32)), .val (.int p2)] []) rfl ?_
  obtain ⟨T1, X1, e1, st1⟩ := getS2 X0 hx hZ hown (host := "") (Or.inl (w63 hw)) Via.refl e0 (P1.ext O0.2) (g := (mkF m 0 #[.val (.ref a1), .val (.int (1 : Int32)), .val (.int p2)] [])) rfl (b d13_0)
  refine Go.st st1 ?_
  refine g_ifYes X1 hx (pc := 3) 28 (b d13_3) (XT.i0_ne_t (by decide : ¬ ((1 : Int32) = (0 : Int32)))) (by decide) ?_
  refine g_iloadN X1 hx (b d13_28) rfl ?_
  refine g_iconst X1 hx (1) (b d13_29) rfl ?_
  refine g_ishlZ X1 hx (2 : Int32) (b d13_30) rfl ?_
  refine g_istoreN X1 hx (b d13_31) (l' := #[.val (.ref a1), .val (.int (2 : Int32)), .val (.int p2)]) rfl ?_
  refine g_aloadN X1 hx (b d13_32) rfl rfl ?_
  refine g_iloadN X1 hx (b d13_33) rfl ?_
  refine g_iinc X1 hx (b d13_34) rfl (l' := #[.val (.ref a1), .val (.int (3 : Int32)), .val (.int p2)]) rfl ?_
  refine g_iloadN X1 hx (b d13_37) rfl ?_
  obtain ⟨T2, X2, e2, st2⟩ := getS2 X1 hx hZ hown (host := "") (Or.inl (w64 hw)) Via.refl e1 (P2.ext O0.2) (g := (mkF m 38 #[.val (.ref a1), .val (.int (3 : Int32)), .val (.int p2)] [(.int p2), (.int (2 : Int32)), (.ref a1)])) rfl (b d13_38)
  refine Go.st st2 ?_
  refine g_ishr X2 hx (b d13_41) ?_
  refine g_i2bZ X2 hx ((p2 >>> ((0 : Int32) &&& 31)).toInt8.toInt32) (b d13_42) rfl ?_
  obtain ⟨cl3, Ar3, q3, S3, M3, H3, G3⟩ := id P3
  have hin3 : ¬ ((2 : Int32) < 0 ∨ cl3.slots.size ≤ ((2 : Int32)).toNatClampNeg) := inb_of S3 ⟨by decide, by decide⟩
  obtain ⟨T3, h3, X3, e3, W3, st3⟩ := stB X2 hx hZ e2 Ar3 (j := (2 : Int32)) hin3 (g := (mkF m 43 #[.val (.ref a1), .val (.int (3 : Int32)), .val (.int p2)] [(.int ((p2 >>> ((0 : Int32) &&& 31)).toInt8.toInt32)), (.int (2 : Int32)), (.ref a1)])) rfl rfl (b d13_43)
  have V3 : Arv Z h3 a1 kz3 .byte (4 : Int32) [(.int (own_b0 p4)), (.int (own_b8 p4)), (.int (own_b0 p2)), (.int (0 : Int32))] (.int (0 : Int32)) := Arv.set Ar3 q3 S3 M3 H3 G3 (fits_nar_byte _) W3 2 rfl (Nat.le_of_ble_eq_true rfl)
  have N3 := Fr.snoc X3 N0 P4
  have O3 : Old Z n0 h3 := O0.wr W3 P4
  have K3 : Keep h0 h3 [a1] := (Keep.refl h0 [a1]).wr W3 (Or.inl (List.mem_of_getElem? (i := 0) rfl))
  refine Go.st st3 ?_
  refine g_aloadN X3 hx (b d13_44) rfl rfl ?_
  refine g_iloadN X3 hx (b d13_45) rfl ?_
  refine g_iloadN X3 hx (b d13_46) rfl ?_
  obtain ⟨T4, X4, e4, st4⟩ := getS2 X3 hx hZ hown (host := "") (Or.inl (w65 hw)) Via.refl e3 (P5.ext O3.2) (g := (mkF m 47 #[.val (.ref a1), .val (.int (3 : Int32)), .val (.int p2)] [(.int p2), (.int (3 : Int32)), (.ref a1)])) rfl (b d13_47)
  refine Go.st st4 ?_
  refine g_ishr X4 hx (b d13_50) ?_
  refine g_i2bZ X4 hx ((p2 >>> ((8 : Int32) &&& 31)).toInt8.toInt32) (b d13_51) rfl ?_
  obtain ⟨cl5, Ar5, q5, S5, M5, H5, G5⟩ := id V3
  have hin5 : ¬ ((3 : Int32) < 0 ∨ cl5.slots.size ≤ ((3 : Int32)).toNatClampNeg) := inb_of S5 ⟨by decide, by decide⟩
  obtain ⟨T5, h5, X5, e5, W5, st5⟩ := stB X4 hx hZ e4 Ar5 (j := (3 : Int32)) hin5 (g := (mkF m 52 #[.val (.ref a1), .val (.int (3 : Int32)), .val (.int p2)] [(.int ((p2 >>> ((8 : Int32) &&& 31)).toInt8.toInt32)), (.int (3 : Int32)), (.ref a1)])) rfl rfl (b d13_52)
  have V5 : Arv Z h5 a1 kz3 .byte (4 : Int32) [(.int (own_b0 p4)), (.int (own_b8 p4)), (.int (own_b0 p2)), (.int (own_b8 p2))] (.int (0 : Int32)) := Arv.set Ar5 q5 S5 M5 H5 G5 (fits_nar_byte _) W5 3 rfl (Nat.le_of_ble_eq_true rfl)
  have N5 := Fr.snoc X5 N3 P4
  have O5 : Old Z n0 h5 := O3.wr W5 P4
  have K5 : Keep h0 h5 [a1] := K3.wr W5 (Or.inl (List.mem_of_getElem? (i := 0) rfl))
  refine Go.st st5 ?_
  exact own_eV X5 hx hret (b d13_53) e5 (by decide) ⟨rfl, N5, K5, V5⟩
theorem rm10_2 (hw : HW Z a0) (a1 : Addr) (kz2 : ClassId) (p3 p4 : Int32) (O0 : Old Z n0 h0) (P1 : Arv Z h0 a1 kz2 .char (2 : Int32) [(.int p3), (.int p4)] (.int (0 : Int32))) (P2 : Sta Z Z.heap "java/lang/StringUTF16" "$assertionsDisabled" "Z" (.int (1 : Int32))) (P3 : Sta Z Z.heap "java/lang/StringUTF16" "HI_BYTE_SHIFT" "I" (.int (0 : Int32))) (P4 : Sta Z Z.heap "java/lang/StringUTF16" "LO_BYTE_SHIFT" "I" (.int (8 : Int32))) :
    MM l mn12 jdk_52_method_14_code 5 (some (.array .byte)) (R4 2 1 4 24) #[(.ref a1), (.int (0 : Int32)), (.int (2 : Int32))] Z h0 (fun v h L => ∃ (b2_1 : Addr) (k2_1 : ClassId), v = some (.ref b2_1) ∧ Fr n0 L ∧ Keep h0 h [] ∧ h0.size ≤ b2_1 ∧ Arv Z h b2_1 k2_1 .byte (4 : Int32) [(.int (own_b0 p3)), (.int (own_b8 p3)), (.int (own_b0 p4)), (.int (own_b8 p4))] (.int (0 : Int32))) := by
  refine own_hN n0 rfl pn_2 ?_
  intro p e s m below meth c s₁ hx b hml hret hZ hown hnm X0 e0 N0
  refine own_ct (mkF m 0 #[.val (.ref a1), .val (.int (0 : Int32)), .val (.int (2 : Int32)), .unset, .unset] []) rfl ?_
  refine g_iloadN X0 hx (b d10_0) rfl ?_
  refine own_cS X0 hx hZ hown (w53 hw) (w54 hw) (w45 hw) (w55 hw) (rm11_2 hw O0) e0 0 (by decide) (by decide) (by rw [hml]; rfl) [(.int (2 : Int32))] [] (lenOf pd_4 rfl) rfl rfl (Nat.le_of_eq rfl) (b d10_1) ?_
  rintro T1 _ L1 X1 ⟨b2_1, k2_1, rfl, M1, K1c, r1_0, r1_1⟩
  have N1 := Fr.app N0 M1
  have g_b2_1 : n0 ≤ b2_1 := Nat.le_trans (own_n0 O0) r1_0
  have s_b2_1 : h0.size ≤ b2_1 := Nat.le_trans (Keep.refl h0 []).1 r1_0
  have O1 : Old Z n0 T1.heap := O0.keep K1c all0
  have K1 : Keep h0 T1.heap [] := (Keep.refl h0 []).trans K1c all0
  refine g_astoreN X1 hx (b d10_4) rfl (l' := #[.val (.ref a1), .val (.int (0 : Int32)), .val (.int (2 : Int32)), .val (.ref b2_1), .unset]) rfl ?_
  refine g_iconst X1 hx (0) (b d10_5) rfl ?_
  refine g_istore X1 hx (b d10_6) (l' := #[.val (.ref a1), .val (.int (0 : Int32)), .val (.int (2 : Int32)), .val (.ref b2_1), .val (.int (0 : Int32))]) rfl ?_
  refine g_iload X1 hx (b d10_8) rfl ?_
  refine g_iloadN X1 hx (b d10_10) rfl ?_
  refine g_icmpNo X1 hx (b d10_11) (XT.ii_ge_f (by decide : (0 : Int32) < (2 : Int32))) ?_
  refine g_aloadN X1 hx (b d10_14) rfl rfl ?_
  refine g_iload X1 hx (b d10_15) rfl ?_
  refine g_aloadN X1 hx (b d10_17) rfl rfl ?_
  refine g_iloadN X1 hx (b d10_18) rfl ?_
  obtain ⟨cl2, Ar2, q2, S2, M2, H2, G2⟩ := id (P1.keep K1c nin0)
  have hin2 : ¬ ((0 : Int32) < 0 ∨ cl2.slots.size ≤ ((0 : Int32)).toNatClampNeg) := inb_of S2 ⟨by decide, by decide⟩
  have hat2 : cl2.slots[((0 : Int32)).toNatClampNeg]? = some (.int p3) := H2.at hin2 rfl
  refine Go.st (fun t k => X1.caload hx (j := (0 : Int32)) (v := (.int p3)) Ar2.1 (State.isArrayOf_alike hZ.alike Ar2.2.1) Ar2.2.2 hin2 hat2 (g := (mkF m 19 #[.val (.ref a1), .val (.int (0 : Int32)), .val (.int (2 : Int32)), .val (.ref b2_1), .val (.int (0 : Int32))] [(.int (0 : Int32)), (.ref a1), (.int (0 : Int32)), (.ref b2_1)])) rfl rfl (b d10_19) t k) ?_
  refine own_cS X1 hx hZ hown (w60 hw) (w61 hw) (w45 hw) (w62 hw) (rm13_2 hw b2_1 p3 k2_1 O1 P2 P3 r1_1 g_b2_1 P4) rfl 0 (by decide) (by decide) (by rw [hml]; rfl) [(.ref b2_1), (.int (0 : Int32)), (.int p3)] [] (lenOf pd_5 rfl) rfl rfl (Nat.le_of_eq rfl) (b d10_20) ?_
  rintro T3 _ L3 X3 ⟨rfl, M3, K3c, r3_0⟩
  have N3 := Fr.app N1 M3
  have O3 : Old Z n0 T3.heap := O1.keep K3c (allS g_b2_1 all0)
  have K3 : Keep h0 T3.heap [] := K1.trans K3c (allS (Or.inr s_b2_1) all0)
  refine g_iinc X3 hx (b d10_23) rfl (l' := #[.val (.ref a1), .val (.int (1 : Int32)), .val (.int (2 : Int32)), .val (.ref b2_1), .val (.int (0 : Int32))]) rfl ?_
  refine g_iinc X3 hx (b d10_26) rfl (l' := #[.val (.ref a1), .val (.int (1 : Int32)), .val (.int (2 : Int32)), .val (.ref b2_1), .val (.int (1 : Int32))]) rfl ?_
  refine g_goto X3 hx (pc := 29) 8 (b d10_29) (by decide) ?_
  refine g_iload X3 hx (b d10_8) rfl ?_
  refine g_iloadN X3 hx (b d10_10) rfl ?_
  refine g_icmpNo X3 hx (b d10_11) (XT.ii_ge_f (by decide : (1 : Int32) < (2 : Int32))) ?_
  refine g_aloadN X3 hx (b d10_14) rfl rfl ?_
  refine g_iload X3 hx (b d10_15) rfl ?_
  refine g_aloadN X3 hx (b d10_17) rfl rfl ?_
  refine g_iloadN X3 hx (b d10_18) rfl ?_
  have c4 := ((P1.keep K1c nin0).keep K3c (ninS (Nat.ne_of_lt (Nat.lt_of_lt_of_le P1.lt r1_0)) nin0))
  obtain ⟨cl5, Ar5, q5, S5, M5, H5, G5⟩ := id c4
  have hin5 : ¬ ((1 : Int32) < 0 ∨ cl5.slots.size ≤ ((1 : Int32)).toNatClampNeg) := inb_of S5 ⟨by decide, by decide⟩
  have hat5 : cl5.slots[((1 : Int32)).toNatClampNeg]? = some (.int p4) := H5.at hin5 rfl
  refine Go.st (fun t k => X3.caload hx (j := (1 : Int32)) (v := (.int p4)) Ar5.1 (State.isArrayOf_alike hZ.alike Ar5.2.1) Ar5.2.2 hin5 hat5 (g := (mkF m 19 #[.val (.ref a1), .val (.int (1 : Int32)), .val (.int (2 : Int32)), .val (.ref b2_1), .val (.int (1 : Int32))] [(.int (1 : Int32)), (.ref a1), (.int (1 : Int32)), (.ref b2_1)])) rfl rfl (b d10_19) t k) ?_
  refine own_cS X3 hx hZ hown (w60 hw) (w61 hw) (w45 hw) (w62 hw) (rm13_3 hw b2_1 p4 k2_1 p3 O3 P2 P3 r3_0 g_b2_1 P4) rfl 0 (by decide) (by decide) (by rw [hml]; rfl) [(.ref b2_1), (.int (1 : Int32)), (.int p4)] [] (lenOf pd_5 rfl) rfl rfl (Nat.le_of_eq rfl) (b d10_20) ?_
  rintro T6 _ L6 X6 ⟨rfl, M6, K6c, r6_0⟩
  have N6 := Fr.app N3 M6
  have O6 : Old Z n0 T6.heap := O3.keep K6c (allS g_b2_1 all0)
  have K6 : Keep h0 T6.heap [] := K3.trans K6c (allS (Or.inr s_b2_1) all0)
  refine g_iinc X6 hx (b d10_23) rfl (l' := #[.val (.ref a1), .val (.int (2 : Int32)), .val (.int (2 : Int32)), .val (.ref b2_1), .val (.int (1 : Int32))]) rfl ?_
  refine g_iinc X6 hx (b d10_26) rfl (l' := #[.val (.ref a1), .val (.int (2 : Int32)), .val (.int (2 : Int32)), .val (.ref b2_1), .val (.int (2 : Int32))]) rfl ?_
  refine g_goto X6 hx (pc := 29) 8 (b d10_29) (by decide) ?_
  refine g_iload X6 hx (b d10_8) rfl ?_
  refine g_iloadN X6 hx (b d10_10) rfl ?_
  refine g_icmpYes X6 hx (pc := 11) 32 (b d10_11) (XT.ii_ge_t (by decide : ¬ ((2 : Int32) < (2 : Int32)))) (by decide) ?_
  refine g_aloadN X6 hx (b d10_32) rfl rfl ?_
  exact own_eA X6 hx hret rfl rfl (b d10_33) rfl (by decide) ⟨b2_1, k2_1, rfl, N6, K6, s_b2_1, r6_0⟩
theorem rm9_3 (hw : HW Z a0) (a1 a2 : Addr) (kz3 : ClassId) (p4 p5 : Int32) (kz6 : ClassId) (O0 : Old Z n0 h0) (P1 : Arv Z h0 a1 kz3 .char (2 : Int32) [(.int p4), (.int p5)] (.int (0 : Int32))) (P2 : ¬ ((255 : Int32) < p4)) (P3 : Arv Z h0 a2 kz6 .byte (2 : Int32) [(.int (0 : Int32)), (.int (0 : Int32))] (.int (0 : Int32))) (P4 : n0 ≤ a2) (P5 : a1 ≠ a2) (P6 : (255 : Int32) < p5) :
    MM l mn8 jdk_52_method_21_code 7 (some .int) (R4 0 0 0 0) #[(.ref a1), (.int (0 : Int32)), (.ref a2), (.int (0 : Int32)), (.int (2 : Int32))] Z h0 (fun v h L => v = some (.int (1 : Int32)) ∧ Fr n0 L ∧ Keep h0 h [a2] ∧ Arv Z h a2 kz6 .byte (2 : Int32) [(.int ((p4.toInt8.toInt32).toInt8.toInt32)), (.int (0 : Int32))] (.int (0 : Int32))) := by
  refine own_hN n0 rfl pn_2 ?_
  intro p e s m below meth c s₁ hx b hml hret hZ hown hnm X0 e0 N0
  refine own_ct (mkF m 0 #[.val (.ref a1), .val (.int (0 : Int32)), .val (.ref a2), .val (.int (0 : Int32)), .val (.int (2 : Int32)), .unset, .unset] []) rfl ?_
  refine g_iconst X0 hx (0) (b d9_0) rfl ?_
  refine g_istore X0 hx (b d9_1) (l' := #[.val (.ref a1), .val (.int (0 : Int32)), .val (.ref a2), .val (.int (0 : Int32)), .val (.int (2 : Int32)), .val (.int (0 : Int32)), .unset]) rfl ?_
  refine g_iload X0 hx (b d9_3) rfl ?_
  refine g_iload X0 hx (b d9_5) rfl ?_
  refine g_icmpNo X0 hx (b d9_7) (XT.ii_ge_f (by decide : (0 : Int32) < (2 : Int32))) ?_
  refine g_aloadN X0 hx (b d9_10) rfl rfl ?_
  refine g_iloadN X0 hx (b d9_11) rfl ?_
  obtain ⟨cl1, Ar1, q1, S1, M1, H1, G1⟩ := id P1
  have hin1 : ¬ ((0 : Int32) < 0 ∨ cl1.slots.size ≤ ((0 : Int32)).toNatClampNeg) := inb_of S1 ⟨by decide, by decide⟩
  have hat1 : cl1.slots[((0 : Int32)).toNatClampNeg]? = some (.int p4) := H1.at hin1 rfl
  refine Go.st (fun t k => X0.caload hx (j := (0 : Int32)) (v := (.int p4)) (by rw [e0]; exact Ar1.1) (State.isArrayOf_alike hZ.alike Ar1.2.1) Ar1.2.2 hin1 hat1 (g := (mkF m 12 #[.val (.ref a1), .val (.int (0 : Int32)), .val (.ref a2), .val (.int (0 : Int32)), .val (.int (2 : Int32)), .val (.int (0 : Int32)), .unset] [(.int (0 : Int32)), (.ref a1)])) rfl rfl (b d9_12) t k) ?_
  refine g_istore X0 hx (b d9_13) (l' := #[.val (.ref a1), .val (.int (0 : Int32)), .val (.ref a2), .val (.int (0 : Int32)), .val (.int (2 : Int32)), .val (.int (0 : Int32)), .val (.int p4)]) rfl ?_
  refine g_iload X0 hx (b d9_15) rfl ?_
  refine g_sipush X0 hx (255) (b d9_17) rfl ?_
  refine g_icmpYes X0 hx (pc := 20) 26 (b d9_20) (XT.ii_le_t P2) (by decide) ?_
  refine g_aloadN X0 hx (b d9_26) rfl rfl ?_
  refine g_iloadN X0 hx (b d9_27) rfl ?_
  refine g_iload X0 hx (b d9_28) rfl ?_
  refine g_i2bZ X0 hx (p4.toInt8.toInt32) (b d9_30) rfl ?_
  obtain ⟨cl2, Ar2, q2, S2, M2, H2, G2⟩ := id P3
  have hin2 : ¬ ((0 : Int32) < 0 ∨ cl2.slots.size ≤ ((0 : Int32)).toNatClampNeg) := inb_of S2 ⟨by decide, by decide⟩
  obtain ⟨T2, h2, X2, e2, W2, st2⟩ := stB X0 hx hZ e0 Ar2 (j := (0 : Int32)) hin2 (g := (mkF m 31 #[.val (.ref a1), .val (.int (0 : Int32)), .val (.ref a2), .val (.int (0 : Int32)), .val (.int (2 : Int32)), .val (.int (0 : Int32)), .val (.int p4)] [(.int (p4.toInt8.toInt32)), (.int (0 : Int32)), (.ref a2)])) rfl rfl (b d9_31)
  have V2 : Arv Z h2 a2 kz6 .byte (2 : Int32) [(.int ((p4.toInt8.toInt32).toInt8.toInt32)), (.int (0 : Int32))] (.int (0 : Int32)) := Arv.set Ar2 q2 S2 M2 H2 G2 (fits_nar_byte _) W2 0 rfl (Nat.le_of_ble_eq_true rfl)
  have N2 := Fr.snoc X2 N0 P4
  have O2 : Old Z n0 h2 := O0.wr W2 P4
  have K2 : Keep h0 h2 [a2] := (Keep.refl h0 [a2]).wr W2 (Or.inl (List.mem_of_getElem? (i := 0) rfl))
  refine Go.st st2 ?_
  refine g_iinc X2 hx (b d9_32) rfl (l' := #[.val (.ref a1), .val (.int (1 : Int32)), .val (.ref a2), .val (.int (0 : Int32)), .val (.int (2 : Int32)), .val (.int (0 : Int32)), .val (.int p4)]) rfl ?_
  refine g_iinc X2 hx (b d9_35) rfl (l' := #[.val (.ref a1), .val (.int (1 : Int32)), .val (.ref a2), .val (.int (1 : Int32)), .val (.int (2 : Int32)), .val (.int (0 : Int32)), .val (.int p4)]) rfl ?_
  refine g_iinc X2 hx (b d9_38) rfl (l' := #[.val (.ref a1), .val (.int (1 : Int32)), .val (.ref a2), .val (.int (1 : Int32)), .val (.int (2 : Int32)), .val (.int (1 : Int32)), .val (.int p4)]) rfl ?_
  refine g_goto X2 hx (pc := 41) 3 (b d9_41) (by decide) ?_
  refine g_iload X2 hx (b d9_3) rfl ?_
  refine g_iload X2 hx (b d9_5) rfl ?_
  refine g_icmpNo X2 hx (b d9_7) (XT.ii_ge_f (by decide : (1 : Int32) < (2 : Int32))) ?_
  refine g_aloadN X2 hx (b d9_10) rfl rfl ?_
  refine g_iloadN X2 hx (b d9_11) rfl ?_
  obtain ⟨cl3, Ar3, q3, S3, M3, H3, G3⟩ := id (P1.other W2 P5)
  have hin3 : ¬ ((1 : Int32) < 0 ∨ cl3.slots.size ≤ ((1 : Int32)).toNatClampNeg) := inb_of S3 ⟨by decide, by decide⟩
  have hat3 : cl3.slots[((1 : Int32)).toNatClampNeg]? = some (.int p5) := H3.at hin3 rfl
  refine Go.st (fun t k => X2.caload hx (j := (1 : Int32)) (v := (.int p5)) (by rw [e2]; exact Ar3.1) (State.isArrayOf_alike hZ.alike Ar3.2.1) Ar3.2.2 hin3 hat3 (g := (mkF m 12 #[.val (.ref a1), .val (.int (1 : Int32)), .val (.ref a2), .val (.int (1 : Int32)), .val (.int (2 : Int32)), .val (.int (1 : Int32)), .val (.int p4)] [(.int (1 : Int32)), (.ref a1)])) rfl rfl (b d9_12) t k) ?_
  refine g_istore X2 hx (b d9_13) (l' := #[.val (.ref a1), .val (.int (1 : Int32)), .val (.ref a2), .val (.int (1 : Int32)), .val (.int (2 : Int32)), .val (.int (1 : Int32)), .val (.int p5)]) rfl ?_
  refine g_iload X2 hx (b d9_15) rfl ?_
  refine g_sipush X2 hx (255) (b d9_17) rfl ?_
  refine g_icmpNo X2 hx (b d9_20) (XT.ii_le_f P6) ?_
  refine g_iload X2 hx (b d9_23) rfl ?_
  exact own_eI X2 hx hret (b d9_25) e2 (by decide) ⟨rfl, N2, K2, V2⟩
theorem rmU2 (hw : HW Z a0) (ov : Addr) (kv : ClassId) (Xv0 Xv1 : Int32) (O0 : Old Z n0 h0) (MF1 : Arv Z h0 ov kv .char (2 : Int32) [(.int Xv0), (.int Xv1)] (.int (0 : Int32))) (Mp1 : ¬ (Xv0 < (0 : Int32))) (Mp2 : ¬ ((65535 : Int32) < Xv0)) (Mp3 : ¬ (Xv1 < (0 : Int32))) (Mp4 : ¬ ((65535 : Int32) < Xv1)) (Mp5 : (255 : Int32) < (own_mx Xv0 Xv1)) (P7 : Sta Z Z.heap "java/lang/StringUTF16" "$assertionsDisabled" "Z" (.int (1 : Int32))) (P8 : Sta Z Z.heap "java/lang/StringUTF16" "HI_BYTE_SHIFT" "I" (.int (0 : Int32))) (P9 : Sta Z Z.heap "java/lang/StringUTF16" "LO_BYTE_SHIFT" "I" (.int (8 : Int32))) :
    MM l mn13 jdk_52_method_16_code 6 (some (.array .byte)) (R4 3 2 6 40) #[(.ref ov), (.int (0 : Int32)), (.int (2 : Int32))] Z h0 (fun v h L => ∃ (bo : Addr) (ko : ClassId), v = some (.ref bo) ∧ Fr n0 L ∧ Keep h0 h [] ∧ h0.size ≤ bo ∧ Arv Z h bo ko .byte (4 : Int32) [(.int (own_b0 Xv0)), (.int (own_b8 Xv0)), (.int (own_b0 Xv1)), (.int (own_b8 Xv1))] (.int (0 : Int32))) := by
  refine own_hN n0 rfl pn_2 ?_
  intro p e s m below meth c s₁ hx b hml hret hZ hown hnm X0 e0 N0
  refine own_ct (mkF m 0 #[.val (.ref ov), .val (.int (0 : Int32)), .val (.int (2 : Int32)), .unset, .unset, .unset] []) rfl ?_
  refine g_iloadN X0 hx (b d8_0) rfl ?_
  obtain ⟨T1, h1, k1, X1, e1, E1, A1, st1⟩ := newP X0 hx hZ (aty := .byte) (w26 hw) e0 (g := (mkF m 1 #[.val (.ref ov), .val (.int (0 : Int32)), .val (.int (2 : Int32)), .unset, .unset, .unset] [(.int (2 : Int32))])) rfl (b d8_1) rfl (by decide) (cap := 2) (by decide) (by decide) (by decide) (by decide)
  obtain ⟨b1, z1⟩ : ∃ z, z = h0.size := ⟨_, rfl⟩
  rw [← z1] at A1 st1
  have g_b1 : n0 ≤ b1 := Nat.le_trans (own_n0 O0) (Nat.le_of_eq z1.symm)
  have s_b1 : h0.size ≤ b1 := Nat.le_trans (Keep.refl h0 []).1 (Nat.le_of_eq z1.symm)
  have V1 : Arv Z h1 b1 k1 .byte (2 : Int32) [(.int (0 : Int32)), (.int (0 : Int32))] (.int (0 : Int32)) := (Arv.new A1 (by decide)).pad (pad_rep [] (.int (0 : Int32)) 2)
  have O1 : Old Z n0 h1 := O0.ext E1
  have K1 : Keep h0 h1 [] := (Keep.refl h0 []).ext E1
  refine Go.st st1 ?_
  refine g_astoreN X1 hx (b d8_3) rfl (l' := #[.val (.ref ov), .val (.int (0 : Int32)), .val (.int (2 : Int32)), .val (.ref b1), .unset, .unset]) rfl ?_
  refine g_aloadN X1 hx (b d8_4) rfl rfl ?_
  refine g_iloadN X1 hx (b d8_5) rfl ?_
  refine g_aloadN X1 hx (b d8_6) rfl rfl ?_
  refine g_iconst X1 hx (0) (b d8_7) rfl ?_
  refine g_iloadN X1 hx (b d8_8) rfl ?_
  by_cases hc2 : (255 : Int32) < Xv0
  · refine own_cS X1 hx hZ hown (w47 hw) (w48 hw) (w45 hw) (w49 hw) (rm9_2 hw ov b1 kv Xv0 Xv1 O1 (MF1.ext E1) hc2) e1 0 (by decide) (by decide) (by rw [hml]; rfl) [(.ref ov), (.int (0 : Int32)), (.ref b1), (.int (0 : Int32)), (.int (2 : Int32))] [] (lenOf pd_2 rfl) rfl rfl (Nat.le_of_eq rfl) (b d8_9) ?_
    rintro T3 _ L3 X3 ⟨rfl, M3, eh3⟩
    have N3 := Fr.app N0 M3
    refine g_istore X3 hx (b d8_12) (l' := #[.val (.ref ov), .val (.int (0 : Int32)), .val (.int (2 : Int32)), .val (.ref b1), .val (.int (0 : Int32)), .unset]) rfl ?_
    refine g_iload X3 hx (b d8_14) rfl ?_
    refine g_iloadN X3 hx (b d8_16) rfl ?_
    refine g_icmpNo X3 hx (b d8_17) (XT.ii_eq_f (by decide : ¬ ((0 : Int32) = (2 : Int32)))) ?_
    refine g_aloadN X3 hx (b d8_20) rfl rfl ?_
    refine g_iloadN X3 hx (b d8_21) rfl ?_
    refine g_iloadN X3 hx (b d8_22) rfl ?_
    refine own_cS X3 hx hZ hown (w50 hw) (w51 hw) (w45 hw) (w52 hw) (rm10_2 hw ov kv Xv0 Xv1 O1 (MF1.ext E1) P7 P8 P9) eh3 0 (by decide) (by decide) (by rw [hml]; rfl) [(.ref ov), (.int (0 : Int32)), (.int (2 : Int32))] [] (lenOf pd_6 rfl) rfl rfl (Nat.le_of_eq rfl) (b d8_23) ?_
    rintro T4 _ L4 X4 ⟨b2_1_4, k2_1_4, rfl, M4, K4c, r4_0, r4_1⟩
    have N4 := Fr.app N3 M4
    have g_b2_1_4 : n0 ≤ b2_1_4 := Nat.le_trans (own_n0 O1) r4_0
    have s_b2_1_4 : h0.size ≤ b2_1_4 := Nat.le_trans K1.1 r4_0
    have O4 : Old Z n0 T4.heap := O1.keep K4c all0
    have K4 : Keep h0 T4.heap [] := K1.trans K4c all0
    refine g_astore X4 hx (b d8_26) rfl (l' := #[.val (.ref ov), .val (.int (0 : Int32)), .val (.int (2 : Int32)), .val (.ref b1), .val (.int (0 : Int32)), .val (.ref b2_1_4)]) rfl ?_
    refine g_aload X4 hx (b d8_28) rfl rfl ?_
    refine g_iload X4 hx (b d8_30) rfl ?_
    refine own_cS X4 hx hZ hown (w66 hw) (w67 hw) (w45 hw) (w68 hw) (rm14_1 hw b2_1_4 k2_1_4 Xv0 Xv1 O4 P7 r4_1 P8 P9) rfl 0 (by decide) (by decide) (by rw [hml]; rfl) [(.ref b2_1_4), (.int (0 : Int32))] [] (lenOf pd_1 rfl) rfl rfl (Nat.le_of_eq rfl) (b d8_32) ?_
    rintro T5 _ L5 X5 ⟨rfl, M5, eh5⟩
    have N5 := Fr.app N4 M5
    refine g_sipush X5 hx (255) (b d8_35) rfl ?_
    have he6 := own_N0 Xv0 Mp1 Mp2
    have hn7 : (255 : Int32) < (own_c (own_c ((((own_b0 Xv0) &&& (255 : Int32)) <<< ((0 : Int32) &&& 31)) ||| (((own_b8 Xv0) &&& (255 : Int32)) <<< ((8 : Int32) &&& 31))))) := by
      rw [he6]
      exact hc2
    refine g_icmpYes X5 hx (pc := 38) 54 (b d8_38) (XT.ii_gt_t hn7) (by decide) ?_
    refine g_aload X5 hx (b d8_54) rfl rfl ?_
    exact own_eA X5 hx hret rfl rfl (b d8_56) eh5 (by decide) ⟨b2_1_4, k2_1_4, rfl, N5, K4, s_b2_1_4, r4_1⟩
  · have hp8 : (255 : Int32) < Xv1 := by
      have j1 := own_k32 (255 : Int32) (255) (by decide)
      have j2 := own_c32 (Xv1)
      have j3 := own_k32 (0 : Int32) (0) (by decide)
      have j4 := own_nlt32 Mp3
      have j5 := own_k32 (65535 : Int32) (65535) (by decide)
      have j6 := own_nlt32 Mp4
      have j7 : (0 : Int) ≤ (Xv1).toInt ∧ (Xv1).toInt ≤ 65535 := by constructor <;> omega
      have j8 := own_nlt32 Mp3
      have j9 := own_nlt32 Mp4
      have j10 := own_c32 (Xv0)
      have j11 := own_nlt32 Mp1
      have j12 := own_nlt32 Mp2
      have j13 := own_nlt32 hc2
      have j14 : (0 : Int) ≤ (Xv0).toInt ∧ (Xv0).toInt ≤ 255 := by constructor <;> omega
      have j15 := own_mxB Xv0 Xv1
      have j16 : (0 : Int) ≤ ((own_mx Xv0 Xv1)).toInt ∧ ((own_mx Xv0 Xv1)).toInt ≤ 65535 := by constructor <;> omega
      have j17 := Int32.lt_iff_toInt_lt.mp Mp5
      have j18 : (256 : Int) ≤ ((own_mx Xv0 Xv1)).toInt ∧ ((own_mx Xv0 Xv1)).toInt ≤ 65535 := by constructor <;> omega
      have j19 := Int32.lt_iff_toInt_lt.mp Mp5
      have j20 := own_nlt32 hc2
      have j21 := own_nlt32 Mp1
      have j22 := own_nlt32 Mp2
      rw [Int32.lt_iff_toInt_lt]
      omega
    refine own_cS X1 hx hZ hown (w47 hw) (w48 hw) (w45 hw) (w49 hw) (rm9_3 hw ov b1 kv Xv0 Xv1 k1 O1 (MF1.ext E1) hc2 V1 g_b1 (Nat.ne_of_lt (Nat.lt_of_lt_of_le MF1.lt (Nat.le_of_eq z1.symm))) hp8) e1 0 (by decide) (by decide) (by rw [hml]; rfl) [(.ref ov), (.int (0 : Int32)), (.ref b1), (.int (0 : Int32)), (.int (2 : Int32))] [] (lenOf pd_2 rfl) rfl rfl (Nat.le_of_eq rfl) (b d8_9) ?_
    rintro T9 _ L9 X9 ⟨rfl, M9, K9c, r9_0⟩
    have N9 := Fr.app N0 M9
    have O9 : Old Z n0 T9.heap := O1.keep K9c (allS g_b1 all0)
    have K9 : Keep h0 T9.heap [] := K1.trans K9c (allS (Or.inr s_b1) all0)
    refine g_istore X9 hx (b d8_12) (l' := #[.val (.ref ov), .val (.int (0 : Int32)), .val (.int (2 : Int32)), .val (.ref b1), .val (.int (1 : Int32)), .unset]) rfl ?_
    refine g_iload X9 hx (b d8_14) rfl ?_
    refine g_iloadN X9 hx (b d8_16) rfl ?_
    refine g_icmpNo X9 hx (b d8_17) (XT.ii_eq_f (by decide : ¬ ((1 : Int32) = (2 : Int32)))) ?_
    refine g_aloadN X9 hx (b d8_20) rfl rfl ?_
    refine g_iloadN X9 hx (b d8_21) rfl ?_
    refine g_iloadN X9 hx (b d8_22) rfl ?_
    have c10 := ((MF1.ext E1).keep K9c (ninS (Nat.ne_of_lt (Nat.lt_of_lt_of_le MF1.lt (Nat.le_of_eq z1.symm))) nin0))
    refine own_cS X9 hx hZ hown (w50 hw) (w51 hw) (w45 hw) (w52 hw) (rm10_2 hw ov kv Xv0 Xv1 O9 c10 P7 P8 P9) rfl 0 (by decide) (by decide) (by rw [hml]; rfl) [(.ref ov), (.int (0 : Int32)), (.int (2 : Int32))] [] (lenOf pd_6 rfl) rfl rfl (Nat.le_of_eq rfl) (b d8_23) ?_
    rintro T11 _ L11 X11 ⟨b2_1_11, k2_1_11, rfl, M11, K11c, r11_0, r11_1⟩
    have N11 := Fr.app N9 M11
    have g_b2_1_11 : n0 ≤ b2_1_11 := Nat.le_trans (own_n0 O9) r11_0
    have s_b2_1_11 : h0.size ≤ b2_1_11 := Nat.le_trans K9.1 r11_0
    have O11 : Old Z n0 T11.heap := O9.keep K11c all0
    have K11 : Keep h0 T11.heap [] := K9.trans K11c all0
    refine g_astore X11 hx (b d8_26) rfl (l' := #[.val (.ref ov), .val (.int (0 : Int32)), .val (.int (2 : Int32)), .val (.ref b1), .val (.int (1 : Int32)), .val (.ref b2_1_11)]) rfl ?_
    refine g_aload X11 hx (b d8_28) rfl rfl ?_
    refine g_iload X11 hx (b d8_30) rfl ?_
    refine own_cS X11 hx hZ hown (w66 hw) (w67 hw) (w45 hw) (w68 hw) (rm14_2 hw b2_1_11 k2_1_11 Xv0 Xv1 O11 P7 r11_1 P8 P9) rfl 0 (by decide) (by decide) (by rw [hml]; rfl) [(.ref b2_1_11), (.int (1 : Int32))] [] (lenOf pd_1 rfl) rfl rfl (Nat.le_of_eq rfl) (b d8_32) ?_
    rintro T12 _ L12 X12 ⟨rfl, M12, eh12⟩
    have N12 := Fr.app N11 M12
    refine g_sipush X12 hx (255) (b d8_35) rfl ?_
    have he13 := own_N0 Xv1 Mp3 Mp4
    have hn14 : (255 : Int32) < (own_c (own_c ((((own_b0 Xv1) &&& (255 : Int32)) <<< ((0 : Int32) &&& 31)) ||| (((own_b8 Xv1) &&& (255 : Int32)) <<< ((8 : Int32) &&& 31))))) := by
      rw [he13]
      exact hp8
    refine g_icmpYes X12 hx (pc := 38) 54 (b d8_38) (XT.ii_gt_t hn14) (by decide) ?_
    refine g_aload X12 hx (b d8_54) rfl rfl ?_
    exact own_eA X12 hx hret rfl rfl (b d8_56) eh12 (by decide) ⟨b2_1_11, k2_1_11, rfl, N12, K11, s_b2_1_11, r11_1⟩
theorem rm9_4 (hw : HW Z a0) (a1 a2 : Addr) (kz3 : ClassId) (p4 p5 p6 : Int32) (O0 : Old Z n0 h0) (P1 : Arv Z h0 a1 kz3 .char (3 : Int32) [(.int p4), (.int p5), (.int p6)] (.int (0 : Int32))) (P2 : (255 : Int32) < p4) :
    MM l mn8 jdk_52_method_21_code 7 (some .int) (R4 0 0 0 0) #[(.ref a1), (.int (0 : Int32)), (.ref a2), (.int (0 : Int32)), (.int (3 : Int32))] Z h0 (fun v h L => v = some (.int (0 : Int32)) ∧ Fr n0 L ∧ h = h0) := by
  refine own_hN n0 rfl pn_2 ?_
  intro p e s m below meth c s₁ hx b hml hret hZ hown hnm X0 e0 N0
  refine own_ct (mkF m 0 #[.val (.ref a1), .val (.int (0 : Int32)), .val (.ref a2), .val (.int (0 : Int32)), .val (.int (3 : Int32)), .unset, .unset] []) rfl ?_
  refine g_iconst X0 hx (0) (b d9_0) rfl ?_
  refine g_istore X0 hx (b d9_1) (l' := #[.val (.ref a1), .val (.int (0 : Int32)), .val (.ref a2), .val (.int (0 : Int32)), .val (.int (3 : Int32)), .val (.int (0 : Int32)), .unset]) rfl ?_
  refine g_iload X0 hx (b d9_3) rfl ?_
  refine g_iload X0 hx (b d9_5) rfl ?_
  refine g_icmpNo X0 hx (b d9_7) (XT.ii_ge_f (by decide : (0 : Int32) < (3 : Int32))) ?_
  refine g_aloadN X0 hx (b d9_10) rfl rfl ?_
  refine g_iloadN X0 hx (b d9_11) rfl ?_
  obtain ⟨cl1, Ar1, q1, S1, M1, H1, G1⟩ := id P1
  have hin1 : ¬ ((0 : Int32) < 0 ∨ cl1.slots.size ≤ ((0 : Int32)).toNatClampNeg) := inb_of S1 ⟨by decide, by decide⟩
  have hat1 : cl1.slots[((0 : Int32)).toNatClampNeg]? = some (.int p4) := H1.at hin1 rfl
  refine Go.st (fun t k => X0.caload hx (j := (0 : Int32)) (v := (.int p4)) (by rw [e0]; exact Ar1.1) (State.isArrayOf_alike hZ.alike Ar1.2.1) Ar1.2.2 hin1 hat1 (g := (mkF m 12 #[.val (.ref a1), .val (.int (0 : Int32)), .val (.ref a2), .val (.int (0 : Int32)), .val (.int (3 : Int32)), .val (.int (0 : Int32)), .unset] [(.int (0 : Int32)), (.ref a1)])) rfl rfl (b d9_12) t k) ?_
  refine g_istore X0 hx (b d9_13) (l' := #[.val (.ref a1), .val (.int (0 : Int32)), .val (.ref a2), .val (.int (0 : Int32)), .val (.int (3 : Int32)), .val (.int (0 : Int32)), .val (.int p4)]) rfl ?_
  refine g_iload X0 hx (b d9_15) rfl ?_
  refine g_sipush X0 hx (255) (b d9_17) rfl ?_
  refine g_icmpNo X0 hx (b d9_20) (XT.ii_le_f P2) ?_
  refine g_iload X0 hx (b d9_23) rfl ?_
  exact own_eI X0 hx hret (b d9_25) e0 (by decide) ⟨rfl, N0, rfl⟩
theorem rm12_3 (hw : HW Z a0)  (O0 : Old Z n0 h0) :
    MM l mn9 jdk_52_method_3_code 1 (some .int) (R4 0 0 0 0) #[(.int (3 : Int32))] Z h0 (fun v h L => v = some (.int (6 : Int32)) ∧ Fr n0 L ∧ h = h0) := by
  refine own_hN n0 rfl pn_2 ?_
  intro p e s m below meth c s₁ hx b hml hret hZ hown hnm X0 e0 N0
  refine own_ct (mkF m 0 #[.val (.int (3 : Int32))] []) rfl ?_
  refine g_iloadN X0 hx (b d12_0) rfl ?_
  refine g_ifYes X0 hx (pc := 1) 12 (b d12_1) (XT.i0_ge_t (by decide : ¬ ((3 : Int32) < (0 : Int32)))) (by decide) ?_
  refine g_iloadN X0 hx (b d12_12) rfl ?_
  refine Go.st (fun t k => X0.ldcI hx hown (mvT hZ (w59 hw)) (g := (mkF m 13 #[.val (.int (3 : Int32))] [(.int (3 : Int32))])) rfl (b d12_13) k) ?_
  refine g_icmpYes X0 hx (pc := 15) 55 (b d12_15) (XT.ii_lt_t (by decide : (3 : Int32) < (1073741823 : Int32))) (by decide) ?_
  refine g_iloadN X0 hx (b d12_55) rfl ?_
  refine g_iconst X0 hx (1) (b d12_56) rfl ?_
  refine g_ishlZ X0 hx (6 : Int32) (b d12_57) rfl ?_
  exact own_eI X0 hx hret (b d12_58) e0 (by decide) ⟨rfl, N0, rfl⟩
theorem rm11_3 (hw : HW Z a0)  (O0 : Old Z n0 h0) :
    MM l mn10 jdk_52_method_2_code 1 (some (.array .byte)) (R4 1 1 6 12) #[(.int (3 : Int32))] Z h0 (fun v h L => ∃ (b2 : Addr) (k2 : ClassId), v = some (.ref b2) ∧ Fr n0 L ∧ Keep h0 h [] ∧ h0.size ≤ b2 ∧ Arv Z h b2 k2 .byte (6 : Int32) [(.int (0 : Int32)), (.int (0 : Int32)), (.int (0 : Int32)), (.int (0 : Int32)), (.int (0 : Int32)), (.int (0 : Int32))] (.int (0 : Int32))) := by
  refine own_hN n0 rfl pn_2 ?_
  intro p e s m below meth c s₁ hx b hml hret hZ hown hnm X0 e0 N0
  refine own_ct (mkF m 0 #[.val (.int (3 : Int32))] []) rfl ?_
  refine g_iloadN X0 hx (b d11_0) rfl ?_
  refine own_cS X0 hx hZ hown (w56 hw) (w57 hw) (w45 hw) (w58 hw) (rm12_3 hw O0) e0 0 (by decide) (by decide) (by rw [hml]; rfl) [(.int (3 : Int32))] [] (lenOf pd_3 rfl) rfl rfl (Nat.le_of_eq rfl) (b d11_1) ?_
  rintro T1 _ L1 X1 ⟨rfl, M1, eh1⟩
  have N1 := Fr.app N0 M1
  obtain ⟨T2, h2, k2, X2, e2, E2, A2, st2⟩ := newP X1 hx hZ (aty := .byte) (w26 hw) eh1 (g := (mkF m 4 #[.val (.int (3 : Int32))] [(.int (6 : Int32))])) rfl (b d11_4) rfl (by decide) (cap := 6) (by decide) (by decide) (by decide) (by decide)
  obtain ⟨b2, z2⟩ : ∃ z, z = h0.size := ⟨_, rfl⟩
  rw [← z2] at A2 st2
  have g_b2 : n0 ≤ b2 := Nat.le_trans (own_n0 O0) (Nat.le_of_eq z2.symm)
  have s_b2 : h0.size ≤ b2 := Nat.le_trans (Keep.refl h0 []).1 (Nat.le_of_eq z2.symm)
  have V2 : Arv Z h2 b2 k2 .byte (6 : Int32) [(.int (0 : Int32)), (.int (0 : Int32)), (.int (0 : Int32)), (.int (0 : Int32)), (.int (0 : Int32)), (.int (0 : Int32))] (.int (0 : Int32)) := (Arv.new A2 (by decide)).pad (pad_rep [] (.int (0 : Int32)) 6)
  have O2 : Old Z n0 h2 := O0.ext E2
  have K2 : Keep h0 h2 [] := (Keep.refl h0 []).ext E2
  refine Go.st st2 ?_
  exact own_eA X2 hx hret rfl rfl (b d11_6) e2 (by decide) ⟨b2, k2, rfl, N1, K2, s_b2, V2⟩
theorem rm13_4 (hw : HW Z a0) (a1 : Addr) (p2 : Int32) (kz3 : ClassId) (O0 : Old Z n0 h0) (P1 : Sta Z Z.heap "java/lang/StringUTF16" "$assertionsDisabled" "Z" (.int (1 : Int32))) (P2 : Sta Z Z.heap "java/lang/StringUTF16" "HI_BYTE_SHIFT" "I" (.int (0 : Int32))) (P3 : Arv Z h0 a1 kz3 .byte (6 : Int32) [(.int (0 : Int32)), (.int (0 : Int32)), (.int (0 : Int32)), (.int (0 : Int32)), (.int (0 : Int32)), (.int (0 : Int32))] (.int (0 : Int32))) (P4 : n0 ≤ a1) (P5 : Sta Z Z.heap "java/lang/StringUTF16" "LO_BYTE_SHIFT" "I" (.int (8 : Int32))) :
    MM l mn11 jdk_52_method_4_code 3 none (R4 0 0 0 0) #[(.ref a1), (.int (0 : Int32)), (.int p2)] Z h0 (fun v h L => v = none ∧ Fr n0 L ∧ Keep h0 h [a1] ∧ Arv Z h a1 kz3 .byte (6 : Int32) [(.int (own_b0 p2)), (.int (own_b8 p2)), (.int (0 : Int32)), (.int (0 : Int32)), (.int (0 : Int32)), (.int (0 : Int32))] (.int (0 : Int32))) := by
  refine own_hN n0 rfl pn_2 ?_
  intro p e s m below meth c s₁ hx b hml hret hZ hown hnm X0 e0 N0
  refine own_ct (mkF m 0 #[.val (.ref a1), .val (.int (0 : Int32)), .val (.int p2)] []) rfl ?_
  obtain ⟨T1, X1, e1, st1⟩ := getS2 X0 hx hZ hown (host := "") (Or.inl (w63 hw)) Via.refl e0 (P1.ext O0.2) (g := (mkF m 0 #[.val (.ref a1), .val (.int (0 : Int32)), .val (.int p2)] [])) rfl (b d13_0)
  refine Go.st st1 ?_
  refine g_ifYes X1 hx (pc := 3) 28 (b d13_3) (XT.i0_ne_t (by decide : ¬ ((1 : Int32) = (0 : Int32)))) (by decide) ?_
  refine g_iloadN X1 hx (b d13_28) rfl ?_
  refine g_iconst X1 hx (1) (b d13_29) rfl ?_
  refine g_ishlZ X1 hx (0 : Int32) (b d13_30) rfl ?_
  refine g_istoreN X1 hx (b d13_31) (l' := #[.val (.ref a1), .val (.int (0 : Int32)), .val (.int p2)]) rfl ?_
  refine g_aloadN X1 hx (b d13_32) rfl rfl ?_
  refine g_iloadN X1 hx (b d13_33) rfl ?_
  refine g_iinc X1 hx (b d13_34) rfl (l' := #[.val (.ref a1), .val (.int (1 : Int32)), .val (.int p2)]) rfl ?_
  refine g_iloadN X1 hx (b d13_37) rfl ?_
  obtain ⟨T2, X2, e2, st2⟩ := getS2 X1 hx hZ hown (host := "") (Or.inl (w64 hw)) Via.refl e1 (P2.ext O0.2) (g := (mkF m 38 #[.val (.ref a1), .val (.int (1 : Int32)), .val (.int p2)] [(.int p2), (.int (0 : Int32)), (.ref a1)])) rfl (b d13_38)
  refine Go.st st2 ?_
  refine g_ishr X2 hx (b d13_41) ?_
  refine g_i2bZ X2 hx ((p2 >>> ((0 : Int32) &&& 31)).toInt8.toInt32) (b d13_42) rfl ?_
  obtain ⟨cl3, Ar3, q3, S3, M3, H3, G3⟩ := id P3
  have hin3 : ¬ ((0 : Int32) < 0 ∨ cl3.slots.size ≤ ((0 : Int32)).toNatClampNeg) := inb_of S3 ⟨by decide, by decide⟩
  obtain ⟨T3, h3, X3, e3, W3, st3⟩ := stB X2 hx hZ e2 Ar3 (j := (0 : Int32)) hin3 (g := (mkF m 43 #[.val (.ref a1), .val (.int (1 : Int32)), .val (.int p2)] [(.int ((p2 >>> ((0 : Int32) &&& 31)).toInt8.toInt32)), (.int (0 : Int32)), (.ref a1)])) rfl rfl (b d13_43)
  have V3 : Arv Z h3 a1 kz3 .byte (6 : Int32) [(.int (own_b0 p2)), (.int (0 : Int32)), (.int (0 : Int32)), (.int (0 : Int32)), (.int (0 : Int32)), (.int (0 : Int32))] (.int (0 : Int32)) := Arv.set Ar3 q3 S3 M3 H3 G3 (fits_nar_byte _) W3 0 rfl (Nat.le_of_ble_eq_true rfl)
  have N3 := Fr.snoc X3 N0 P4
  have O3 : Old Z n0 h3 := O0.wr W3 P4
  have K3 : Keep h0 h3 [a1] := (Keep.refl h0 [a1]).wr W3 (Or.inl (List.mem_of_getElem? (i := 0) rfl))
  refine Go.st st3 ?_
  refine g_aloadN X3 hx (b d13_44) rfl rfl ?_
  refine g_iloadN X3 hx (b d13_45) rfl ?_
  refine g_iloadN X3 hx (b d13_46) rfl ?_
  obtain ⟨T4, X4, e4, st4⟩ := getS2 X3 hx hZ hown (host := "") (Or.inl (w65 hw)) Via.refl e3 (P5.ext O3.2) (g := (mkF m 47 #[.val (.ref a1), .val (.int (1 : Int32)), .val (.int p2)] [(.int p2), (.int (1 : Int32)), (.ref a1)])) rfl (b d13_47)
  refine Go.st st4 ?_
  refine g_ishr X4 hx (b d13_50) ?_
  refine g_i2bZ X4 hx ((p2 >>> ((8 : Int32) &&& 31)).toInt8.toInt32) (b d13_51) rfl ?_
  obtain ⟨cl5, Ar5, q5, S5, M5, H5, G5⟩ := id V3
  have hin5 : ¬ ((1 : Int32) < 0 ∨ cl5.slots.size ≤ ((1 : Int32)).toNatClampNeg) := inb_of S5 ⟨by decide, by decide⟩
  obtain ⟨T5, h5, X5, e5, W5, st5⟩ := stB X4 hx hZ e4 Ar5 (j := (1 : Int32)) hin5 (g := (mkF m 52 #[.val (.ref a1), .val (.int (1 : Int32)), .val (.int p2)] [(.int ((p2 >>> ((8 : Int32) &&& 31)).toInt8.toInt32)), (.int (1 : Int32)), (.ref a1)])) rfl rfl (b d13_52)
  have V5 : Arv Z h5 a1 kz3 .byte (6 : Int32) [(.int (own_b0 p2)), (.int (own_b8 p2)), (.int (0 : Int32)), (.int (0 : Int32)), (.int (0 : Int32)), (.int (0 : Int32))] (.int (0 : Int32)) := Arv.set Ar5 q5 S5 M5 H5 G5 (fits_nar_byte _) W5 1 rfl (Nat.le_of_ble_eq_true rfl)
  have N5 := Fr.snoc X5 N3 P4
  have O5 : Old Z n0 h5 := O3.wr W5 P4
  have K5 : Keep h0 h5 [a1] := K3.wr W5 (Or.inl (List.mem_of_getElem? (i := 0) rfl))
  refine Go.st st5 ?_
  exact own_eV X5 hx hret (b d13_53) e5 (by decide) ⟨rfl, N5, K5, V5⟩
theorem rm13_5 (hw : HW Z a0) (a1 : Addr) (p2 : Int32) (kz3 : ClassId) (p4 : Int32) (O0 : Old Z n0 h0) (P1 : Sta Z Z.heap "java/lang/StringUTF16" "$assertionsDisabled" "Z" (.int (1 : Int32))) (P2 : Sta Z Z.heap "java/lang/StringUTF16" "HI_BYTE_SHIFT" "I" (.int (0 : Int32))) (P3 : Arv Z h0 a1 kz3 .byte (6 : Int32) [(.int (own_b0 p4)), (.int (own_b8 p4)), (.int (0 : Int32)), (.int (0 : Int32)), (.int (0 : Int32)), (.int (0 : Int32))] (.int (0 : Int32))) (P4 : n0 ≤ a1) (P5 : Sta Z Z.heap "java/lang/StringUTF16" "LO_BYTE_SHIFT" "I" (.int (8 : Int32))) :
    MM l mn11 jdk_52_method_4_code 3 none (R4 0 0 0 0) #[(.ref a1), (.int (1 : Int32)), (.int p2)] Z h0 (fun v h L => v = none ∧ Fr n0 L ∧ Keep h0 h [a1] ∧ Arv Z h a1 kz3 .byte (6 : Int32) [(.int (own_b0 p4)), (.int (own_b8 p4)), (.int (own_b0 p2)), (.int (own_b8 p2)), (.int (0 : Int32)), (.int (0 : Int32))] (.int (0 : Int32))) := by
  refine own_hN n0 rfl pn_2 ?_
  intro p e s m below meth c s₁ hx b hml hret hZ hown hnm X0 e0 N0
  refine own_ct (mkF m 0 #[.val (.ref a1), .val (.int (1 : Int32)), .val (.int p2)] []) rfl ?_
  obtain ⟨T1, X1, e1, st1⟩ := getS2 X0 hx hZ hown (host := "") (Or.inl (w63 hw)) Via.refl e0 (P1.ext O0.2) (g := (mkF m 0 #[.val (.ref a1), .val (.int (1 : Int32)), .val (.int p2)] [])) rfl (b d13_0)
  refine Go.st st1 ?_
  refine g_ifYes X1 hx (pc := 3) 28 (b d13_3) (XT.i0_ne_t (by decide : ¬ ((1 : Int32) = (0 : Int32)))) (by decide) ?_
  refine g_iloadN X1 hx (b d13_28) rfl ?_
  refine g_iconst X1 hx (1) (b d13_29) rfl ?_
  refine g_ishlZ X1 hx (2 : Int32) (b d13_30) rfl ?_
  refine g_istoreN X1 hx (b d13_31) (l' := #[.val (.ref a1), .val (.int (2 : Int32)), .val (.int p2)]) rfl ?_
  refine g_aloadN X1 hx (b d13_32) rfl rfl ?_
  refine g_iloadN X1 hx (b d13_33) rfl ?_
  refine g_iinc X1 hx (b d13_34) rfl (l' := #[.val (.ref a1), .val (.int (3 : Int32)), .val (.int p2)]) rfl ?_
  refine g_iloadN X1 hx (b d13_37) rfl ?_
  obtain ⟨T2, X2, e2, st2⟩ := getS2 X1 hx hZ hown (host := "") (Or.inl (w64 hw)) Via.refl e1 (P2.ext O0.2) (g := (mkF m 38 #[.val (.ref a1), .val (.int (3 : Int32)), .val (.int p2)] [(.int p2), (.int (2 : Int32)), (.ref a1)])) rfl (b d13_38)
  refine Go.st st2 ?_
  refine g_ishr X2 hx (b d13_41) ?_
  refine g_i2bZ X2 hx ((p2 >>> ((0 : Int32) &&& 31)).toInt8.toInt32) (b d13_42) rfl ?_
  obtain ⟨cl3, Ar3, q3, S3, M3, H3, G3⟩ := id P3
  have hin3 : ¬ ((2 : Int32) < 0 ∨ cl3.slots.size ≤ ((2 : Int32)).toNatClampNeg) := inb_of S3 ⟨by decide, by decide⟩
  obtain ⟨T3, h3, X3, e3, W3, st3⟩ := stB X2 hx hZ e2 Ar3 (j := (2 : Int32)) hin3 (g := (mkF m 43 #[.val (.ref a1), .val (.int (3 : Int32)), .val (.int p2)] [(.int ((p2 >>> ((0 : Int32) &&& 31)).toInt8.toInt32)), (.int (2 : Int32)), (.ref a1)])) rfl rfl (b d13_43)
  have V3 : Arv Z h3 a1 kz3 .byte (6 : Int32) [(.int (own_b0 p4)), (.int (own_b8 p4)), (.int (own_b0 p2)), (.int (0 : Int32)), (.int (0 : Int32)), (.int (0 : Int32))] (.int (0 : Int32)) := Arv.set Ar3 q3 S3 M3 H3 G3 (fits_nar_byte _) W3 2 rfl (Nat.le_of_ble_eq_true rfl)
  have N3 := Fr.snoc X3 N0 P4
  have O3 : Old Z n0 h3 := O0.wr W3 P4
  have K3 : Keep h0 h3 [a1] := (Keep.refl h0 [a1]).wr W3 (Or.inl (List.mem_of_getElem? (i := 0) rfl))
  refine Go.st st3 ?_
  refine g_aloadN X3 hx (b d13_44) rfl rfl ?_
  refine g_iloadN X3 hx (b d13_45) rfl ?_
  refine g_iloadN X3 hx (b d13_46) rfl ?_
  obtain ⟨T4, X4, e4, st4⟩ := getS2 X3 hx hZ hown (host := "") (Or.inl (w65 hw)) Via.refl e3 (P5.ext O3.2) (g := (mkF m 47 #[.val (.ref a1), .val (.int (3 : Int32)), .val (.int p2)] [(.int p2), (.int (3 : Int32)), (.ref a1)])) rfl (b d13_47)
  refine Go.st st4 ?_
  refine g_ishr X4 hx (b d13_50) ?_
  refine g_i2bZ X4 hx ((p2 >>> ((8 : Int32) &&& 31)).toInt8.toInt32) (b d13_51) rfl ?_
  obtain ⟨cl5, Ar5, q5, S5, M5, H5, G5⟩ := id V3
  have hin5 : ¬ ((3 : Int32) < 0 ∨ cl5.slots.size ≤ ((3 : Int32)).toNatClampNeg) := inb_of S5 ⟨by decide, by decide⟩
  obtain ⟨T5, h5, X5, e5, W5, st5⟩ := stB X4 hx hZ e4 Ar5 (j := (3 : Int32)) hin5 (g := (mkF m 52 #[.val (.ref a1), .val (.int (3 : Int32)), .val (.int p2)] [(.int ((p2 >>> ((8 : Int32) &&& 31)).toInt8.toInt32)), (.int (3 : Int32)), (.ref a1)])) rfl rfl (b d13_52)
  have V5 : Arv Z h5 a1 kz3 .byte (6 : Int32) [(.int (own_b0 p4)), (.int (own_b8 p4)), (.int (own_b0 p2)), (.int (own_b8 p2)), (.int (0 : Int32)), (.int (0 : Int32))] (.int (0 : Int32)) := Arv.set Ar5 q5 S5 M5 H5 G5 (fits_nar_byte _) W5 3 rfl (Nat.le_of_ble_eq_true rfl)
  have N5 := Fr.snoc X5 N3 P4
  have O5 : Old Z n0 h5 := O3.wr W5 P4
  have K5 : Keep h0 h5 [a1] := K3.wr W5 (Or.inl (List.mem_of_getElem? (i := 0) rfl))
  refine Go.st st5 ?_
  exact own_eV X5 hx hret (b d13_53) e5 (by decide) ⟨rfl, N5, K5, V5⟩
theorem rm13_6 (hw : HW Z a0) (a1 : Addr) (p2 : Int32) (kz3 : ClassId) (p4 p5 : Int32) (O0 : Old Z n0 h0) (P1 : Sta Z Z.heap "java/lang/StringUTF16" "$assertionsDisabled" "Z" (.int (1 : Int32))) (P2 : Sta Z Z.heap "java/lang/StringUTF16" "HI_BYTE_SHIFT" "I" (.int (0 : Int32))) (P3 : Arv Z h0 a1 kz3 .byte (6 : Int32) [(.int (own_b0 p4)), (.int (own_b8 p4)), (.int (own_b0 p5)), (.int (own_b8 p5)), (.int (0 : Int32)), (.int (0 : Int32))] (.int (0 : Int32))) (P4 : n0 ≤ a1) (P5 : Sta Z Z.heap "java/lang/StringUTF16" "LO_BYTE_SHIFT" "I" (.int (8 : Int32))) :
    MM l mn11 jdk_52_method_4_code 3 none (R4 0 0 0 0) #[(.ref a1), (.int (2 : Int32)), (.int p2)] Z h0 (fun v h L => v = none ∧ Fr n0 L ∧ Keep h0 h [a1] ∧ Arv Z h a1 kz3 .byte (6 : Int32) [(.int (own_b0 p4)), (.int (own_b8 p4)), (.int (own_b0 p5)), (.int (own_b8 p5)), (.int (own_b0 p2)), (.int (own_b8 p2))] (.int (0 : Int32))) := by
  refine own_hN n0 rfl pn_2 ?_
  intro p e s m below meth c s₁ hx b hml hret hZ hown hnm X0 e0 N0
  refine own_ct (mkF m 0 #[.val (.ref a1), .val (.int (2 : Int32)), .val (.int p2)] []) rfl ?_
  obtain ⟨T1, X1, e1, st1⟩ := getS2 X0 hx hZ hown (host := "") (Or.inl (w63 hw)) Via.refl e0 (P1.ext O0.2) (g := (mkF m 0 #[.val (.ref a1), .val (.int (2 : Int32)), .val (.int p2)] [])) rfl (b d13_0)
  refine Go.st st1 ?_
  refine g_ifYes X1 hx (pc := 3) 28 (b d13_3) (XT.i0_ne_t (by decide : ¬ ((1 : Int32) = (0 : Int32)))) (by decide) ?_
  refine g_iloadN X1 hx (b d13_28) rfl ?_
  refine g_iconst X1 hx (1) (b d13_29) rfl ?_
  refine g_ishlZ X1 hx (4 : Int32) (b d13_30) rfl ?_
  refine g_istoreN X1 hx (b d13_31) (l' := #[.val (.ref a1), .val (.int (4 : Int32)), .val (.int p2)]) rfl ?_
  refine g_aloadN X1 hx (b d13_32) rfl rfl ?_
  refine g_iloadN X1 hx (b d13_33) rfl ?_
  refine g_iinc X1 hx (b d13_34) rfl (l' := #[.val (.ref a1), .val (.int (5 : Int32)), .val (.int p2)]) rfl ?_
  refine g_iloadN X1 hx (b d13_37) rfl ?_
  obtain ⟨T2, X2, e2, st2⟩ := getS2 X1 hx hZ hown (host := "") (Or.inl (w64 hw)) Via.refl e1 (P2.ext O0.2) (g := (mkF m 38 #[.val (.ref a1), .val (.int (5 : Int32)), .val (.int p2)] [(.int p2), (.int (4 : Int32)), (.ref a1)])) rfl (b d13_38)
  refine Go.st st2 ?_
  refine g_ishr X2 hx (b d13_41) ?_
  refine g_i2bZ X2 hx ((p2 >>> ((0 : Int32) &&& 31)).toInt8.toInt32) (b d13_42) rfl ?_
  obtain ⟨cl3, Ar3, q3, S3, M3, H3, G3⟩ := id P3
  have hin3 : ¬ ((4 : Int32) < 0 ∨ cl3.slots.size ≤ ((4 : Int32)).toNatClampNeg) := inb_of S3 ⟨by decide, by decide⟩
  obtain ⟨T3, h3, X3, e3, W3, st3⟩ := stB X2 hx hZ e2 Ar3 (j := (4 : Int32)) hin3 (g := (mkF m 43 #[.val (.ref a1), .val (.int (5 : Int32)), .val (.int p2)] [(.int ((p2 >>> ((0 : Int32) &&& 31)).toInt8.toInt32)), (.int (4 : Int32)), (.ref a1)])) rfl rfl (b d13_43)
  have V3 : Arv Z h3 a1 kz3 .byte (6 : Int32) [(.int (own_b0 p4)), (.int (own_b8 p4)), (.int (own_b0 p5)), (.int (own_b8 p5)), (.int (own_b0 p2)), (.int (0 : Int32))] (.int (0 : Int32)) := Arv.set Ar3 q3 S3 M3 H3 G3 (fits_nar_byte _) W3 4 rfl (Nat.le_of_ble_eq_true rfl)
  have N3 := Fr.snoc X3 N0 P4
  have O3 : Old Z n0 h3 := O0.wr W3 P4
  have K3 : Keep h0 h3 [a1] := (Keep.refl h0 [a1]).wr W3 (Or.inl (List.mem_of_getElem? (i := 0) rfl))
  refine Go.st st3 ?_
  refine g_aloadN X3 hx (b d13_44) rfl rfl ?_
  refine g_iloadN X3 hx (b d13_45) rfl ?_
  refine g_iloadN X3 hx (b d13_46) rfl ?_
  obtain ⟨T4, X4, e4, st4⟩ := getS2 X3 hx hZ hown (host := "") (Or.inl (w65 hw)) Via.refl e3 (P5.ext O3.2) (g := (mkF m 47 #[.val (.ref a1), .val (.int (5 : Int32)), .val (.int p2)] [(.int p2), (.int (5 : Int32)), (.ref a1)])) rfl (b d13_47)
  refine Go.st st4 ?_
  refine g_ishr X4 hx (b d13_50) ?_
  refine g_i2bZ X4 hx ((p2 >>> ((8 : Int32) &&& 31)).toInt8.toInt32) (b d13_51) rfl ?_
  obtain ⟨cl5, Ar5, q5, S5, M5, H5, G5⟩ := id V3
  have hin5 : ¬ ((5 : Int32) < 0 ∨ cl5.slots.size ≤ ((5 : Int32)).toNatClampNeg) := inb_of S5 ⟨by decide, by decide⟩
  obtain ⟨T5, h5, X5, e5, W5, st5⟩ := stB X4 hx hZ e4 Ar5 (j := (5 : Int32)) hin5 (g := (mkF m 52 #[.val (.ref a1), .val (.int (5 : Int32)), .val (.int p2)] [(.int ((p2 >>> ((8 : Int32) &&& 31)).toInt8.toInt32)), (.int (5 : Int32)), (.ref a1)])) rfl rfl (b d13_52)
  have V5 : Arv Z h5 a1 kz3 .byte (6 : Int32) [(.int (own_b0 p4)), (.int (own_b8 p4)), (.int (own_b0 p5)), (.int (own_b8 p5)), (.int (own_b0 p2)), (.int (own_b8 p2))] (.int (0 : Int32)) := Arv.set Ar5 q5 S5 M5 H5 G5 (fits_nar_byte _) W5 5 rfl (Nat.le_of_ble_eq_true rfl)
  have N5 := Fr.snoc X5 N3 P4
  have O5 : Old Z n0 h5 := O3.wr W5 P4
  have K5 : Keep h0 h5 [a1] := K3.wr W5 (Or.inl (List.mem_of_getElem? (i := 0) rfl))
  refine Go.st st5 ?_
  exact own_eV X5 hx hret (b d13_53) e5 (by decide) ⟨rfl, N5, K5, V5⟩
theorem rm10_3 (hw : HW Z a0) (a1 : Addr) (kz2 : ClassId) (p3 p4 p5 : Int32) (O0 : Old Z n0 h0) (P1 : Arv Z h0 a1 kz2 .char (3 : Int32) [(.int p3), (.int p4), (.int p5)] (.int (0 : Int32))) (P2 : Sta Z Z.heap "java/lang/StringUTF16" "$assertionsDisabled" "Z" (.int (1 : Int32))) (P3 : Sta Z Z.heap "java/lang/StringUTF16" "HI_BYTE_SHIFT" "I" (.int (0 : Int32))) (P4 : Sta Z Z.heap "java/lang/StringUTF16" "LO_BYTE_SHIFT" "I" (.int (8 : Int32))) :
    MM l mn12 jdk_52_method_14_code 5 (some (.array .byte)) (R4 2 1 6 24) #[(.ref a1), (.int (0 : Int32)), (.int (3 : Int32))] Z h0 (fun v h L => ∃ (b2_1 : Addr) (k2_1 : ClassId), v = some (.ref b2_1) ∧ Fr n0 L ∧ Keep h0 h [] ∧ h0.size ≤ b2_1 ∧ Arv Z h b2_1 k2_1 .byte (6 : Int32) [(.int (own_b0 p3)), (.int (own_b8 p3)), (.int (own_b0 p4)), (.int (own_b8 p4)), (.int (own_b0 p5)), (.int (own_b8 p5))] (.int (0 : Int32))) := by
  refine own_hN n0 rfl pn_2 ?_
  intro p e s m below meth c s₁ hx b hml hret hZ hown hnm X0 e0 N0
  refine own_ct (mkF m 0 #[.val (.ref a1), .val (.int (0 : Int32)), .val (.int (3 : Int32)), .unset, .unset] []) rfl ?_
  refine g_iloadN X0 hx (b d10_0) rfl ?_
  refine own_cS X0 hx hZ hown (w53 hw) (w54 hw) (w45 hw) (w55 hw) (rm11_3 hw O0) e0 0 (by decide) (by decide) (by rw [hml]; rfl) [(.int (3 : Int32))] [] (lenOf pd_4 rfl) rfl rfl (Nat.le_of_eq rfl) (b d10_1) ?_
  rintro T1 _ L1 X1 ⟨b2_1, k2_1, rfl, M1, K1c, r1_0, r1_1⟩
  have N1 := Fr.app N0 M1
  have g_b2_1 : n0 ≤ b2_1 := Nat.le_trans (own_n0 O0) r1_0
  have s_b2_1 : h0.size ≤ b2_1 := Nat.le_trans (Keep.refl h0 []).1 r1_0
  have O1 : Old Z n0 T1.heap := O0.keep K1c all0
  have K1 : Keep h0 T1.heap [] := (Keep.refl h0 []).trans K1c all0
  refine g_astoreN X1 hx (b d10_4) rfl (l' := #[.val (.ref a1), .val (.int (0 : Int32)), .val (.int (3 : Int32)), .val (.ref b2_1), .unset]) rfl ?_
  refine g_iconst X1 hx (0) (b d10_5) rfl ?_
  refine g_istore X1 hx (b d10_6) (l' := #[.val (.ref a1), .val (.int (0 : Int32)), .val (.int (3 : Int32)), .val (.ref b2_1), .val (.int (0 : Int32))]) rfl ?_
  refine g_iload X1 hx (b d10_8) rfl ?_
  refine g_iloadN X1 hx (b d10_10) rfl ?_
  refine g_icmpNo X1 hx (b d10_11) (XT.ii_ge_f (by decide : (0 : Int32) < (3 : Int32))) ?_
  refine g_aloadN X1 hx (b d10_14) rfl rfl ?_
  refine g_iload X1 hx (b d10_15) rfl ?_
  refine g_aloadN X1 hx (b d10_17) rfl rfl ?_
  refine g_iloadN X1 hx (b d10_18) rfl ?_
  obtain ⟨cl2, Ar2, q2, S2, M2, H2, G2⟩ := id (P1.keep K1c nin0)
  have hin2 : ¬ ((0 : Int32) < 0 ∨ cl2.slots.size ≤ ((0 : Int32)).toNatClampNeg) := inb_of S2 ⟨by decide, by decide⟩
  have hat2 : cl2.slots[((0 : Int32)).toNatClampNeg]? = some (.int p3) := H2.at hin2 rfl
  refine Go.st (fun t k => X1.caload hx (j := (0 : Int32)) (v := (.int p3)) Ar2.1 (State.isArrayOf_alike hZ.alike Ar2.2.1) Ar2.2.2 hin2 hat2 (g := (mkF m 19 #[.val (.ref a1), .val (.int (0 : Int32)), .val (.int (3 : Int32)), .val (.ref b2_1), .val (.int (0 : Int32))] [(.int (0 : Int32)), (.ref a1), (.int (0 : Int32)), (.ref b2_1)])) rfl rfl (b d10_19) t k) ?_
  refine own_cS X1 hx hZ hown (w60 hw) (w61 hw) (w45 hw) (w62 hw) (rm13_4 hw b2_1 p3 k2_1 O1 P2 P3 r1_1 g_b2_1 P4) rfl 0 (by decide) (by decide) (by rw [hml]; rfl) [(.ref b2_1), (.int (0 : Int32)), (.int p3)] [] (lenOf pd_5 rfl) rfl rfl (Nat.le_of_eq rfl) (b d10_20) ?_
  rintro T3 _ L3 X3 ⟨rfl, M3, K3c, r3_0⟩
  have N3 := Fr.app N1 M3
  have O3 : Old Z n0 T3.heap := O1.keep K3c (allS g_b2_1 all0)
  have K3 : Keep h0 T3.heap [] := K1.trans K3c (allS (Or.inr s_b2_1) all0)
  refine g_iinc X3 hx (b d10_23) rfl (l' := #[.val (.ref a1), .val (.int (1 : Int32)), .val (.int (3 : Int32)), .val (.ref b2_1), .val (.int (0 : Int32))]) rfl ?_
  refine g_iinc X3 hx (b d10_26) rfl (l' := #[.val (.ref a1), .val (.int (1 : Int32)), .val (.int (3 : Int32)), .val (.ref b2_1), .val (.int (1 : Int32))]) rfl ?_
  refine g_goto X3 hx (pc := 29) 8 (b d10_29) (by decide) ?_
  refine g_iload X3 hx (b d10_8) rfl ?_
  refine g_iloadN X3 hx (b d10_10) rfl ?_
  refine g_icmpNo X3 hx (b d10_11) (XT.ii_ge_f (by decide : (1 : Int32) < (3 : Int32))) ?_
  refine g_aloadN X3 hx (b d10_14) rfl rfl ?_
  refine g_iload X3 hx (b d10_15) rfl ?_
  refine g_aloadN X3 hx (b d10_17) rfl rfl ?_
  refine g_iloadN X3 hx (b d10_18) rfl ?_
  have c4 := ((P1.keep K1c nin0).keep K3c (ninS (Nat.ne_of_lt (Nat.lt_of_lt_of_le P1.lt r1_0)) nin0))
  obtain ⟨cl5, Ar5, q5, S5, M5, H5, G5⟩ := id c4
  have hin5 : ¬ ((1 : Int32) < 0 ∨ cl5.slots.size ≤ ((1 : Int32)).toNatClampNeg) := inb_of S5 ⟨by decide, by decide⟩
  have hat5 : cl5.slots[((1 : Int32)).toNatClampNeg]? = some (.int p4) := H5.at hin5 rfl
  refine Go.st (fun t k => X3.caload hx (j := (1 : Int32)) (v := (.int p4)) Ar5.1 (State.isArrayOf_alike hZ.alike Ar5.2.1) Ar5.2.2 hin5 hat5 (g := (mkF m 19 #[.val (.ref a1), .val (.int (1 : Int32)), .val (.int (3 : Int32)), .val (.ref b2_1), .val (.int (1 : Int32))] [(.int (1 : Int32)), (.ref a1), (.int (1 : Int32)), (.ref b2_1)])) rfl rfl (b d10_19) t k) ?_
  refine own_cS X3 hx hZ hown (w60 hw) (w61 hw) (w45 hw) (w62 hw) (rm13_5 hw b2_1 p4 k2_1 p3 O3 P2 P3 r3_0 g_b2_1 P4) rfl 0 (by decide) (by decide) (by rw [hml]; rfl) [(.ref b2_1), (.int (1 : Int32)), (.int p4)] [] (lenOf pd_5 rfl) rfl rfl (Nat.le_of_eq rfl) (b d10_20) ?_
  rintro T6 _ L6 X6 ⟨rfl, M6, K6c, r6_0⟩
  have N6 := Fr.app N3 M6
  have O6 : Old Z n0 T6.heap := O3.keep K6c (allS g_b2_1 all0)
  have K6 : Keep h0 T6.heap [] := K3.trans K6c (allS (Or.inr s_b2_1) all0)
  refine g_iinc X6 hx (b d10_23) rfl (l' := #[.val (.ref a1), .val (.int (2 : Int32)), .val (.int (3 : Int32)), .val (.ref b2_1), .val (.int (1 : Int32))]) rfl ?_
  refine g_iinc X6 hx (b d10_26) rfl (l' := #[.val (.ref a1), .val (.int (2 : Int32)), .val (.int (3 : Int32)), .val (.ref b2_1), .val (.int (2 : Int32))]) rfl ?_
  refine g_goto X6 hx (pc := 29) 8 (b d10_29) (by decide) ?_
  refine g_iload X6 hx (b d10_8) rfl ?_
  refine g_iloadN X6 hx (b d10_10) rfl ?_
  refine g_icmpNo X6 hx (b d10_11) (XT.ii_ge_f (by decide : (2 : Int32) < (3 : Int32))) ?_
  refine g_aloadN X6 hx (b d10_14) rfl rfl ?_
  refine g_iload X6 hx (b d10_15) rfl ?_
  refine g_aloadN X6 hx (b d10_17) rfl rfl ?_
  refine g_iloadN X6 hx (b d10_18) rfl ?_
  have c7 := (c4.keep K6c (ninS (Nat.ne_of_lt (Nat.lt_of_lt_of_le P1.lt r1_0)) nin0))
  obtain ⟨cl8, Ar8, q8, S8, M8, H8, G8⟩ := id c7
  have hin8 : ¬ ((2 : Int32) < 0 ∨ cl8.slots.size ≤ ((2 : Int32)).toNatClampNeg) := inb_of S8 ⟨by decide, by decide⟩
  have hat8 : cl8.slots[((2 : Int32)).toNatClampNeg]? = some (.int p5) := H8.at hin8 rfl
  refine Go.st (fun t k => X6.caload hx (j := (2 : Int32)) (v := (.int p5)) Ar8.1 (State.isArrayOf_alike hZ.alike Ar8.2.1) Ar8.2.2 hin8 hat8 (g := (mkF m 19 #[.val (.ref a1), .val (.int (2 : Int32)), .val (.int (3 : Int32)), .val (.ref b2_1), .val (.int (2 : Int32))] [(.int (2 : Int32)), (.ref a1), (.int (2 : Int32)), (.ref b2_1)])) rfl rfl (b d10_19) t k) ?_
  refine own_cS X6 hx hZ hown (w60 hw) (w61 hw) (w45 hw) (w62 hw) (rm13_6 hw b2_1 p5 k2_1 p3 p4 O6 P2 P3 r6_0 g_b2_1 P4) rfl 0 (by decide) (by decide) (by rw [hml]; rfl) [(.ref b2_1), (.int (2 : Int32)), (.int p5)] [] (lenOf pd_5 rfl) rfl rfl (Nat.le_of_eq rfl) (b d10_20) ?_
  rintro T9 _ L9 X9 ⟨rfl, M9, K9c, r9_0⟩
  have N9 := Fr.app N6 M9
  have O9 : Old Z n0 T9.heap := O6.keep K9c (allS g_b2_1 all0)
  have K9 : Keep h0 T9.heap [] := K6.trans K9c (allS (Or.inr s_b2_1) all0)
  refine g_iinc X9 hx (b d10_23) rfl (l' := #[.val (.ref a1), .val (.int (3 : Int32)), .val (.int (3 : Int32)), .val (.ref b2_1), .val (.int (2 : Int32))]) rfl ?_
  refine g_iinc X9 hx (b d10_26) rfl (l' := #[.val (.ref a1), .val (.int (3 : Int32)), .val (.int (3 : Int32)), .val (.ref b2_1), .val (.int (3 : Int32))]) rfl ?_
  refine g_goto X9 hx (pc := 29) 8 (b d10_29) (by decide) ?_
  refine g_iload X9 hx (b d10_8) rfl ?_
  refine g_iloadN X9 hx (b d10_10) rfl ?_
  refine g_icmpYes X9 hx (pc := 11) 32 (b d10_11) (XT.ii_ge_t (by decide : ¬ ((3 : Int32) < (3 : Int32)))) (by decide) ?_
  refine g_aloadN X9 hx (b d10_32) rfl rfl ?_
  exact own_eA X9 hx hret rfl rfl (b d10_33) rfl (by decide) ⟨b2_1, k2_1, rfl, N9, K9, s_b2_1, r9_0⟩
theorem rm9_5 (hw : HW Z a0) (a1 a2 : Addr) (kz3 : ClassId) (p4 p5 p6 : Int32) (kz7 : ClassId) (O0 : Old Z n0 h0) (P1 : Arv Z h0 a1 kz3 .char (3 : Int32) [(.int p4), (.int p5), (.int p6)] (.int (0 : Int32))) (P2 : ¬ ((255 : Int32) < p4)) (P3 : Arv Z h0 a2 kz7 .byte (3 : Int32) [(.int (0 : Int32)), (.int (0 : Int32)), (.int (0 : Int32))] (.int (0 : Int32))) (P4 : n0 ≤ a2) (P5 : a1 ≠ a2) (P6 : (255 : Int32) < p5) :
    MM l mn8 jdk_52_method_21_code 7 (some .int) (R4 0 0 0 0) #[(.ref a1), (.int (0 : Int32)), (.ref a2), (.int (0 : Int32)), (.int (3 : Int32))] Z h0 (fun v h L => v = some (.int (1 : Int32)) ∧ Fr n0 L ∧ Keep h0 h [a2] ∧ Arv Z h a2 kz7 .byte (3 : Int32) [(.int ((p4.toInt8.toInt32).toInt8.toInt32)), (.int (0 : Int32)), (.int (0 : Int32))] (.int (0 : Int32))) := by
  refine own_hN n0 rfl pn_2 ?_
  intro p e s m below meth c s₁ hx b hml hret hZ hown hnm X0 e0 N0
  refine own_ct (mkF m 0 #[.val (.ref a1), .val (.int (0 : Int32)), .val (.ref a2), .val (.int (0 : Int32)), .val (.int (3 : Int32)), .unset, .unset] []) rfl ?_
  refine g_iconst X0 hx (0) (b d9_0) rfl ?_
  refine g_istore X0 hx (b d9_1) (l' := #[.val (.ref a1), .val (.int (0 : Int32)), .val (.ref a2), .val (.int (0 : Int32)), .val (.int (3 : Int32)), .val (.int (0 : Int32)), .unset]) rfl ?_
  refine g_iload X0 hx (b d9_3) rfl ?_
  refine g_iload X0 hx (b d9_5) rfl ?_
  refine g_icmpNo X0 hx (b d9_7) (XT.ii_ge_f (by decide : (0 : Int32) < (3 : Int32))) ?_
  refine g_aloadN X0 hx (b d9_10) rfl rfl ?_
  refine g_iloadN X0 hx (b d9_11) rfl ?_
  obtain ⟨cl1, Ar1, q1, S1, M1, H1, G1⟩ := id P1
  have hin1 : ¬ ((0 : Int32) < 0 ∨ cl1.slots.size ≤ ((0 : Int32)).toNatClampNeg) := inb_of S1 ⟨by decide, by decide⟩
  have hat1 : cl1.slots[((0 : Int32)).toNatClampNeg]? = some (.int p4) := H1.at hin1 rfl
  refine Go.st (fun t k => X0.caload hx (j := (0 : Int32)) (v := (.int p4)) (by rw [e0]; exact Ar1.1) (State.isArrayOf_alike hZ.alike Ar1.2.1) Ar1.2.2 hin1 hat1 (g := (mkF m 12 #[.val (.ref a1), .val (.int (0 : Int32)), .val (.ref a2), .val (.int (0 : Int32)), .val (.int (3 : Int32)), .val (.int (0 : Int32)), .unset] [(.int (0 : Int32)), (.ref a1)])) rfl rfl (b d9_12) t k) ?_
  refine g_istore X0 hx (b d9_13) (l' := #[.val (.ref a1), .val (.int (0 : Int32)), .val (.ref a2), .val (.int (0 : Int32)), .val (.int (3 : Int32)), .val (.int (0 : Int32)), .val (.int p4)]) rfl ?_
  refine g_iload X0 hx (b d9_15) rfl ?_
  refine g_sipush X0 hx (255) (b d9_17) rfl ?_
  refine g_icmpYes X0 hx (pc := 20) 26 (b d9_20) (XT.ii_le_t P2) (by decide) ?_
  refine g_aloadN X0 hx (b d9_26) rfl rfl ?_
  refine g_iloadN X0 hx (b d9_27) rfl ?_
  refine g_iload X0 hx (b d9_28) rfl ?_
  refine g_i2bZ X0 hx (p4.toInt8.toInt32) (b d9_30) rfl ?_
  obtain ⟨cl2, Ar2, q2, S2, M2, H2, G2⟩ := id P3
  have hin2 : ¬ ((0 : Int32) < 0 ∨ cl2.slots.size ≤ ((0 : Int32)).toNatClampNeg) := inb_of S2 ⟨by decide, by decide⟩
  obtain ⟨T2, h2, X2, e2, W2, st2⟩ := stB X0 hx hZ e0 Ar2 (j := (0 : Int32)) hin2 (g := (mkF m 31 #[.val (.ref a1), .val (.int (0 : Int32)), .val (.ref a2), .val (.int (0 : Int32)), .val (.int (3 : Int32)), .val (.int (0 : Int32)), .val (.int p4)] [(.int (p4.toInt8.toInt32)), (.int (0 : Int32)), (.ref a2)])) rfl rfl (b d9_31)
  have V2 : Arv Z h2 a2 kz7 .byte (3 : Int32) [(.int ((p4.toInt8.toInt32).toInt8.toInt32)), (.int (0 : Int32)), (.int (0 : Int32))] (.int (0 : Int32)) := Arv.set Ar2 q2 S2 M2 H2 G2 (fits_nar_byte _) W2 0 rfl (Nat.le_of_ble_eq_true rfl)
  have N2 := Fr.snoc X2 N0 P4
  have O2 : Old Z n0 h2 := O0.wr W2 P4
  have K2 : Keep h0 h2 [a2] := (Keep.refl h0 [a2]).wr W2 (Or.inl (List.mem_of_getElem? (i := 0) rfl))
  refine Go.st st2 ?_
  refine g_iinc X2 hx (b d9_32) rfl (l' := #[.val (.ref a1), .val (.int (1 : Int32)), .val (.ref a2), .val (.int (0 : Int32)), .val (.int (3 : Int32)), .val (.int (0 : Int32)), .val (.int p4)]) rfl ?_
  refine g_iinc X2 hx (b d9_35) rfl (l' := #[.val (.ref a1), .val (.int (1 : Int32)), .val (.ref a2), .val (.int (1 : Int32)), .val (.int (3 : Int32)), .val (.int (0 : Int32)), .val (.int p4)]) rfl ?_
  refine g_iinc X2 hx (b d9_38) rfl (l' := #[.val (.ref a1), .val (.int (1 : Int32)), .val (.ref a2), .val (.int (1 : Int32)), .val (.int (3 : Int32)), .val (.int (1 : Int32)), .val (.int p4)]) rfl ?_
  refine g_goto X2 hx (pc := 41) 3 (b d9_41) (by decide) ?_
  refine g_iload X2 hx (b d9_3) rfl ?_
  refine g_iload X2 hx (b d9_5) rfl ?_
  refine g_icmpNo X2 hx (b d9_7) (XT.ii_ge_f (by decide : (1 : Int32) < (3 : Int32))) ?_
  refine g_aloadN X2 hx (b d9_10) rfl rfl ?_
  refine g_iloadN X2 hx (b d9_11) rfl ?_
  obtain ⟨cl3, Ar3, q3, S3, M3, H3, G3⟩ := id (P1.other W2 P5)
  have hin3 : ¬ ((1 : Int32) < 0 ∨ cl3.slots.size ≤ ((1 : Int32)).toNatClampNeg) := inb_of S3 ⟨by decide, by decide⟩
  have hat3 : cl3.slots[((1 : Int32)).toNatClampNeg]? = some (.int p5) := H3.at hin3 rfl
  refine Go.st (fun t k => X2.caload hx (j := (1 : Int32)) (v := (.int p5)) (by rw [e2]; exact Ar3.1) (State.isArrayOf_alike hZ.alike Ar3.2.1) Ar3.2.2 hin3 hat3 (g := (mkF m 12 #[.val (.ref a1), .val (.int (1 : Int32)), .val (.ref a2), .val (.int (1 : Int32)), .val (.int (3 : Int32)), .val (.int (1 : Int32)), .val (.int p4)] [(.int (1 : Int32)), (.ref a1)])) rfl rfl (b d9_12) t k) ?_
  refine g_istore X2 hx (b d9_13) (l' := #[.val (.ref a1), .val (.int (1 : Int32)), .val (.ref a2), .val (.int (1 : Int32)), .val (.int (3 : Int32)), .val (.int (1 : Int32)), .val (.int p5)]) rfl ?_
  refine g_iload X2 hx (b d9_15) rfl ?_
  refine g_sipush X2 hx (255) (b d9_17) rfl ?_
  refine g_icmpNo X2 hx (b d9_20) (XT.ii_le_f P6) ?_
  refine g_iload X2 hx (b d9_23) rfl ?_
  exact own_eI X2 hx hret (b d9_25) e2 (by decide) ⟨rfl, N2, K2, V2⟩
theorem rm9_6 (hw : HW Z a0) (a1 a2 : Addr) (kz3 : ClassId) (p4 p5 p6 : Int32) (kz7 : ClassId) (O0 : Old Z n0 h0) (P1 : Arv Z h0 a1 kz3 .char (3 : Int32) [(.int p4), (.int p5), (.int p6)] (.int (0 : Int32))) (P2 : ¬ ((255 : Int32) < p4)) (P3 : Arv Z h0 a2 kz7 .byte (3 : Int32) [(.int (0 : Int32)), (.int (0 : Int32)), (.int (0 : Int32))] (.int (0 : Int32))) (P4 : n0 ≤ a2) (P5 : a1 ≠ a2) (P6 : ¬ ((255 : Int32) < p5)) (P7 : (255 : Int32) < p6) :
    MM l mn8 jdk_52_method_21_code 7 (some .int) (R4 0 0 0 0) #[(.ref a1), (.int (0 : Int32)), (.ref a2), (.int (0 : Int32)), (.int (3 : Int32))] Z h0 (fun v h L => v = some (.int (2 : Int32)) ∧ Fr n0 L ∧ Keep h0 h [a2] ∧ Arv Z h a2 kz7 .byte (3 : Int32) [(.int ((p4.toInt8.toInt32).toInt8.toInt32)), (.int ((p5.toInt8.toInt32).toInt8.toInt32)), (.int (0 : Int32))] (.int (0 : Int32))) := by
  refine own_hN n0 rfl pn_2 ?_
  intro p e s m below meth c s₁ hx b hml hret hZ hown hnm X0 e0 N0
  refine own_ct (mkF m 0 #[.val (.ref a1), .val (.int (0 : Int32)), .val (.ref a2), .val (.int (0 : Int32)), .val (.int (3 : Int32)), .unset, .unset] []) rfl ?_
  refine g_iconst X0 hx (0) (b d9_0) rfl ?_
  refine g_istore X0 hx (b d9_1) (l' := #[.val (.ref a1), .val (.int (0 : Int32)), .val (.ref a2), .val (.int (0 : Int32)), .val (.int (3 : Int32)), .val (.int (0 : Int32)), .unset]) rfl ?_
  refine g_iload X0 hx (b d9_3) rfl ?_
  refine g_iload X0 hx (b d9_5) rfl ?_
  refine g_icmpNo X0 hx (b d9_7) (XT.ii_ge_f (by decide : (0 : Int32) < (3 : Int32))) ?_
  refine g_aloadN X0 hx (b d9_10) rfl rfl ?_
  refine g_iloadN X0 hx (b d9_11) rfl ?_
  obtain ⟨cl1, Ar1, q1, S1, M1, H1, G1⟩ := id P1
  have hin1 : ¬ ((0 : Int32) < 0 ∨ cl1.slots.size ≤ ((0 : Int32)).toNatClampNeg) := inb_of S1 ⟨by decide, by decide⟩
  have hat1 : cl1.slots[((0 : Int32)).toNatClampNeg]? = some (.int p4) := H1.at hin1 rfl
  refine Go.st (fun t k => X0.caload hx (j := (0 : Int32)) (v := (.int p4)) (by rw [e0]; exact Ar1.1) (State.isArrayOf_alike hZ.alike Ar1.2.1) Ar1.2.2 hin1 hat1 (g := (mkF m 12 #[.val (.ref a1), .val (.int (0 : Int32)), .val (.ref a2), .val (.int (0 : Int32)), .val (.int (3 : Int32)), .val (.int (0 : Int32)), .unset] [(.int (0 : Int32)), (.ref a1)])) rfl rfl (b d9_12) t k) ?_
  refine g_istore X0 hx (b d9_13) (l' := #[.val (.ref a1), .val (.int (0 : Int32)), .val (.ref a2), .val (.int (0 : Int32)), .val (.int (3 : Int32)), .val (.int (0 : Int32)), .val (.int p4)]) rfl ?_
  refine g_iload X0 hx (b d9_15) rfl ?_
  refine g_sipush X0 hx (255) (b d9_17) rfl ?_
  refine g_icmpYes X0 hx (pc := 20) 26 (b d9_20) (XT.ii_le_t P2) (by decide) ?_
  refine g_aloadN X0 hx (b d9_26) rfl rfl ?_
  refine g_iloadN X0 hx (b d9_27) rfl ?_
  refine g_iload X0 hx (b d9_28) rfl ?_
  refine g_i2bZ X0 hx (p4.toInt8.toInt32) (b d9_30) rfl ?_
  obtain ⟨cl2, Ar2, q2, S2, M2, H2, G2⟩ := id P3
  have hin2 : ¬ ((0 : Int32) < 0 ∨ cl2.slots.size ≤ ((0 : Int32)).toNatClampNeg) := inb_of S2 ⟨by decide, by decide⟩
  obtain ⟨T2, h2, X2, e2, W2, st2⟩ := stB X0 hx hZ e0 Ar2 (j := (0 : Int32)) hin2 (g := (mkF m 31 #[.val (.ref a1), .val (.int (0 : Int32)), .val (.ref a2), .val (.int (0 : Int32)), .val (.int (3 : Int32)), .val (.int (0 : Int32)), .val (.int p4)] [(.int (p4.toInt8.toInt32)), (.int (0 : Int32)), (.ref a2)])) rfl rfl (b d9_31)
  have V2 : Arv Z h2 a2 kz7 .byte (3 : Int32) [(.int ((p4.toInt8.toInt32).toInt8.toInt32)), (.int (0 : Int32)), (.int (0 : Int32))] (.int (0 : Int32)) := Arv.set Ar2 q2 S2 M2 H2 G2 (fits_nar_byte _) W2 0 rfl (Nat.le_of_ble_eq_true rfl)
  have N2 := Fr.snoc X2 N0 P4
  have O2 : Old Z n0 h2 := O0.wr W2 P4
  have K2 : Keep h0 h2 [a2] := (Keep.refl h0 [a2]).wr W2 (Or.inl (List.mem_of_getElem? (i := 0) rfl))
  refine Go.st st2 ?_
  refine g_iinc X2 hx (b d9_32) rfl (l' := #[.val (.ref a1), .val (.int (1 : Int32)), .val (.ref a2), .val (.int (0 : Int32)), .val (.int (3 : Int32)), .val (.int (0 : Int32)), .val (.int p4)]) rfl ?_
  refine g_iinc X2 hx (b d9_35) rfl (l' := #[.val (.ref a1), .val (.int (1 : Int32)), .val (.ref a2), .val (.int (1 : Int32)), .val (.int (3 : Int32)), .val (.int (0 : Int32)), .val (.int p4)]) rfl ?_
  refine g_iinc X2 hx (b d9_38) rfl (l' := #[.val (.ref a1), .val (.int (1 : Int32)), .val (.ref a2), .val (.int (1 : Int32)), .val (.int (3 : Int32)), .val (.int (1 : Int32)), .val (.int p4)]) rfl ?_
  refine g_goto X2 hx (pc := 41) 3 (b d9_41) (by decide) ?_
  refine g_iload X2 hx (b d9_3) rfl ?_
  refine g_iload X2 hx (b d9_5) rfl ?_
  refine g_icmpNo X2 hx (b d9_7) (XT.ii_ge_f (by decide : (1 : Int32) < (3 : Int32))) ?_
  refine g_aloadN X2 hx (b d9_10) rfl rfl ?_
  refine g_iloadN X2 hx (b d9_11) rfl ?_
  obtain ⟨cl3, Ar3, q3, S3, M3, H3, G3⟩ := id (P1.other W2 P5)
  have hin3 : ¬ ((1 : Int32) < 0 ∨ cl3.slots.size ≤ ((1 : Int32)).toNatClampNeg) := inb_of S3 ⟨by decide, by decide⟩
  have hat3 : cl3.slots[((1 : Int32)).toNatClampNeg]? = some (.int p5) := H3.at hin3 rfl
  refine Go.st (fun t k => X2.caload hx (j := (1 : Int32)) (v := (.int p5)) (by rw [e2]; exact Ar3.1) (State.isArrayOf_alike hZ.alike Ar3.2.1) Ar3.2.2 hin3 hat3 (g := (mkF m 12 #[.val (.ref a1), .val (.int (1 : Int32)), .val (.ref a2), .val (.int (1 : Int32)), .val (.int (3 : Int32)), .val (.int (1 : Int32)), .val (.int p4)] [(.int (1 : Int32)), (.ref a1)])) rfl rfl (b d9_12) t k) ?_
  refine g_istore X2 hx (b d9_13) (l' := #[.val (.ref a1), .val (.int (1 : Int32)), .val (.ref a2), .val (.int (1 : Int32)), .val (.int (3 : Int32)), .val (.int (1 : Int32)), .val (.int p5)]) rfl ?_
  refine g_iload X2 hx (b d9_15) rfl ?_
  refine g_sipush X2 hx (255) (b d9_17) rfl ?_
  refine g_icmpYes X2 hx (pc := 20) 26 (b d9_20) (XT.ii_le_t P6) (by decide) ?_
  refine g_aloadN X2 hx (b d9_26) rfl rfl ?_
  refine g_iloadN X2 hx (b d9_27) rfl ?_
  refine g_iload X2 hx (b d9_28) rfl ?_
  refine g_i2bZ X2 hx (p5.toInt8.toInt32) (b d9_30) rfl ?_
  obtain ⟨cl4, Ar4, q4, S4, M4, H4, G4⟩ := id V2
  have hin4 : ¬ ((1 : Int32) < 0 ∨ cl4.slots.size ≤ ((1 : Int32)).toNatClampNeg) := inb_of S4 ⟨by decide, by decide⟩
  obtain ⟨T4, h4, X4, e4, W4, st4⟩ := stB X2 hx hZ e2 Ar4 (j := (1 : Int32)) hin4 (g := (mkF m 31 #[.val (.ref a1), .val (.int (1 : Int32)), .val (.ref a2), .val (.int (1 : Int32)), .val (.int (3 : Int32)), .val (.int (1 : Int32)), .val (.int p5)] [(.int (p5.toInt8.toInt32)), (.int (1 : Int32)), (.ref a2)])) rfl rfl (b d9_31)
  have V4 : Arv Z h4 a2 kz7 .byte (3 : Int32) [(.int ((p4.toInt8.toInt32).toInt8.toInt32)), (.int ((p5.toInt8.toInt32).toInt8.toInt32)), (.int (0 : Int32))] (.int (0 : Int32)) := Arv.set Ar4 q4 S4 M4 H4 G4 (fits_nar_byte _) W4 1 rfl (Nat.le_of_ble_eq_true rfl)
  have N4 := Fr.snoc X4 N2 P4
  have O4 : Old Z n0 h4 := O2.wr W4 P4
  have K4 : Keep h0 h4 [a2] := K2.wr W4 (Or.inl (List.mem_of_getElem? (i := 0) rfl))
  refine Go.st st4 ?_
  refine g_iinc X4 hx (b d9_32) rfl (l' := #[.val (.ref a1), .val (.int (2 : Int32)), .val (.ref a2), .val (.int (1 : Int32)), .val (.int (3 : Int32)), .val (.int (1 : Int32)), .val (.int p5)]) rfl ?_
  refine g_iinc X4 hx (b d9_35) rfl (l' := #[.val (.ref a1), .val (.int (2 : Int32)), .val (.ref a2), .val (.int (2 : Int32)), .val (.int (3 : Int32)), .val (.int (1 : Int32)), .val (.int p5)]) rfl ?_
  refine g_iinc X4 hx (b d9_38) rfl (l' := #[.val (.ref a1), .val (.int (2 : Int32)), .val (.ref a2), .val (.int (2 : Int32)), .val (.int (3 : Int32)), .val (.int (2 : Int32)), .val (.int p5)]) rfl ?_
  refine g_goto X4 hx (pc := 41) 3 (b d9_41) (by decide) ?_
  refine g_iload X4 hx (b d9_3) rfl ?_
  refine g_iload X4 hx (b d9_5) rfl ?_
  refine g_icmpNo X4 hx (b d9_7) (XT.ii_ge_f (by decide : (2 : Int32) < (3 : Int32))) ?_
  refine g_aloadN X4 hx (b d9_10) rfl rfl ?_
  refine g_iloadN X4 hx (b d9_11) rfl ?_
  obtain ⟨cl5, Ar5, q5, S5, M5, H5, G5⟩ := id ((P1.other W2 P5).other W4 P5)
  have hin5 : ¬ ((2 : Int32) < 0 ∨ cl5.slots.size ≤ ((2 : Int32)).toNatClampNeg) := inb_of S5 ⟨by decide, by decide⟩
  have hat5 : cl5.slots[((2 : Int32)).toNatClampNeg]? = some (.int p6) := H5.at hin5 rfl
  refine Go.st (fun t k => X4.caload hx (j := (2 : Int32)) (v := (.int p6)) (by rw [e4]; exact Ar5.1) (State.isArrayOf_alike hZ.alike Ar5.2.1) Ar5.2.2 hin5 hat5 (g := (mkF m 12 #[.val (.ref a1), .val (.int (2 : Int32)), .val (.ref a2), .val (.int (2 : Int32)), .val (.int (3 : Int32)), .val (.int (2 : Int32)), .val (.int p5)] [(.int (2 : Int32)), (.ref a1)])) rfl rfl (b d9_12) t k) ?_
  refine g_istore X4 hx (b d9_13) (l' := #[.val (.ref a1), .val (.int (2 : Int32)), .val (.ref a2), .val (.int (2 : Int32)), .val (.int (3 : Int32)), .val (.int (2 : Int32)), .val (.int p6)]) rfl ?_
  refine g_iload X4 hx (b d9_15) rfl ?_
  refine g_sipush X4 hx (255) (b d9_17) rfl ?_
  refine g_icmpNo X4 hx (b d9_20) (XT.ii_le_f P7) ?_
  refine g_iload X4 hx (b d9_23) rfl ?_
  exact own_eI X4 hx hret (b d9_25) e4 (by decide) ⟨rfl, N4, K4, V4⟩
theorem rmU3 (hw : HW Z a0) (ov : Addr) (kv : ClassId) (Xv0 Xv1 Xv2 : Int32) (O0 : Old Z n0 h0) (MF1 : Arv Z h0 ov kv .char (3 : Int32) [(.int Xv0), (.int Xv1), (.int Xv2)] (.int (0 : Int32))) (Mp1 : ¬ (Xv0 < (0 : Int32))) (Mp2 : ¬ ((65535 : Int32) < Xv0)) (Mp3 : ¬ (Xv1 < (0 : Int32))) (Mp4 : ¬ ((65535 : Int32) < Xv1)) (Mp5 : ¬ (Xv2 < (0 : Int32))) (Mp6 : ¬ ((65535 : Int32) < Xv2)) (Mp7 : (255 : Int32) < (own_mx (own_mx Xv0 Xv1) Xv2)) (P9 : Sta Z Z.heap "java/lang/StringUTF16" "$assertionsDisabled" "Z" (.int (1 : Int32))) (P10 : Sta Z Z.heap "java/lang/StringUTF16" "HI_BYTE_SHIFT" "I" (.int (0 : Int32))) (P11 : Sta Z Z.heap "java/lang/StringUTF16" "LO_BYTE_SHIFT" "I" (.int (8 : Int32))) :
    MM l mn13 jdk_52_method_16_code 6 (some (.array .byte)) (R4 3 2 9 40) #[(.ref ov), (.int (0 : Int32)), (.int (3 : Int32))] Z h0 (fun v h L => ∃ (bo : Addr) (ko : ClassId), v = some (.ref bo) ∧ Fr n0 L ∧ Keep h0 h [] ∧ h0.size ≤ bo ∧ Arv Z h bo ko .byte (6 : Int32) [(.int (own_b0 Xv0)), (.int (own_b8 Xv0)), (.int (own_b0 Xv1)), (.int (own_b8 Xv1)), (.int (own_b0 Xv2)), (.int (own_b8 Xv2))] (.int (0 : Int32))) := by
  refine own_hN n0 rfl pn_2 ?_
  intro p e s m below meth c s₁ hx b hml hret hZ hown hnm X0 e0 N0
  refine own_ct (mkF m 0 #[.val (.ref ov), .val (.int (0 : Int32)), .val (.int (3 : Int32)), .unset, .unset, .unset] []) rfl ?_
  refine g_iloadN X0 hx (b d8_0) rfl ?_
  obtain ⟨T1, h1, k1, X1, e1, E1, A1, st1⟩ := newP X0 hx hZ (aty := .byte) (w26 hw) e0 (g := (mkF m 1 #[.val (.ref ov), .val (.int (0 : Int32)), .val (.int (3 : Int32)), .unset, .unset, .unset] [(.int (3 : Int32))])) rfl (b d8_1) rfl (by decide) (cap := 3) (by decide) (by decide) (by decide) (by decide)
  obtain ⟨b1, z1⟩ : ∃ z, z = h0.size := ⟨_, rfl⟩
  rw [← z1] at A1 st1
  have g_b1 : n0 ≤ b1 := Nat.le_trans (own_n0 O0) (Nat.le_of_eq z1.symm)
  have s_b1 : h0.size ≤ b1 := Nat.le_trans (Keep.refl h0 []).1 (Nat.le_of_eq z1.symm)
  have V1 : Arv Z h1 b1 k1 .byte (3 : Int32) [(.int (0 : Int32)), (.int (0 : Int32)), (.int (0 : Int32))] (.int (0 : Int32)) := (Arv.new A1 (by decide)).pad (pad_rep [] (.int (0 : Int32)) 3)
  have O1 : Old Z n0 h1 := O0.ext E1
  have K1 : Keep h0 h1 [] := (Keep.refl h0 []).ext E1
  refine Go.st st1 ?_
  refine g_astoreN X1 hx (b d8_3) rfl (l' := #[.val (.ref ov), .val (.int (0 : Int32)), .val (.int (3 : Int32)), .val (.ref b1), .unset, .unset]) rfl ?_
  refine g_aloadN X1 hx (b d8_4) rfl rfl ?_
  refine g_iloadN X1 hx (b d8_5) rfl ?_
  refine g_aloadN X1 hx (b d8_6) rfl rfl ?_
  refine g_iconst X1 hx (0) (b d8_7) rfl ?_
  refine g_iloadN X1 hx (b d8_8) rfl ?_
  by_cases hc2 : (255 : Int32) < Xv0
  · refine own_cS X1 hx hZ hown (w47 hw) (w48 hw) (w45 hw) (w49 hw) (rm9_4 hw ov b1 kv Xv0 Xv1 Xv2 O1 (MF1.ext E1) hc2) e1 0 (by decide) (by decide) (by rw [hml]; rfl) [(.ref ov), (.int (0 : Int32)), (.ref b1), (.int (0 : Int32)), (.int (3 : Int32))] [] (lenOf pd_2 rfl) rfl rfl (Nat.le_of_eq rfl) (b d8_9) ?_
    rintro T3 _ L3 X3 ⟨rfl, M3, eh3⟩
    have N3 := Fr.app N0 M3
    refine g_istore X3 hx (b d8_12) (l' := #[.val (.ref ov), .val (.int (0 : Int32)), .val (.int (3 : Int32)), .val (.ref b1), .val (.int (0 : Int32)), .unset]) rfl ?_
    refine g_iload X3 hx (b d8_14) rfl ?_
    refine g_iloadN X3 hx (b d8_16) rfl ?_
    refine g_icmpNo X3 hx (b d8_17) (XT.ii_eq_f (by decide : ¬ ((0 : Int32) = (3 : Int32)))) ?_
    refine g_aloadN X3 hx (b d8_20) rfl rfl ?_
    refine g_iloadN X3 hx (b d8_21) rfl ?_
    refine g_iloadN X3 hx (b d8_22) rfl ?_
    refine own_cS X3 hx hZ hown (w50 hw) (w51 hw) (w45 hw) (w52 hw) (rm10_3 hw ov kv Xv0 Xv1 Xv2 O1 (MF1.ext E1) P9 P10 P11) eh3 0 (by decide) (by decide) (by rw [hml]; rfl) [(.ref ov), (.int (0 : Int32)), (.int (3 : Int32))] [] (lenOf pd_6 rfl) rfl rfl (Nat.le_of_eq rfl) (b d8_23) ?_
    rintro T4 _ L4 X4 ⟨b2_1_4, k2_1_4, rfl, M4, K4c, r4_0, r4_1⟩
    have N4 := Fr.app N3 M4
    have g_b2_1_4 : n0 ≤ b2_1_4 := Nat.le_trans (own_n0 O1) r4_0
    have s_b2_1_4 : h0.size ≤ b2_1_4 := Nat.le_trans K1.1 r4_0
    have O4 : Old Z n0 T4.heap := O1.keep K4c all0
    have K4 : Keep h0 T4.heap [] := K1.trans K4c all0
    refine g_astore X4 hx (b d8_26) rfl (l' := #[.val (.ref ov), .val (.int (0 : Int32)), .val (.int (3 : Int32)), .val (.ref b1), .val (.int (0 : Int32)), .val (.ref b2_1_4)]) rfl ?_
    refine g_aload X4 hx (b d8_28) rfl rfl ?_
    refine g_iload X4 hx (b d8_30) rfl ?_
    refine own_cS X4 hx hZ hown (w66 hw) (w67 hw) (w45 hw) (w68 hw) (rm14_5 hw b2_1_4 k2_1_4 Xv0 Xv1 Xv2 O4 P9 r4_1 P10 P11) rfl 0 (by decide) (by decide) (by rw [hml]; rfl) [(.ref b2_1_4), (.int (0 : Int32))] [] (lenOf pd_1 rfl) rfl rfl (Nat.le_of_eq rfl) (b d8_32) ?_
    rintro T5 _ L5 X5 ⟨rfl, M5, eh5⟩
    have N5 := Fr.app N4 M5
    refine g_sipush X5 hx (255) (b d8_35) rfl ?_
    have he6 := own_N0 Xv0 Mp1 Mp2
    have hn7 : (255 : Int32) < (own_c (own_c ((((own_b0 Xv0) &&& (255 : Int32)) <<< ((0 : Int32) &&& 31)) ||| (((own_b8 Xv0) &&& (255 : Int32)) <<< ((8 : Int32) &&& 31))))) := by
      rw [he6]
      exact hc2
    refine g_icmpYes X5 hx (pc := 38) 54 (b d8_38) (XT.ii_gt_t hn7) (by decide) ?_
    refine g_aload X5 hx (b d8_54) rfl rfl ?_
    exact own_eA X5 hx hret rfl rfl (b d8_56) eh5 (by decide) ⟨b2_1_4, k2_1_4, rfl, N5, K4, s_b2_1_4, r4_1⟩
  · by_cases hc8 : (255 : Int32) < Xv1
    · refine own_cS X1 hx hZ hown (w47 hw) (w48 hw) (w45 hw) (w49 hw) (rm9_5 hw ov b1 kv Xv0 Xv1 Xv2 k1 O1 (MF1.ext E1) hc2 V1 g_b1 (Nat.ne_of_lt (Nat.lt_of_lt_of_le MF1.lt (Nat.le_of_eq z1.symm))) hc8) e1 0 (by decide) (by decide) (by rw [hml]; rfl) [(.ref ov), (.int (0 : Int32)), (.ref b1), (.int (0 : Int32)), (.int (3 : Int32))] [] (lenOf pd_2 rfl) rfl rfl (Nat.le_of_eq rfl) (b d8_9) ?_
      rintro T9 _ L9 X9 ⟨rfl, M9, K9c, r9_0⟩
      have N9 := Fr.app N0 M9
      have O9 : Old Z n0 T9.heap := O1.keep K9c (allS g_b1 all0)
      have K9 : Keep h0 T9.heap [] := K1.trans K9c (allS (Or.inr s_b1) all0)
      refine g_istore X9 hx (b d8_12) (l' := #[.val (.ref ov), .val (.int (0 : Int32)), .val (.int (3 : Int32)), .val (.ref b1), .val (.int (1 : Int32)), .unset]) rfl ?_
      refine g_iload X9 hx (b d8_14) rfl ?_
      refine g_iloadN X9 hx (b d8_16) rfl ?_
      refine g_icmpNo X9 hx (b d8_17) (XT.ii_eq_f (by decide : ¬ ((1 : Int32) = (3 : Int32)))) ?_
      refine g_aloadN X9 hx (b d8_20) rfl rfl ?_
      refine g_iloadN X9 hx (b d8_21) rfl ?_
      refine g_iloadN X9 hx (b d8_22) rfl ?_
      have c10 := ((MF1.ext E1).keep K9c (ninS (Nat.ne_of_lt (Nat.lt_of_lt_of_le MF1.lt (Nat.le_of_eq z1.symm))) nin0))
      refine own_cS X9 hx hZ hown (w50 hw) (w51 hw) (w45 hw) (w52 hw) (rm10_3 hw ov kv Xv0 Xv1 Xv2 O9 c10 P9 P10 P11) rfl 0 (by decide) (by decide) (by rw [hml]; rfl) [(.ref ov), (.int (0 : Int32)), (.int (3 : Int32))] [] (lenOf pd_6 rfl) rfl rfl (Nat.le_of_eq rfl) (b d8_23) ?_
      rintro T11 _ L11 X11 ⟨b2_1_11, k2_1_11, rfl, M11, K11c, r11_0, r11_1⟩
      have N11 := Fr.app N9 M11
      have g_b2_1_11 : n0 ≤ b2_1_11 := Nat.le_trans (own_n0 O9) r11_0
      have s_b2_1_11 : h0.size ≤ b2_1_11 := Nat.le_trans K9.1 r11_0
      have O11 : Old Z n0 T11.heap := O9.keep K11c all0
      have K11 : Keep h0 T11.heap [] := K9.trans K11c all0
      refine g_astore X11 hx (b d8_26) rfl (l' := #[.val (.ref ov), .val (.int (0 : Int32)), .val (.int (3 : Int32)), .val (.ref b1), .val (.int (1 : Int32)), .val (.ref b2_1_11)]) rfl ?_
      refine g_aload X11 hx (b d8_28) rfl rfl ?_
      refine g_iload X11 hx (b d8_30) rfl ?_
      refine own_cS X11 hx hZ hown (w66 hw) (w67 hw) (w45 hw) (w68 hw) (rm14_3 hw b2_1_11 k2_1_11 Xv0 Xv1 Xv2 O11 P9 r11_1 P10 P11) rfl 0 (by decide) (by decide) (by rw [hml]; rfl) [(.ref b2_1_11), (.int (1 : Int32))] [] (lenOf pd_1 rfl) rfl rfl (Nat.le_of_eq rfl) (b d8_32) ?_
      rintro T12 _ L12 X12 ⟨rfl, M12, eh12⟩
      have N12 := Fr.app N11 M12
      refine g_sipush X12 hx (255) (b d8_35) rfl ?_
      have he13 := own_N0 Xv1 Mp3 Mp4
      have hn14 : (255 : Int32) < (own_c (own_c ((((own_b0 Xv1) &&& (255 : Int32)) <<< ((0 : Int32) &&& 31)) ||| (((own_b8 Xv1) &&& (255 : Int32)) <<< ((8 : Int32) &&& 31))))) := by
        rw [he13]
        exact hc8
      refine g_icmpYes X12 hx (pc := 38) 54 (b d8_38) (XT.ii_gt_t hn14) (by decide) ?_
      refine g_aload X12 hx (b d8_54) rfl rfl ?_
      exact own_eA X12 hx hret rfl rfl (b d8_56) eh12 (by decide) ⟨b2_1_11, k2_1_11, rfl, N12, K11, s_b2_1_11, r11_1⟩
    · have hp15 : (255 : Int32) < Xv2 := by
        have j1 := own_k32 (255 : Int32) (255) (by decide)
        have j2 := own_c32 (Xv2)
        have j3 := own_k32 (0 : Int32) (0) (by decide)
        have j4 := own_nlt32 Mp5
        have j5 := own_k32 (65535 : Int32) (65535) (by decide)
        have j6 := own_nlt32 Mp6
        have j7 : (0 : Int) ≤ (Xv2).toInt ∧ (Xv2).toInt ≤ 65535 := by constructor <;> omega
        have j8 := own_nlt32 Mp5
        have j9 := own_nlt32 Mp6
        have j10 := own_c32 (Xv0)
        have j11 := own_nlt32 Mp1
        have j12 := own_nlt32 Mp2
        have j13 := own_nlt32 hc2
        have j14 : (0 : Int) ≤ (Xv0).toInt ∧ (Xv0).toInt ≤ 255 := by constructor <;> omega
        have j15 := own_c32 (Xv1)
        have j16 := own_nlt32 Mp3
        have j17 := own_nlt32 Mp4
        have j18 := own_nlt32 hc8
        have j19 : (0 : Int) ≤ (Xv1).toInt ∧ (Xv1).toInt ≤ 255 := by constructor <;> omega
        have j20 := own_mxB Xv0 Xv1
        have j21 : (0 : Int) ≤ ((own_mx Xv0 Xv1)).toInt ∧ ((own_mx Xv0 Xv1)).toInt ≤ 255 := by constructor <;> omega
        have j22 := own_mxB (own_mx Xv0 Xv1) Xv2
        have j23 : (0 : Int) ≤ ((own_mx (own_mx Xv0 Xv1) Xv2)).toInt ∧ ((own_mx (own_mx Xv0 Xv1) Xv2)).toInt ≤ 65535 := by constructor <;> omega
        have j24 := Int32.lt_iff_toInt_lt.mp Mp7
        have j25 : (256 : Int) ≤ ((own_mx (own_mx Xv0 Xv1) Xv2)).toInt ∧ ((own_mx (own_mx Xv0 Xv1) Xv2)).toInt ≤ 65535 := by constructor <;> omega
        have j26 := Int32.lt_iff_toInt_lt.mp Mp7
        have j27 := own_nlt32 hc2
        have j28 := own_nlt32 hc8
        have j29 := own_nlt32 Mp1
        have j30 := own_nlt32 Mp2
        have j31 := own_nlt32 Mp3
        have j32 := own_nlt32 Mp4
        rw [Int32.lt_iff_toInt_lt]
        omega
      refine own_cS X1 hx hZ hown (w47 hw) (w48 hw) (w45 hw) (w49 hw) (rm9_6 hw ov b1 kv Xv0 Xv1 Xv2 k1 O1 (MF1.ext E1) hc2 V1 g_b1 (Nat.ne_of_lt (Nat.lt_of_lt_of_le MF1.lt (Nat.le_of_eq z1.symm))) hc8 hp15) e1 0 (by decide) (by decide) (by rw [hml]; rfl) [(.ref ov), (.int (0 : Int32)), (.ref b1), (.int (0 : Int32)), (.int (3 : Int32))] [] (lenOf pd_2 rfl) rfl rfl (Nat.le_of_eq rfl) (b d8_9) ?_
      rintro T16 _ L16 X16 ⟨rfl, M16, K16c, r16_0⟩
      have N16 := Fr.app N0 M16
      have O16 : Old Z n0 T16.heap := O1.keep K16c (allS g_b1 all0)
      have K16 : Keep h0 T16.heap [] := K1.trans K16c (allS (Or.inr s_b1) all0)
      refine g_istore X16 hx (b d8_12) (l' := #[.val (.ref ov), .val (.int (0 : Int32)), .val (.int (3 : Int32)), .val (.ref b1), .val (.int (2 : Int32)), .unset]) rfl ?_
      refine g_iload X16 hx (b d8_14) rfl ?_
      refine g_iloadN X16 hx (b d8_16) rfl ?_
      refine g_icmpNo X16 hx (b d8_17) (XT.ii_eq_f (by decide : ¬ ((2 : Int32) = (3 : Int32)))) ?_
      refine g_aloadN X16 hx (b d8_20) rfl rfl ?_
      refine g_iloadN X16 hx (b d8_21) rfl ?_
      refine g_iloadN X16 hx (b d8_22) rfl ?_
      have c17 := ((MF1.ext E1).keep K16c (ninS (Nat.ne_of_lt (Nat.lt_of_lt_of_le MF1.lt (Nat.le_of_eq z1.symm))) nin0))
      refine own_cS X16 hx hZ hown (w50 hw) (w51 hw) (w45 hw) (w52 hw) (rm10_3 hw ov kv Xv0 Xv1 Xv2 O16 c17 P9 P10 P11) rfl 0 (by decide) (by decide) (by rw [hml]; rfl) [(.ref ov), (.int (0 : Int32)), (.int (3 : Int32))] [] (lenOf pd_6 rfl) rfl rfl (Nat.le_of_eq rfl) (b d8_23) ?_
      rintro T18 _ L18 X18 ⟨b2_1_18, k2_1_18, rfl, M18, K18c, r18_0, r18_1⟩
      have N18 := Fr.app N16 M18
      have g_b2_1_18 : n0 ≤ b2_1_18 := Nat.le_trans (own_n0 O16) r18_0
      have s_b2_1_18 : h0.size ≤ b2_1_18 := Nat.le_trans K16.1 r18_0
      have O18 : Old Z n0 T18.heap := O16.keep K18c all0
      have K18 : Keep h0 T18.heap [] := K16.trans K18c all0
      refine g_astore X18 hx (b d8_26) rfl (l' := #[.val (.ref ov), .val (.int (0 : Int32)), .val (.int (3 : Int32)), .val (.ref b1), .val (.int (2 : Int32)), .val (.ref b2_1_18)]) rfl ?_
      refine g_aload X18 hx (b d8_28) rfl rfl ?_
      refine g_iload X18 hx (b d8_30) rfl ?_
      refine own_cS X18 hx hZ hown (w66 hw) (w67 hw) (w45 hw) (w68 hw) (rm14_4 hw b2_1_18 k2_1_18 Xv0 Xv1 Xv2 O18 P9 r18_1 P10 P11) rfl 0 (by decide) (by decide) (by rw [hml]; rfl) [(.ref b2_1_18), (.int (2 : Int32))] [] (lenOf pd_1 rfl) rfl rfl (Nat.le_of_eq rfl) (b d8_32) ?_
      rintro T19 _ L19 X19 ⟨rfl, M19, eh19⟩
      have N19 := Fr.app N18 M19
      refine g_sipush X19 hx (255) (b d8_35) rfl ?_
      have he20 := own_N0 Xv2 Mp5 Mp6
      have hn21 : (255 : Int32) < (own_c (own_c ((((own_b0 Xv2) &&& (255 : Int32)) <<< ((0 : Int32) &&& 31)) ||| (((own_b8 Xv2) &&& (255 : Int32)) <<< ((8 : Int32) &&& 31))))) := by
        rw [he20]
        exact hp15
      refine g_icmpYes X19 hx (pc := 38) 54 (b d8_38) (XT.ii_gt_t hn21) (by decide) ?_
      refine g_aload X19 hx (b d8_54) rfl rfl ?_
      exact own_eA X19 hx hret rfl rfl (b d8_56) eh19 (by decide) ⟨b2_1_18, k2_1_18, rfl, N19, K18, s_b2_1_18, r18_1⟩
theorem rm9_7 (hw : HW Z a0) (a1 a2 : Addr) (kz3 : ClassId) (p4 p5 p6 p7 : Int32) (O0 : Old Z n0 h0) (P1 : Arv Z h0 a1 kz3 .char (4 : Int32) [(.int p4), (.int p5), (.int p6), (.int p7)] (.int (0 : Int32))) (P2 : (255 : Int32) < p4) :
    MM l mn8 jdk_52_method_21_code 7 (some .int) (R4 0 0 0 0) #[(.ref a1), (.int (0 : Int32)), (.ref a2), (.int (0 : Int32)), (.int (4 : Int32))] Z h0 (fun v h L => v = some (.int (0 : Int32)) ∧ Fr n0 L ∧ h = h0) := by
  refine own_hN n0 rfl pn_2 ?_
  intro p e s m below meth c s₁ hx b hml hret hZ hown hnm X0 e0 N0
  refine own_ct (mkF m 0 #[.val (.ref a1), .val (.int (0 : Int32)), .val (.ref a2), .val (.int (0 : Int32)), .val (.int (4 : Int32)), .unset, .unset] []) rfl ?_
  refine g_iconst X0 hx (0) (b d9_0) rfl ?_
  refine g_istore X0 hx (b d9_1) (l' := #[.val (.ref a1), .val (.int (0 : Int32)), .val (.ref a2), .val (.int (0 : Int32)), .val (.int (4 : Int32)), .val (.int (0 : Int32)), .unset]) rfl ?_
  refine g_iload X0 hx (b d9_3) rfl ?_
  refine g_iload X0 hx (b d9_5) rfl ?_
  refine g_icmpNo X0 hx (b d9_7) (XT.ii_ge_f (by decide : (0 : Int32) < (4 : Int32))) ?_
  refine g_aloadN X0 hx (b d9_10) rfl rfl ?_
  refine g_iloadN X0 hx (b d9_11) rfl ?_
  obtain ⟨cl1, Ar1, q1, S1, M1, H1, G1⟩ := id P1
  have hin1 : ¬ ((0 : Int32) < 0 ∨ cl1.slots.size ≤ ((0 : Int32)).toNatClampNeg) := inb_of S1 ⟨by decide, by decide⟩
  have hat1 : cl1.slots[((0 : Int32)).toNatClampNeg]? = some (.int p4) := H1.at hin1 rfl
  refine Go.st (fun t k => X0.caload hx (j := (0 : Int32)) (v := (.int p4)) (by rw [e0]; exact Ar1.1) (State.isArrayOf_alike hZ.alike Ar1.2.1) Ar1.2.2 hin1 hat1 (g := (mkF m 12 #[.val (.ref a1), .val (.int (0 : Int32)), .val (.ref a2), .val (.int (0 : Int32)), .val (.int (4 : Int32)), .val (.int (0 : Int32)), .unset] [(.int (0 : Int32)), (.ref a1)])) rfl rfl (b d9_12) t k) ?_
  refine g_istore X0 hx (b d9_13) (l' := #[.val (.ref a1), .val (.int (0 : Int32)), .val (.ref a2), .val (.int (0 : Int32)), .val (.int (4 : Int32)), .val (.int (0 : Int32)), .val (.int p4)]) rfl ?_
  refine g_iload X0 hx (b d9_15) rfl ?_
  refine g_sipush X0 hx (255) (b d9_17) rfl ?_
  refine g_icmpNo X0 hx (b d9_20) (XT.ii_le_f P2) ?_
  refine g_iload X0 hx (b d9_23) rfl ?_
  exact own_eI X0 hx hret (b d9_25) e0 (by decide) ⟨rfl, N0, rfl⟩
theorem rm12_4 (hw : HW Z a0)  (O0 : Old Z n0 h0) :
    MM l mn9 jdk_52_method_3_code 1 (some .int) (R4 0 0 0 0) #[(.int (4 : Int32))] Z h0 (fun v h L => v = some (.int (8 : Int32)) ∧ Fr n0 L ∧ h = h0) := by
  refine own_hN n0 rfl pn_2 ?_
  intro p e s m below meth c s₁ hx b hml hret hZ hown hnm X0 e0 N0
  refine own_ct (mkF m 0 #[.val (.int (4 : Int32))] []) rfl ?_
  refine g_iloadN X0 hx (b d12_0) rfl ?_
  refine g_ifYes X0 hx (pc := 1) 12 (b d12_1) (XT.i0_ge_t (by decide : ¬ ((4 : Int32) < (0 : Int32)))) (by decide) ?_
  refine g_iloadN X0 hx (b d12_12) rfl ?_
  refine Go.st (fun t k => X0.ldcI hx hown (mvT hZ (w59 hw)) (g := (mkF m 13 #[.val (.int (4 : Int32))] [(.int (4 : Int32))])) rfl (b d12_13) k) ?_
  refine g_icmpYes X0 hx (pc := 15) 55 (b d12_15) (XT.ii_lt_t (by decide : (4 : Int32) < (1073741823 : Int32))) (by decide) ?_
  refine g_iloadN X0 hx (b d12_55) rfl ?_
  refine g_iconst X0 hx (1) (b d12_56) rfl ?_
  refine g_ishlZ X0 hx (8 : Int32) (b d12_57) rfl ?_
  exact own_eI X0 hx hret (b d12_58) e0 (by decide) ⟨rfl, N0, rfl⟩
theorem rm11_4 (hw : HW Z a0)  (O0 : Old Z n0 h0) :
    MM l mn10 jdk_52_method_2_code 1 (some (.array .byte)) (R4 1 1 8 12) #[(.int (4 : Int32))] Z h0 (fun v h L => ∃ (b2 : Addr) (k2 : ClassId), v = some (.ref b2) ∧ Fr n0 L ∧ Keep h0 h [] ∧ h0.size ≤ b2 ∧ Arv Z h b2 k2 .byte (8 : Int32) [(.int (0 : Int32)), (.int (0 : Int32)), (.int (0 : Int32)), (.int (0 : Int32)), (.int (0 : Int32)), (.int (0 : Int32)), (.int (0 : Int32)), (.int (0 : Int32))] (.int (0 : Int32))) := by
  refine own_hN n0 rfl pn_2 ?_
  intro p e s m below meth c s₁ hx b hml hret hZ hown hnm X0 e0 N0
  refine own_ct (mkF m 0 #[.val (.int (4 : Int32))] []) rfl ?_
  refine g_iloadN X0 hx (b d11_0) rfl ?_
  refine own_cS X0 hx hZ hown (w56 hw) (w57 hw) (w45 hw) (w58 hw) (rm12_4 hw O0) e0 0 (by decide) (by decide) (by rw [hml]; rfl) [(.int (4 : Int32))] [] (lenOf pd_3 rfl) rfl rfl (Nat.le_of_eq rfl) (b d11_1) ?_
  rintro T1 _ L1 X1 ⟨rfl, M1, eh1⟩
  have N1 := Fr.app N0 M1
  obtain ⟨T2, h2, k2, X2, e2, E2, A2, st2⟩ := newP X1 hx hZ (aty := .byte) (w26 hw) eh1 (g := (mkF m 4 #[.val (.int (4 : Int32))] [(.int (8 : Int32))])) rfl (b d11_4) rfl (by decide) (cap := 8) (by decide) (by decide) (by decide) (by decide)
  obtain ⟨b2, z2⟩ : ∃ z, z = h0.size := ⟨_, rfl⟩
  rw [← z2] at A2 st2
  have g_b2 : n0 ≤ b2 := Nat.le_trans (own_n0 O0) (Nat.le_of_eq z2.symm)
  have s_b2 : h0.size ≤ b2 := Nat.le_trans (Keep.refl h0 []).1 (Nat.le_of_eq z2.symm)
  have V2 : Arv Z h2 b2 k2 .byte (8 : Int32) [(.int (0 : Int32)), (.int (0 : Int32)), (.int (0 : Int32)), (.int (0 : Int32)), (.int (0 : Int32)), (.int (0 : Int32)), (.int (0 : Int32)), (.int (0 : Int32))] (.int (0 : Int32)) := (Arv.new A2 (by decide)).pad (pad_rep [] (.int (0 : Int32)) 8)
  have O2 : Old Z n0 h2 := O0.ext E2
  have K2 : Keep h0 h2 [] := (Keep.refl h0 []).ext E2
  refine Go.st st2 ?_
  exact own_eA X2 hx hret rfl rfl (b d11_6) e2 (by decide) ⟨b2, k2, rfl, N1, K2, s_b2, V2⟩
theorem rm13_7 (hw : HW Z a0) (a1 : Addr) (p2 : Int32) (kz3 : ClassId) (O0 : Old Z n0 h0) (P1 : Sta Z Z.heap "java/lang/StringUTF16" "$assertionsDisabled" "Z" (.int (1 : Int32))) (P2 : Sta Z Z.heap "java/lang/StringUTF16" "HI_BYTE_SHIFT" "I" (.int (0 : Int32))) (P3 : Arv Z h0 a1 kz3 .byte (8 : Int32) [(.int (0 : Int32)), (.int (0 : Int32)), (.int (0 : Int32)), (.int (0 : Int32)), (.int (0 : Int32)), (.int (0 : Int32)), (.int (0 : Int32)), (.int (0 : Int32))] (.int (0 : Int32))) (P4 : n0 ≤ a1) (P5 : Sta Z Z.heap "java/lang/StringUTF16" "LO_BYTE_SHIFT" "I" (.int (8 : Int32))) :
    MM l mn11 jdk_52_method_4_code 3 none (R4 0 0 0 0) #[(.ref a1), (.int (0 : Int32)), (.int p2)] Z h0 (fun v h L => v = none ∧ Fr n0 L ∧ Keep h0 h [a1] ∧ Arv Z h a1 kz3 .byte (8 : Int32) [(.int (own_b0 p2)), (.int (own_b8 p2)), (.int (0 : Int32)), (.int (0 : Int32)), (.int (0 : Int32)), (.int (0 : Int32)), (.int (0 : Int32)), (.int (0 : Int32))] (.int (0 : Int32))) := by
  refine own_hN n0 rfl pn_2 ?_
  intro p e s m below meth c s₁ hx b hml hret hZ hown hnm X0 e0 N0
  refine own_ct (mkF m 0 #[.val (.ref a1), .val (.int (0 : Int32)), .val (.int p2)] []) rfl ?_
  obtain ⟨T1, X1, e1, st1⟩ := getS2 X0 hx hZ hown (host := "") (Or.inl (w63 hw)) Via.refl e0 (P1.ext O0.2) (g := (mkF m 0 #[.val (.ref a1), .val (.int (0 : Int32)), .val (.int p2)] [])) rfl (b d13_0)
  refine Go.st st1 ?_
  refine g_ifYes X1 hx (pc := 3) 28 (b d13_3) (XT.i0_ne_t (by decide : ¬ ((1 : Int32) = (0 : Int32)))) (by decide) ?_
  refine g_iloadN X1 hx (b d13_28) rfl ?_
  refine g_iconst X1 hx (1) (b d13_29) rfl ?_
  refine g_ishlZ X1 hx (0 : Int32) (b d13_30) rfl ?_
  refine g_istoreN X1 hx (b d13_31) (l' := #[.val (.ref a1), .val (.int (0 : Int32)), .val (.int p2)]) rfl ?_
  refine g_aloadN X1 hx (b d13_32) rfl rfl ?_
  refine g_iloadN X1 hx (b d13_33) rfl ?_
  refine g_iinc X1 hx (b d13_34) rfl (l' := #[.val (.ref a1), .val (.int (1 : Int32)), .val (.int p2)]) rfl ?_
  refine g_iloadN X1 hx (b d13_37) rfl ?_
  obtain ⟨T2, X2, e2, st2⟩ := getS2 X1 hx hZ hown (host := "") (Or.inl (w64 hw)) Via.refl e1 (P2.ext O0.2) (g := (mkF m 38 #[.val (.ref a1), .val (.int (1 : Int32)), .val (.int p2)] [(.int p2), (.int (0 : Int32)), (.ref a1)])) rfl (b d13_38)
  refine Go.st st2 ?_
  refine g_ishr X2 hx (b d13_41) ?_
  refine g_i2bZ X2 hx ((p2 >>> ((0 : Int32) &&& 31)).toInt8.toInt32) (b d13_42) rfl ?_
  obtain ⟨cl3, Ar3, q3, S3, M3, H3, G3⟩ := id P3
  have hin3 : ¬ ((0 : Int32) < 0 ∨ cl3.slots.size ≤ ((0 : Int32)).toNatClampNeg) := inb_of S3 ⟨by decide, by decide⟩
  obtain ⟨T3, h3, X3, e3, W3, st3⟩ := stB X2 hx hZ e2 Ar3 (j := (0 : Int32)) hin3 (g := (mkF m 43 #[.val (.ref a1), .val (.int (1 : Int32)), .val (.int p2)] [(.int ((p2 >>> ((0 : Int32) &&& 31)).toInt8.toInt32)), (.int (0 : Int32)), (.ref a1)])) rfl rfl (b d13_43)
  have V3 : Arv Z h3 a1 kz3 .byte (8 : Int32) [(.int (own_b0 p2)), (.int (0 : Int32)), (.int (0 : Int32)), (.int (0 : Int32)), (.int (0 : Int32)), (.int (0 : Int32)), (.int (0 : Int32)), (.int (0 : Int32))] (.int (0 : Int32)) := Arv.set Ar3 q3 S3 M3 H3 G3 (fits_nar_byte _) W3 0 rfl (Nat.le_of_ble_eq_true rfl)
  have N3 := Fr.snoc X3 N0 P4
  have O3 : Old Z n0 h3 := O0.wr W3 P4
  have K3 : Keep h0 h3 [a1] := (Keep.refl h0 [a1]).wr W3 (Or.inl (List.mem_of_getElem? (i := 0) rfl))
  refine Go.st st3 ?_
  refine g_aloadN X3 hx (b d13_44) rfl rfl ?_
  refine g_iloadN X3 hx (b d13_45) rfl ?_
  refine g_iloadN X3 hx (b d13_46) rfl ?_
  obtain ⟨T4, X4, e4, st4⟩ := getS2 X3 hx hZ hown (host := "") (Or.inl (w65 hw)) Via.refl e3 (P5.ext O3.2) (g := (mkF m 47 #[.val (.ref a1), .val (.int (1 : Int32)), .val (.int p2)] [(.int p2), (.int (1 : Int32)), (.ref a1)])) rfl (b d13_47)
  refine Go.st st4 ?_
  refine g_ishr X4 hx (b d13_50) ?_
  refine g_i2bZ X4 hx ((p2 >>> ((8 : Int32) &&& 31)).toInt8.toInt32) (b d13_51) rfl ?_
  obtain ⟨cl5, Ar5, q5, S5, M5, H5, G5⟩ := id V3
  have hin5 : ¬ ((1 : Int32) < 0 ∨ cl5.slots.size ≤ ((1 : Int32)).toNatClampNeg) := inb_of S5 ⟨by decide, by decide⟩
  obtain ⟨T5, h5, X5, e5, W5, st5⟩ := stB X4 hx hZ e4 Ar5 (j := (1 : Int32)) hin5 (g := (mkF m 52 #[.val (.ref a1), .val (.int (1 : Int32)), .val (.int p2)] [(.int ((p2 >>> ((8 : Int32) &&& 31)).toInt8.toInt32)), (.int (1 : Int32)), (.ref a1)])) rfl rfl (b d13_52)
  have V5 : Arv Z h5 a1 kz3 .byte (8 : Int32) [(.int (own_b0 p2)), (.int (own_b8 p2)), (.int (0 : Int32)), (.int (0 : Int32)), (.int (0 : Int32)), (.int (0 : Int32)), (.int (0 : Int32)), (.int (0 : Int32))] (.int (0 : Int32)) := Arv.set Ar5 q5 S5 M5 H5 G5 (fits_nar_byte _) W5 1 rfl (Nat.le_of_ble_eq_true rfl)
  have N5 := Fr.snoc X5 N3 P4
  have O5 : Old Z n0 h5 := O3.wr W5 P4
  have K5 : Keep h0 h5 [a1] := K3.wr W5 (Or.inl (List.mem_of_getElem? (i := 0) rfl))
  refine Go.st st5 ?_
  exact own_eV X5 hx hret (b d13_53) e5 (by decide) ⟨rfl, N5, K5, V5⟩
theorem rm13_8 (hw : HW Z a0) (a1 : Addr) (p2 : Int32) (kz3 : ClassId) (p4 : Int32) (O0 : Old Z n0 h0) (P1 : Sta Z Z.heap "java/lang/StringUTF16" "$assertionsDisabled" "Z" (.int (1 : Int32))) (P2 : Sta Z Z.heap "java/lang/StringUTF16" "HI_BYTE_SHIFT" "I" (.int (0 : Int32))) (P3 : Arv Z h0 a1 kz3 .byte (8 : Int32) [(.int (own_b0 p4)), (.int (own_b8 p4)), (.int (0 : Int32)), (.int (0 : Int32)), (.int (0 : Int32)), (.int (0 : Int32)), (.int (0 : Int32)), (.int (0 : Int32))] (.int (0 : Int32))) (P4 : n0 ≤ a1) (P5 : Sta Z Z.heap "java/lang/StringUTF16" "LO_BYTE_SHIFT" "I" (.int (8 : Int32))) :
    MM l mn11 jdk_52_method_4_code 3 none (R4 0 0 0 0) #[(.ref a1), (.int (1 : Int32)), (.int p2)] Z h0 (fun v h L => v = none ∧ Fr n0 L ∧ Keep h0 h [a1] ∧ Arv Z h a1 kz3 .byte (8 : Int32) [(.int (own_b0 p4)), (.int (own_b8 p4)), (.int (own_b0 p2)), (.int (own_b8 p2)), (.int (0 : Int32)), (.int (0 : Int32)), (.int (0 : Int32)), (.int (0 : Int32))] (.int (0 : Int32))) := by
  refine own_hN n0 rfl pn_2 ?_
  intro p e s m below meth c s₁ hx b hml hret hZ hown hnm X0 e0 N0
  refine own_ct (mkF m 0 #[.val (.ref a1), .val (.int (1 : Int32)), .val (.int p2)] []) rfl ?_
  obtain ⟨T1, X1, e1, st1⟩ := getS2 X0 hx hZ hown (host := "") (Or.inl (w63 hw)) Via.refl e0 (P1.ext O0.2) (g := (mkF m 0 #[.val (.ref a1), .val (.int (1 : Int32)), .val (.int p2)] [])) rfl (b d13_0)
  refine Go.st st1 ?_
  refine g_ifYes X1 hx (pc := 3) 28 (b d13_3) (XT.i0_ne_t (by decide : ¬ ((1 : Int32) = (0 : Int32)))) (by decide) ?_
  refine g_iloadN X1 hx (b d13_28) rfl ?_
  refine g_iconst X1 hx (1) (b d13_29) rfl ?_
  refine g_ishlZ X1 hx (2 : Int32) (b d13_30) rfl ?_
  refine g_istoreN X1 hx (b d13_31) (l' := #[.val (.ref a1), .val (.int (2 : Int32)), .val (.int p2)]) rfl ?_
  refine g_aloadN X1 hx (b d13_32) rfl rfl ?_
  refine g_iloadN X1 hx (b d13_33) rfl ?_
  refine g_iinc X1 hx (b d13_34) rfl (l' := #[.val (.ref a1), .val (.int (3 : Int32)), .val (.int p2)]) rfl ?_
  refine g_iloadN X1 hx (b d13_37) rfl ?_
  obtain ⟨T2, X2, e2, st2⟩ := getS2 X1 hx hZ hown (host := "") (Or.inl (w64 hw)) Via.refl e1 (P2.ext O0.2) (g := (mkF m 38 #[.val (.ref a1), .val (.int (3 : Int32)), .val (.int p2)] [(.int p2), (.int (2 : Int32)), (.ref a1)])) rfl (b d13_38)
  refine Go.st st2 ?_
  refine g_ishr X2 hx (b d13_41) ?_
  refine g_i2bZ X2 hx ((p2 >>> ((0 : Int32) &&& 31)).toInt8.toInt32) (b d13_42) rfl ?_
  obtain ⟨cl3, Ar3, q3, S3, M3, H3, G3⟩ := id P3
  have hin3 : ¬ ((2 : Int32) < 0 ∨ cl3.slots.size ≤ ((2 : Int32)).toNatClampNeg) := inb_of S3 ⟨by decide, by decide⟩
  obtain ⟨T3, h3, X3, e3, W3, st3⟩ := stB X2 hx hZ e2 Ar3 (j := (2 : Int32)) hin3 (g := (mkF m 43 #[.val (.ref a1), .val (.int (3 : Int32)), .val (.int p2)] [(.int ((p2 >>> ((0 : Int32) &&& 31)).toInt8.toInt32)), (.int (2 : Int32)), (.ref a1)])) rfl rfl (b d13_43)
  have V3 : Arv Z h3 a1 kz3 .byte (8 : Int32) [(.int (own_b0 p4)), (.int (own_b8 p4)), (.int (own_b0 p2)), (.int (0 : Int32)), (.int (0 : Int32)), (.int (0 : Int32)), (.int (0 : Int32)), (.int (0 : Int32))] (.int (0 : Int32)) := Arv.set Ar3 q3 S3 M3 H3 G3 (fits_nar_byte _) W3 2 rfl (Nat.le_of_ble_eq_true rfl)
  have N3 := Fr.snoc X3 N0 P4
  have O3 : Old Z n0 h3 := O0.wr W3 P4
  have K3 : Keep h0 h3 [a1] := (Keep.refl h0 [a1]).wr W3 (Or.inl (List.mem_of_getElem? (i := 0) rfl))
  refine Go.st st3 ?_
  refine g_aloadN X3 hx (b d13_44) rfl rfl ?_
  refine g_iloadN X3 hx (b d13_45) rfl ?_
  refine g_iloadN X3 hx (b d13_46) rfl ?_
  obtain ⟨T4, X4, e4, st4⟩ := getS2 X3 hx hZ hown (host := "") (Or.inl (w65 hw)) Via.refl e3 (P5.ext O3.2) (g := (mkF m 47 #[.val (.ref a1), .val (.int (3 : Int32)), .val (.int p2)] [(.int p2), (.int (3 : Int32)), (.ref a1)])) rfl (b d13_47)
  refine Go.st st4 ?_
  refine g_ishr X4 hx (b d13_50) ?_
  refine g_i2bZ X4 hx ((p2 >>> ((8 : Int32) &&& 31)).toInt8.toInt32) (b d13_51) rfl ?_
  obtain ⟨cl5, Ar5, q5, S5, M5, H5, G5⟩ := id V3
  have hin5 : ¬ ((3 : Int32) < 0 ∨ cl5.slots.size ≤ ((3 : Int32)).toNatClampNeg) := inb_of S5 ⟨by decide, by decide⟩
  obtain ⟨T5, h5, X5, e5, W5, st5⟩ := stB X4 hx hZ e4 Ar5 (j := (3 : Int32)) hin5 (g := (mkF m 52 #[.val (.ref a1), .val (.int (3 : Int32)), .val (.int p2)] [(.int ((p2 >>> ((8 : Int32) &&& 31)).toInt8.toInt32)), (.int (3 : Int32)), (.ref a1)])) rfl rfl (b d13_52)
  have V5 : Arv Z h5 a1 kz3 .byte (8 : Int32) [(.int (own_b0 p4)), (.int (own_b8 p4)), (.int (own_b0 p2)), (.int (own_b8 p2)), (.int (0 : Int32)), (.int (0 : Int32)), (.int (0 : Int32)), (.int (0 : Int32))] (.int (0 : Int32)) := Arv.set Ar5 q5 S5 M5 H5 G5 (fits_nar_byte _) W5 3 rfl (Nat.le_of_ble_eq_true rfl)
  have N5 := Fr.snoc X5 N3 P4
  have O5 : Old Z n0 h5 := O3.wr W5 P4
  have K5 : Keep h0 h5 [a1] := K3.wr W5 (Or.inl (List.mem_of_getElem? (i := 0) rfl))
  refine Go.st st5 ?_
  exact own_eV X5 hx hret (b d13_53) e5 (by decide) ⟨rfl, N5, K5, V5⟩
theorem rm13_9 (hw : HW Z a0) (a1 : Addr) (p2 : Int32) (kz3 : ClassId) (p4 p5 : Int32) (O0 : Old Z n0 h0) (P1 : Sta Z Z.heap "java/lang/StringUTF16" "$assertionsDisabled" "Z" (.int (1 : Int32))) (P2 : Sta Z Z.heap "java/lang/StringUTF16" "HI_BYTE_SHIFT" "I" (.int (0 : Int32))) (P3 : Arv Z h0 a1 kz3 .byte (8 : Int32) [(.int (own_b0 p4)), (.int (own_b8 p4)), (.int (own_b0 p5)), (.int (own_b8 p5)), (.int (0 : Int32)), (.int (0 : Int32)), (.int (0 : Int32)), (.int (0 : Int32))] (.int (0 : Int32))) (P4 : n0 ≤ a1) (P5 : Sta Z Z.heap "java/lang/StringUTF16" "LO_BYTE_SHIFT" "I" (.int (8 : Int32))) :
    MM l mn11 jdk_52_method_4_code 3 none (R4 0 0 0 0) #[(.ref a1), (.int (2 : Int32)), (.int p2)] Z h0 (fun v h L => v = none ∧ Fr n0 L ∧ Keep h0 h [a1] ∧ Arv Z h a1 kz3 .byte (8 : Int32) [(.int (own_b0 p4)), (.int (own_b8 p4)), (.int (own_b0 p5)), (.int (own_b8 p5)), (.int (own_b0 p2)), (.int (own_b8 p2)), (.int (0 : Int32)), (.int (0 : Int32))] (.int (0 : Int32))) := by
  refine own_hN n0 rfl pn_2 ?_
  intro p e s m below meth c s₁ hx b hml hret hZ hown hnm X0 e0 N0
  refine own_ct (mkF m 0 #[.val (.ref a1), .val (.int (2 : Int32)), .val (.int p2)] []) rfl ?_
  obtain ⟨T1, X1, e1, st1⟩ := getS2 X0 hx hZ hown (host := "") (Or.inl (w63 hw)) Via.refl e0 (P1.ext O0.2) (g := (mkF m 0 #[.val (.ref a1), .val (.int (2 : Int32)), .val (.int p2)] [])) rfl (b d13_0)
  refine Go.st st1 ?_
  refine g_ifYes X1 hx (pc := 3) 28 (b d13_3) (XT.i0_ne_t (by decide : ¬ ((1 : Int32) = (0 : Int32)))) (by decide) ?_
  refine g_iloadN X1 hx (b d13_28) rfl ?_
  refine g_iconst X1 hx (1) (b d13_29) rfl ?_
  refine g_ishlZ X1 hx (4 : Int32) (b d13_30) rfl ?_
  refine g_istoreN X1 hx (b d13_31) (l' := #[.val (.ref a1), .val (.int (4 : Int32)), .val (.int p2)]) rfl ?_
  refine g_aloadN X1 hx (b d13_32) rfl rfl ?_
  refine g_iloadN X1 hx (b d13_33) rfl ?_
  refine g_iinc X1 hx (b d13_34) rfl (l' := #[.val (.ref a1), .val (.int (5 : Int32)), .val (.int p2)]) rfl ?_
  refine g_iloadN X1 hx (b d13_37) rfl ?_
  obtain ⟨T2, X2, e2, st2⟩ := getS2 X1 hx hZ hown (host := "") (Or.inl (w64 hw)) Via.refl e1 (P2.ext O0.2) (g := (mkF m 38 #[.val (.ref a1), .val (.int (5 : Int32)), .val (.int p2)] [(.int p2), (.int (4 : Int32)), (.ref a1)])) rfl (b d13_38)
  refine Go.st st2 ?_
  refine g_ishr X2 hx (b d13_41) ?_
  refine g_i2bZ X2 hx ((p2 >>> ((0 : Int32) &&& 31)).toInt8.toInt32) (b d13_42) rfl ?_
  obtain ⟨cl3, Ar3, q3, S3, M3, H3, G3⟩ := id P3
  have hin3 : ¬ ((4 : Int32) < 0 ∨ cl3.slots.size ≤ ((4 : Int32)).toNatClampNeg) := inb_of S3 ⟨by decide, by decide⟩
  obtain ⟨T3, h3, X3, e3, W3, st3⟩ := stB X2 hx hZ e2 Ar3 (j := (4 : Int32)) hin3 (g := (mkF m 43 #[.val (.ref a1), .val (.int (5 : Int32)), .val (.int p2)] [(.int ((p2 >>> ((0 : Int32) &&& 31)).toInt8.toInt32)), (.int (4 : Int32)), (.ref a1)])) rfl rfl (b d13_43)
  have V3 : Arv Z h3 a1 kz3 .byte (8 : Int32) [(.int (own_b0 p4)), (.int (own_b8 p4)), (.int (own_b0 p5)), (.int (own_b8 p5)), (.int (own_b0 p2)), (.int (0 : Int32)), (.int (0 : Int32)), (.int (0 : Int32))] (.int (0 : Int32)) := Arv.set Ar3 q3 S3 M3 H3 G3 (fits_nar_byte _) W3 4 rfl (Nat.le_of_ble_eq_true rfl)
  have N3 := Fr.snoc X3 N0 P4
  have O3 : Old Z n0 h3 := O0.wr W3 P4
  have K3 : Keep h0 h3 [a1] := (Keep.refl h0 [a1]).wr W3 (Or.inl (List.mem_of_getElem? (i := 0) rfl))
  refine Go.st st3 ?_
  refine g_aloadN X3 hx (b d13_44) rfl rfl ?_
  refine g_iloadN X3 hx (b d13_45) rfl ?_
  refine g_iloadN X3 hx (b d13_46) rfl ?_
  obtain ⟨T4, X4, e4, st4⟩ := getS2 X3 hx hZ hown (host := "") (Or.inl (w65 hw)) Via.refl e3 (P5.ext O3.2) (g := (mkF m 47 #[.val (.ref a1), .val (.int (5 : Int32)), .val (.int p2)] [(.int p2), (.int (5 : Int32)), (.ref a1)])) rfl (b d13_47)
  refine Go.st st4 ?_
  refine g_ishr X4 hx (b d13_50) ?_
  refine g_i2bZ X4 hx ((p2 >>> ((8 : Int32) &&& 31)).toInt8.toInt32) (b d13_51) rfl ?_
  obtain ⟨cl5, Ar5, q5, S5, M5, H5, G5⟩ := id V3
  have hin5 : ¬ ((5 : Int32) < 0 ∨ cl5.slots.size ≤ ((5 : Int32)).toNatClampNeg) := inb_of S5 ⟨by decide, by decide⟩
  obtain ⟨T5, h5, X5, e5, W5, st5⟩ := stB X4 hx hZ e4 Ar5 (j := (5 : Int32)) hin5 (g := (mkF m 52 #[.val (.ref a1), .val (.int (5 : Int32)), .val (.int p2)] [(.int ((p2 >>> ((8 : Int32) &&& 31)).toInt8.toInt32)), (.int (5 : Int32)), (.ref a1)])) rfl rfl (b d13_52)
  have V5 : Arv Z h5 a1 kz3 .byte (8 : Int32) [(.int (own_b0 p4)), (.int (own_b8 p4)), (.int (own_b0 p5)), (.int (own_b8 p5)), (.int (own_b0 p2)), (.int (own_b8 p2)), (.int (0 : Int32)), (.int (0 : Int32))] (.int (0 : Int32)) := Arv.set Ar5 q5 S5 M5 H5 G5 (fits_nar_byte _) W5 5 rfl (Nat.le_of_ble_eq_true rfl)
  have N5 := Fr.snoc X5 N3 P4
  have O5 : Old Z n0 h5 := O3.wr W5 P4
  have K5 : Keep h0 h5 [a1] := K3.wr W5 (Or.inl (List.mem_of_getElem? (i := 0) rfl))
  refine Go.st st5 ?_
  exact own_eV X5 hx hret (b d13_53) e5 (by decide) ⟨rfl, N5, K5, V5⟩
theorem rm13_10 (hw : HW Z a0) (a1 : Addr) (p2 : Int32) (kz3 : ClassId) (p4 p5 p6 : Int32) (O0 : Old Z n0 h0) (P1 : Sta Z Z.heap "java/lang/StringUTF16" "$assertionsDisabled" "Z" (.int (1 : Int32))) (P2 : Sta Z Z.heap "java/lang/StringUTF16" "HI_BYTE_SHIFT" "I" (.int (0 : Int32))) (P3 : Arv Z h0 a1 kz3 .byte (8 : Int32) [(.int (own_b0 p4)), (.int (own_b8 p4)), (.int (own_b0 p5)), (.int (own_b8 p5)), (.int (own_b0 p6)), (.int (own_b8 p6)), (.int (0 : Int32)), (.int (0 : Int32))] (.int (0 : Int32))) (P4 : n0 ≤ a1) (P5 : Sta Z Z.heap "java/lang/StringUTF16" "LO_BYTE_SHIFT" "I" (.int (8 : Int32))) :
    MM l mn11 jdk_52_method_4_code 3 none (R4 0 0 0 0) #[(.ref a1), (.int (3 : Int32)), (.int p2)] Z h0 (fun v h L => v = none ∧ Fr n0 L ∧ Keep h0 h [a1] ∧ Arv Z h a1 kz3 .byte (8 : Int32) [(.int (own_b0 p4)), (.int (own_b8 p4)), (.int (own_b0 p5)), (.int (own_b8 p5)), (.int (own_b0 p6)), (.int (own_b8 p6)), (.int (own_b0 p2)), (.int (own_b8 p2))] (.int (0 : Int32))) := by
  refine own_hN n0 rfl pn_2 ?_
  intro p e s m below meth c s₁ hx b hml hret hZ hown hnm X0 e0 N0
  refine own_ct (mkF m 0 #[.val (.ref a1), .val (.int (3 : Int32)), .val (.int p2)] []) rfl ?_
  obtain ⟨T1, X1, e1, st1⟩ := getS2 X0 hx hZ hown (host := "") (Or.inl (w63 hw)) Via.refl e0 (P1.ext O0.2) (g := (mkF m 0 #[.val (.ref a1), .val (.int (3 : Int32)), .val (.int p2)] [])) rfl (b d13_0)
  refine Go.st st1 ?_
  refine g_ifYes X1 hx (pc := 3) 28 (b d13_3) (XT.i0_ne_t (by decide : ¬ ((1 : Int32) = (0 : Int32)))) (by decide) ?_
  refine g_iloadN X1 hx (b d13_28) rfl ?_
  refine g_iconst X1 hx (1) (b d13_29) rfl ?_
  refine g_ishlZ X1 hx (6 : Int32) (b d13_30) rfl ?_
  refine g_istoreN X1 hx (b d13_31) (l' := #[.val (.ref a1), .val (.int (6 : Int32)), .val (.int p2)]) rfl ?_
  refine g_aloadN X1 hx (b d13_32) rfl rfl ?_
  refine g_iloadN X1 hx (b d13_33) rfl ?_
  refine g_iinc X1 hx (b d13_34) rfl (l' := #[.val (.ref a1), .val (.int (7 : Int32)), .val (.int p2)]) rfl ?_
  refine g_iloadN X1 hx (b d13_37) rfl ?_
  obtain ⟨T2, X2, e2, st2⟩ := getS2 X1 hx hZ hown (host := "") (Or.inl (w64 hw)) Via.refl e1 (P2.ext O0.2) (g := (mkF m 38 #[.val (.ref a1), .val (.int (7 : Int32)), .val (.int p2)] [(.int p2), (.int (6 : Int32)), (.ref a1)])) rfl (b d13_38)
  refine Go.st st2 ?_
  refine g_ishr X2 hx (b d13_41) ?_
  refine g_i2bZ X2 hx ((p2 >>> ((0 : Int32) &&& 31)).toInt8.toInt32) (b d13_42) rfl ?_
  obtain ⟨cl3, Ar3, q3, S3, M3, H3, G3⟩ := id P3
  have hin3 : ¬ ((6 : Int32) < 0 ∨ cl3.slots.size ≤ ((6 : Int32)).toNatClampNeg) := inb_of S3 ⟨by decide, by decide⟩
  obtain ⟨T3, h3, X3, e3, W3, st3⟩ := stB X2 hx hZ e2 Ar3 (j := (6 : Int32)) hin3 (g := (mkF m 43 #[.val (.ref a1), .val (.int (7 : Int32)), .val (.int p2)] [(.int ((p2 >>> ((0 : Int32) &&& 31)).toInt8.toInt32)), (.int (6 : Int32)), (.ref a1)])) rfl rfl (b d13_43)
  have V3 : Arv Z h3 a1 kz3 .byte (8 : Int32) [(.int (own_b0 p4)), (.int (own_b8 p4)), (.int (own_b0 p5)), (.int (own_b8 p5)), (.int (own_b0 p6)), (.int (own_b8 p6)), (.int (own_b0 p2)), (.int (0 : Int32))] (.int (0 : Int32)) := Arv.set Ar3 q3 S3 M3 H3 G3 (fits_nar_byte _) W3 6 rfl (Nat.le_of_ble_eq_true rfl)
  have N3 := Fr.snoc X3 N0 P4
  have O3 : Old Z n0 h3 := O0.wr W3 P4
  have K3 : Keep h0 h3 [a1] := (Keep.refl h0 [a1]).wr W3 (Or.inl (List.mem_of_getElem? (i := 0) rfl))
  refine Go.st st3 ?_
  refine g_aloadN X3 hx (b d13_44) rfl rfl ?_
  refine g_iloadN X3 hx (b d13_45) rfl ?_
  refine g_iloadN X3 hx (b d13_46) rfl ?_
  obtain ⟨T4, X4, e4, st4⟩ := getS2 X3 hx hZ hown (host := "") (Or.inl (w65 hw)) Via.refl e3 (P5.ext O3.2) (g := (mkF m 47 #[.val (.ref a1), .val (.int (7 : Int32)), .val (.int p2)] [(.int p2), (.int (7 : Int32)), (.ref a1)])) rfl (b d13_47)
  refine Go.st st4 ?_
  refine g_ishr X4 hx (b d13_50) ?_
  refine g_i2bZ X4 hx ((p2 >>> ((8 : Int32) &&& 31)).toInt8.toInt32) (b d13_51) rfl ?_
  obtain ⟨cl5, Ar5, q5, S5, M5, H5, G5⟩ := id V3
  have hin5 : ¬ ((7 : Int32) < 0 ∨ cl5.slots.size ≤ ((7 : Int32)).toNatClampNeg) := inb_of S5 ⟨by decide, by decide⟩
  obtain ⟨T5, h5, X5, e5, W5, st5⟩ := stB X4 hx hZ e4 Ar5 (j := (7 : Int32)) hin5 (g := (mkF m 52 #[.val (.ref a1), .val (.int (7 : Int32)), .val (.int p2)] [(.int ((p2 >>> ((8 : Int32) &&& 31)).toInt8.toInt32)), (.int (7 : Int32)), (.ref a1)])) rfl rfl (b d13_52)
  have V5 : Arv Z h5 a1 kz3 .byte (8 : Int32) [(.int (own_b0 p4)), (.int (own_b8 p4)), (.int (own_b0 p5)), (.int (own_b8 p5)), (.int (own_b0 p6)), (.int (own_b8 p6)), (.int (own_b0 p2)), (.int (own_b8 p2))] (.int (0 : Int32)) := Arv.set Ar5 q5 S5 M5 H5 G5 (fits_nar_byte _) W5 7 rfl (Nat.le_of_ble_eq_true rfl)
  have N5 := Fr.snoc X5 N3 P4
  have O5 : Old Z n0 h5 := O3.wr W5 P4
  have K5 : Keep h0 h5 [a1] := K3.wr W5 (Or.inl (List.mem_of_getElem? (i := 0) rfl))
  refine Go.st st5 ?_
  exact own_eV X5 hx hret (b d13_53) e5 (by decide) ⟨rfl, N5, K5, V5⟩
theorem rm10_4 (hw : HW Z a0) (a1 : Addr) (kz2 : ClassId) (p3 p4 p5 p6 : Int32) (O0 : Old Z n0 h0) (P1 : Arv Z h0 a1 kz2 .char (4 : Int32) [(.int p3), (.int p4), (.int p5), (.int p6)] (.int (0 : Int32))) (P2 : Sta Z Z.heap "java/lang/StringUTF16" "$assertionsDisabled" "Z" (.int (1 : Int32))) (P3 : Sta Z Z.heap "java/lang/StringUTF16" "HI_BYTE_SHIFT" "I" (.int (0 : Int32))) (P4 : Sta Z Z.heap "java/lang/StringUTF16" "LO_BYTE_SHIFT" "I" (.int (8 : Int32))) :
    MM l mn12 jdk_52_method_14_code 5 (some (.array .byte)) (R4 2 1 8 24) #[(.ref a1), (.int (0 : Int32)), (.int (4 : Int32))] Z h0 (fun v h L => ∃ (b2_1 : Addr) (k2_1 : ClassId), v = some (.ref b2_1) ∧ Fr n0 L ∧ Keep h0 h [] ∧ h0.size ≤ b2_1 ∧ Arv Z h b2_1 k2_1 .byte (8 : Int32) [(.int (own_b0 p3)), (.int (own_b8 p3)), (.int (own_b0 p4)), (.int (own_b8 p4)), (.int (own_b0 p5)), (.int (own_b8 p5)), (.int (own_b0 p6)), (.int (own_b8 p6))] (.int (0 : Int32))) := by
  refine own_hN n0 rfl pn_2 ?_
  intro p e s m below meth c s₁ hx b hml hret hZ hown hnm X0 e0 N0
  refine own_ct (mkF m 0 #[.val (.ref a1), .val (.int (0 : Int32)), .val (.int (4 : Int32)), .unset, .unset] []) rfl ?_
  refine g_iloadN X0 hx (b d10_0) rfl ?_
  refine own_cS X0 hx hZ hown (w53 hw) (w54 hw) (w45 hw) (w55 hw) (rm11_4 hw O0) e0 0 (by decide) (by decide) (by rw [hml]; rfl) [(.int (4 : Int32))] [] (lenOf pd_4 rfl) rfl rfl (Nat.le_of_eq rfl) (b d10_1) ?_
  rintro T1 _ L1 X1 ⟨b2_1, k2_1, rfl, M1, K1c, r1_0, r1_1⟩
  have N1 := Fr.app N0 M1
  have g_b2_1 : n0 ≤ b2_1 := Nat.le_trans (own_n0 O0) r1_0
  have s_b2_1 : h0.size ≤ b2_1 := Nat.le_trans (Keep.refl h0 []).1 r1_0
  have O1 : Old Z n0 T1.heap := O0.keep K1c all0
  have K1 : Keep h0 T1.heap [] := (Keep.refl h0 []).trans K1c all0
  refine g_astoreN X1 hx (b d10_4) rfl (l' := #[.val (.ref a1), .val (.int (0 : Int32)), .val (.int (4 : Int32)), .val (.ref b2_1), .unset]) rfl ?_
  refine g_iconst X1 hx (0) (b d10_5) rfl ?_
  refine g_istore X1 hx (b d10_6) (l' := #[.val (.ref a1), .val (.int (0 : Int32)), .val (.int (4 : Int32)), .val (.ref b2_1), .val (.int (0 : Int32))]) rfl ?_
  refine g_iload X1 hx (b d10_8) rfl ?_
  refine g_iloadN X1 hx (b d10_10) rfl ?_
  refine g_icmpNo X1 hx (b d10_11) (XT.ii_ge_f (by decide : (0 : Int32) < (4 : Int32))) ?_
  refine g_aloadN X1 hx (b d10_14) rfl rfl ?_
  refine g_iload X1 hx (b d10_15) rfl ?_
  refine g_aloadN X1 hx (b d10_17) rfl rfl ?_
  refine g_iloadN X1 hx (b d10_18) rfl ?_
  obtain ⟨cl2, Ar2, q2, S2, M2, H2, G2⟩ := id (P1.keep K1c nin0)
  have hin2 : ¬ ((0 : Int32) < 0 ∨ cl2.slots.size ≤ ((0 : Int32)).toNatClampNeg) := inb_of S2 ⟨by decide, by decide⟩
  have hat2 : cl2.slots[((0 : Int32)).toNatClampNeg]? = some (.int p3) := H2.at hin2 rfl
  refine Go.st (fun t k => X1.caload hx (j := (0 : Int32)) (v := (.int p3)) Ar2.1 (State.isArrayOf_alike hZ.alike Ar2.2.1) Ar2.2.2 hin2 hat2 (g := (mkF m 19 #[.val (.ref a1), .val (.int (0 : Int32)), .val (.int (4 : Int32)), .val (.ref b2_1), .val (.int (0 : Int32))] [(.int (0 : Int32)), (.ref a1), (.int (0 : Int32)), (.ref b2_1)])) rfl rfl (b d10_19) t k) ?_
  refine own_cS X1 hx hZ hown (w60 hw) (w61 hw) (w45 hw) (w62 hw) (rm13_7 hw b2_1 p3 k2_1 O1 P2 P3 r1_1 g_b2_1 P4) rfl 0 (by decide) (by decide) (by rw [hml]; rfl) [(.ref b2_1), (.int (0 : Int32)), (.int p3)] [] (lenOf pd_5 rfl) rfl rfl (Nat.le_of_eq rfl) (b d10_20) ?_
  rintro T3 _ L3 X3 ⟨rfl, M3, K3c, r3_0⟩
  have N3 := Fr.app N1 M3
  have O3 : Old Z n0 T3.heap := O1.keep K3c (allS g_b2_1 all0)
  have K3 : Keep h0 T3.heap [] := K1.trans K3c (allS (Or.inr s_b2_1) all0)
  refine g_iinc X3 hx (b d10_23) rfl (l' := #[.val (.ref a1), .val (.int (1 : Int32)), .val (.int (4 : Int32)), .val (.ref b2_1), .val (.int (0 : Int32))]) rfl ?_
  refine g_iinc X3 hx (b d10_26) rfl (l' := #[.val (.ref a1), .val (.int (1 : Int32)), .val (.int (4 : Int32)), .val (.ref b2_1), .val (.int (1 : Int32))]) rfl ?_
  refine g_goto X3 hx (pc := 29) 8 (b d10_29) (by decide) ?_
  refine g_iload X3 hx (b d10_8) rfl ?_
  refine g_iloadN X3 hx (b d10_10) rfl ?_
  refine g_icmpNo X3 hx (b d10_11) (XT.ii_ge_f (by decide : (1 : Int32) < (4 : Int32))) ?_
  refine g_aloadN X3 hx (b d10_14) rfl rfl ?_
  refine g_iload X3 hx (b d10_15) rfl ?_
  refine g_aloadN X3 hx (b d10_17) rfl rfl ?_
  refine g_iloadN X3 hx (b d10_18) rfl ?_
  have c4 := ((P1.keep K1c nin0).keep K3c (ninS (Nat.ne_of_lt (Nat.lt_of_lt_of_le P1.lt r1_0)) nin0))
  obtain ⟨cl5, Ar5, q5, S5, M5, H5, G5⟩ := id c4
  have hin5 : ¬ ((1 : Int32) < 0 ∨ cl5.slots.size ≤ ((1 : Int32)).toNatClampNeg) := inb_of S5 ⟨by decide, by decide⟩
  have hat5 : cl5.slots[((1 : Int32)).toNatClampNeg]? = some (.int p4) := H5.at hin5 rfl
  refine Go.st (fun t k => X3.caload hx (j := (1 : Int32)) (v := (.int p4)) Ar5.1 (State.isArrayOf_alike hZ.alike Ar5.2.1) Ar5.2.2 hin5 hat5 (g := (mkF m 19 #[.val (.ref a1), .val (.int (1 : Int32)), .val (.int (4 : Int32)), .val (.ref b2_1), .val (.int (1 : Int32))] [(.int (1 : Int32)), (.ref a1), (.int (1 : Int32)), (.ref b2_1)])) rfl rfl (b d10_19) t k) ?_
  refine own_cS X3 hx hZ hown (w60 hw) (w61 hw) (w45 hw) (w62 hw) (rm13_8 hw b2_1 p4 k2_1 p3 O3 P2 P3 r3_0 g_b2_1 P4) rfl 0 (by decide) (by decide) (by rw [hml]; rfl) [(.ref b2_1), (.int (1 : Int32)), (.int p4)] [] (lenOf pd_5 rfl) rfl rfl (Nat.le_of_eq rfl) (b d10_20) ?_
  rintro T6 _ L6 X6 ⟨rfl, M6, K6c, r6_0⟩
  have N6 := Fr.app N3 M6
  have O6 : Old Z n0 T6.heap := O3.keep K6c (allS g_b2_1 all0)
  have K6 : Keep h0 T6.heap [] := K3.trans K6c (allS (Or.inr s_b2_1) all0)
  refine g_iinc X6 hx (b d10_23) rfl (l' := #[.val (.ref a1), .val (.int (2 : Int32)), .val (.int (4 : Int32)), .val (.ref b2_1), .val (.int (1 : Int32))]) rfl ?_
  refine g_iinc X6 hx (b d10_26) rfl (l' := #[.val (.ref a1), .val (.int (2 : Int32)), .val (.int (4 : Int32)), .val (.ref b2_1), .val (.int (2 : Int32))]) rfl ?_
  refine g_goto X6 hx (pc := 29) 8 (b d10_29) (by decide) ?_
  refine g_iload X6 hx (b d10_8) rfl ?_
  refine g_iloadN X6 hx (b d10_10) rfl ?_
  refine g_icmpNo X6 hx (b d10_11) (XT.ii_ge_f (by decide : (2 : Int32) < (4 : Int32))) ?_
  refine g_aloadN X6 hx (b d10_14) rfl rfl ?_
  refine g_iload X6 hx (b d10_15) rfl ?_
  refine g_aloadN X6 hx (b d10_17) rfl rfl ?_
  refine g_iloadN X6 hx (b d10_18) rfl ?_
  have c7 := (c4.keep K6c (ninS (Nat.ne_of_lt (Nat.lt_of_lt_of_le P1.lt r1_0)) nin0))
  obtain ⟨cl8, Ar8, q8, S8, M8, H8, G8⟩ := id c7
  have hin8 : ¬ ((2 : Int32) < 0 ∨ cl8.slots.size ≤ ((2 : Int32)).toNatClampNeg) := inb_of S8 ⟨by decide, by decide⟩
  have hat8 : cl8.slots[((2 : Int32)).toNatClampNeg]? = some (.int p5) := H8.at hin8 rfl
  refine Go.st (fun t k => X6.caload hx (j := (2 : Int32)) (v := (.int p5)) Ar8.1 (State.isArrayOf_alike hZ.alike Ar8.2.1) Ar8.2.2 hin8 hat8 (g := (mkF m 19 #[.val (.ref a1), .val (.int (2 : Int32)), .val (.int (4 : Int32)), .val (.ref b2_1), .val (.int (2 : Int32))] [(.int (2 : Int32)), (.ref a1), (.int (2 : Int32)), (.ref b2_1)])) rfl rfl (b d10_19) t k) ?_
  refine own_cS X6 hx hZ hown (w60 hw) (w61 hw) (w45 hw) (w62 hw) (rm13_9 hw b2_1 p5 k2_1 p3 p4 O6 P2 P3 r6_0 g_b2_1 P4) rfl 0 (by decide) (by decide) (by rw [hml]; rfl) [(.ref b2_1), (.int (2 : Int32)), (.int p5)] [] (lenOf pd_5 rfl) rfl rfl (Nat.le_of_eq rfl) (b d10_20) ?_
  rintro T9 _ L9 X9 ⟨rfl, M9, K9c, r9_0⟩
  have N9 := Fr.app N6 M9
  have O9 : Old Z n0 T9.heap := O6.keep K9c (allS g_b2_1 all0)
  have K9 : Keep h0 T9.heap [] := K6.trans K9c (allS (Or.inr s_b2_1) all0)
  refine g_iinc X9 hx (b d10_23) rfl (l' := #[.val (.ref a1), .val (.int (3 : Int32)), .val (.int (4 : Int32)), .val (.ref b2_1), .val (.int (2 : Int32))]) rfl ?_
  refine g_iinc X9 hx (b d10_26) rfl (l' := #[.val (.ref a1), .val (.int (3 : Int32)), .val (.int (4 : Int32)), .val (.ref b2_1), .val (.int (3 : Int32))]) rfl ?_
  refine g_goto X9 hx (pc := 29) 8 (b d10_29) (by decide) ?_
  refine g_iload X9 hx (b d10_8) rfl ?_
  refine g_iloadN X9 hx (b d10_10) rfl ?_
  refine g_icmpNo X9 hx (b d10_11) (XT.ii_ge_f (by decide : (3 : Int32) < (4 : Int32))) ?_
  refine g_aloadN X9 hx (b d10_14) rfl rfl ?_
  refine g_iload X9 hx (b d10_15) rfl ?_
  refine g_aloadN X9 hx (b d10_17) rfl rfl ?_
  refine g_iloadN X9 hx (b d10_18) rfl ?_
  have c10 := (c7.keep K9c (ninS (Nat.ne_of_lt (Nat.lt_of_lt_of_le P1.lt r1_0)) nin0))
  obtain ⟨cl11, Ar11, q11, S11, M11, H11, G11⟩ := id c10
  have hin11 : ¬ ((3 : Int32) < 0 ∨ cl11.slots.size ≤ ((3 : Int32)).toNatClampNeg) := inb_of S11 ⟨by decide, by decide⟩
  have hat11 : cl11.slots[((3 : Int32)).toNatClampNeg]? = some (.int p6) := H11.at hin11 rfl
  refine Go.st (fun t k => X9.caload hx (j := (3 : Int32)) (v := (.int p6)) Ar11.1 (State.isArrayOf_alike hZ.alike Ar11.2.1) Ar11.2.2 hin11 hat11 (g := (mkF m 19 #[.val (.ref a1), .val (.int (3 : Int32)), .val (.int (4 : Int32)), .val (.ref b2_1), .val (.int (3 : Int32))] [(.int (3 : Int32)), (.ref a1), (.int (3 : Int32)), (.ref b2_1)])) rfl rfl (b d10_19) t k) ?_
  refine own_cS X9 hx hZ hown (w60 hw) (w61 hw) (w45 hw) (w62 hw) (rm13_10 hw b2_1 p6 k2_1 p3 p4 p5 O9 P2 P3 r9_0 g_b2_1 P4) rfl 0 (by decide) (by decide) (by rw [hml]; rfl) [(.ref b2_1), (.int (3 : Int32)), (.int p6)] [] (lenOf pd_5 rfl) rfl rfl (Nat.le_of_eq rfl) (b d10_20) ?_
  rintro T12 _ L12 X12 ⟨rfl, M12, K12c, r12_0⟩
  have N12 := Fr.app N9 M12
  have O12 : Old Z n0 T12.heap := O9.keep K12c (allS g_b2_1 all0)
  have K12 : Keep h0 T12.heap [] := K9.trans K12c (allS (Or.inr s_b2_1) all0)
  refine g_iinc X12 hx (b d10_23) rfl (l' := #[.val (.ref a1), .val (.int (4 : Int32)), .val (.int (4 : Int32)), .val (.ref b2_1), .val (.int (3 : Int32))]) rfl ?_
  refine g_iinc X12 hx (b d10_26) rfl (l' := #[.val (.ref a1), .val (.int (4 : Int32)), .val (.int (4 : Int32)), .val (.ref b2_1), .val (.int (4 : Int32))]) rfl ?_
  refine g_goto X12 hx (pc := 29) 8 (b d10_29) (by decide) ?_
  refine g_iload X12 hx (b d10_8) rfl ?_
  refine g_iloadN X12 hx (b d10_10) rfl ?_
  refine g_icmpYes X12 hx (pc := 11) 32 (b d10_11) (XT.ii_ge_t (by decide : ¬ ((4 : Int32) < (4 : Int32)))) (by decide) ?_
  refine g_aloadN X12 hx (b d10_32) rfl rfl ?_
  exact own_eA X12 hx hret rfl rfl (b d10_33) rfl (by decide) ⟨b2_1, k2_1, rfl, N12, K12, s_b2_1, r12_0⟩
theorem rm9_8 (hw : HW Z a0) (a1 a2 : Addr) (kz3 : ClassId) (p4 p5 p6 p7 : Int32) (kz8 : ClassId) (O0 : Old Z n0 h0) (P1 : Arv Z h0 a1 kz3 .char (4 : Int32) [(.int p4), (.int p5), (.int p6), (.int p7)] (.int (0 : Int32))) (P2 : ¬ ((255 : Int32) < p4)) (P3 : Arv Z h0 a2 kz8 .byte (4 : Int32) [(.int (0 : Int32)), (.int (0 : Int32)), (.int (0 : Int32)), (.int (0 : Int32))] (.int (0 : Int32))) (P4 : n0 ≤ a2) (P5 : a1 ≠ a2) (P6 : (255 : Int32) < p5) :
    MM l mn8 jdk_52_method_21_code 7 (some .int) (R4 0 0 0 0) #[(.ref a1), (.int (0 : Int32)), (.ref a2), (.int (0 : Int32)), (.int (4 : Int32))] Z h0 (fun v h L => v = some (.int (1 : Int32)) ∧ Fr n0 L ∧ Keep h0 h [a2] ∧ Arv Z h a2 kz8 .byte (4 : Int32) [(.int ((p4.toInt8.toInt32).toInt8.toInt32)), (.int (0 : Int32)), (.int (0 : Int32)), (.int (0 : Int32))] (.int (0 : Int32))) := by
  refine own_hN n0 rfl pn_2 ?_
  intro p e s m below meth c s₁ hx b hml hret hZ hown hnm X0 e0 N0
  refine own_ct (mkF m 0 #[.val (.ref a1), .val (.int (0 : Int32)), .val (.ref a2), .val (.int (0 : Int32)), .val (.int (4 : Int32)), .unset, .unset] []) rfl ?_
  refine g_iconst X0 hx (0) (b d9_0) rfl ?_
  refine g_istore X0 hx (b d9_1) (l' := #[.val (.ref a1), .val (.int (0 : Int32)), .val (.ref a2), .val (.int (0 : Int32)), .val (.int (4 : Int32)), .val (.int (0 : Int32)), .unset]) rfl ?_
  refine g_iload X0 hx (b d9_3) rfl ?_
  refine g_iload X0 hx (b d9_5) rfl ?_
  refine g_icmpNo X0 hx (b d9_7) (XT.ii_ge_f (by decide : (0 : Int32) < (4 : Int32))) ?_
  refine g_aloadN X0 hx (b d9_10) rfl rfl ?_
  refine g_iloadN X0 hx (b d9_11) rfl ?_
  obtain ⟨cl1, Ar1, q1, S1, M1, H1, G1⟩ := id P1
  have hin1 : ¬ ((0 : Int32) < 0 ∨ cl1.slots.size ≤ ((0 : Int32)).toNatClampNeg) := inb_of S1 ⟨by decide, by decide⟩
  have hat1 : cl1.slots[((0 : Int32)).toNatClampNeg]? = some (.int p4) := H1.at hin1 rfl
  refine Go.st (fun t k => X0.caload hx (j := (0 : Int32)) (v := (.int p4)) (by rw [e0]; exact Ar1.1) (State.isArrayOf_alike hZ.alike Ar1.2.1) Ar1.2.2 hin1 hat1 (g := (mkF m 12 #[.val (.ref a1), .val (.int (0 : Int32)), .val (.ref a2), .val (.int (0 : Int32)), .val (.int (4 : Int32)), .val (.int (0 : Int32)), .unset] [(.int (0 : Int32)), (.ref a1)])) rfl rfl (b d9_12) t k) ?_
  refine g_istore X0 hx (b d9_13) (l' := #[.val (.ref a1), .val (.int (0 : Int32)), .val (.ref a2), .val (.int (0 : Int32)), .val (.int (4 : Int32)), .val (.int (0 : Int32)), .val (.int p4)]) rfl ?_
  refine g_iload X0 hx (b d9_15) rfl ?_
  refine g_sipush X0 hx (255) (b d9_17) rfl ?_
  refine g_icmpYes X0 hx (pc := 20) 26 (b d9_20) (XT.ii_le_t P2) (by decide) ?_
  refine g_aloadN X0 hx (b d9_26) rfl rfl ?_
  refine g_iloadN X0 hx (b d9_27) rfl ?_
  refine g_iload X0 hx (b d9_28) rfl ?_
  refine g_i2bZ X0 hx (p4.toInt8.toInt32) (b d9_30) rfl ?_
  obtain ⟨cl2, Ar2, q2, S2, M2, H2, G2⟩ := id P3
  have hin2 : ¬ ((0 : Int32) < 0 ∨ cl2.slots.size ≤ ((0 : Int32)).toNatClampNeg) := inb_of S2 ⟨by decide, by decide⟩
  obtain ⟨T2, h2, X2, e2, W2, st2⟩ := stB X0 hx hZ e0 Ar2 (j := (0 : Int32)) hin2 (g := (mkF m 31 #[.val (.ref a1), .val (.int (0 : Int32)), .val (.ref a2), .val (.int (0 : Int32)), .val (.int (4 : Int32)), .val (.int (0 : Int32)), .val (.int p4)] [(.int (p4.toInt8.toInt32)), (.int (0 : Int32)), (.ref a2)])) rfl rfl (b d9_31)
  have V2 : Arv Z h2 a2 kz8 .byte (4 : Int32) [(.int ((p4.toInt8.toInt32).toInt8.toInt32)), (.int (0 : Int32)), (.int (0 : Int32)), (.int (0 : Int32))] (.int (0 : Int32)) := Arv.set Ar2 q2 S2 M2 H2 G2 (fits_nar_byte _) W2 0 rfl (Nat.le_of_ble_eq_true rfl)
  have N2 := Fr.snoc X2 N0 P4
  have O2 : Old Z n0 h2 := O0.wr W2 P4
  have K2 : Keep h0 h2 [a2] := (Keep.refl h0 [a2]).wr W2 (Or.inl (List.mem_of_getElem? (i := 0) rfl))
  refine Go.st st2 ?_
  refine g_iinc X2 hx (b d9_32) rfl (l' := #[.val (.ref a1), .val (.int (1 : Int32)), .val (.ref a2), .val (.int (0 : Int32)), .val (.int (4 : Int32)), .val (.int (0 : Int32)), .val (.int p4)]) rfl ?_
  refine g_iinc X2 hx (b d9_35) rfl (l' := #[.val (.ref a1), .val (.int (1 : Int32)), .val (.ref a2), .val (.int (1 : Int32)), .val (.int (4 : Int32)), .val (.int (0 : Int32)), .val (.int p4)]) rfl ?_
  refine g_iinc X2 hx (b d9_38) rfl (l' := #[.val (.ref a1), .val (.int (1 : Int32)), .val (.ref a2), .val (.int (1 : Int32)), .val (.int (4 : Int32)), .val (.int (1 : Int32)), .val (.int p4)]) rfl ?_
  refine g_goto X2 hx (pc := 41) 3 (b d9_41) (by decide) ?_
  refine g_iload X2 hx (b d9_3) rfl ?_
  refine g_iload X2 hx (b d9_5) rfl ?_
  refine g_icmpNo X2 hx (b d9_7) (XT.ii_ge_f (by decide : (1 : Int32) < (4 : Int32))) ?_
  refine g_aloadN X2 hx (b d9_10) rfl rfl ?_
  refine g_iloadN X2 hx (b d9_11) rfl ?_
  obtain ⟨cl3, Ar3, q3, S3, M3, H3, G3⟩ := id (P1.other W2 P5)
  have hin3 : ¬ ((1 : Int32) < 0 ∨ cl3.slots.size ≤ ((1 : Int32)).toNatClampNeg) := inb_of S3 ⟨by decide, by decide⟩
  have hat3 : cl3.slots[((1 : Int32)).toNatClampNeg]? = some (.int p5) := H3.at hin3 rfl
  refine Go.st (fun t k => X2.caload hx (j := (1 : Int32)) (v := (.int p5)) (by rw [e2]; exact Ar3.1) (State.isArrayOf_alike hZ.alike Ar3.2.1) Ar3.2.2 hin3 hat3 (g := (mkF m 12 #[.val (.ref a1), .val (.int (1 : Int32)), .val (.ref a2), .val (.int (1 : Int32)), .val (.int (4 : Int32)), .val (.int (1 : Int32)), .val (.int p4)] [(.int (1 : Int32)), (.ref a1)])) rfl rfl (b d9_12) t k) ?_
  refine g_istore X2 hx (b d9_13) (l' := #[.val (.ref a1), .val (.int (1 : Int32)), .val (.ref a2), .val (.int (1 : Int32)), .val (.int (4 : Int32)), .val (.int (1 : Int32)), .val (.int p5)]) rfl ?_
  refine g_iload X2 hx (b d9_15) rfl ?_
  refine g_sipush X2 hx (255) (b d9_17) rfl ?_
  refine g_icmpNo X2 hx (b d9_20) (XT.ii_le_f P6) ?_
  refine g_iload X2 hx (b d9_23) rfl ?_
  exact own_eI X2 hx hret (b d9_25) e2 (by decide) ⟨rfl, N2, K2, V2⟩
theorem rm9_9 (hw : HW Z a0) (a1 a2 : Addr) (kz3 : ClassId) (p4 p5 p6 p7 : Int32) (kz8 : ClassId) (O0 : Old Z n0 h0) (P1 : Arv Z h0 a1 kz3 .char (4 : Int32) [(.int p4), (.int p5), (.int p6), (.int p7)] (.int (0 : Int32))) (P2 : ¬ ((255 : Int32) < p4)) (P3 : Arv Z h0 a2 kz8 .byte (4 : Int32) [(.int (0 : Int32)), (.int (0 : Int32)), (.int (0 : Int32)), (.int (0 : Int32))] (.int (0 : Int32))) (P4 : n0 ≤ a2) (P5 : a1 ≠ a2) (P6 : ¬ ((255 : Int32) < p5)) (P7 : (255 : Int32) < p6) :
    MM l mn8 jdk_52_method_21_code 7 (some .int) (R4 0 0 0 0) #[(.ref a1), (.int (0 : Int32)), (.ref a2), (.int (0 : Int32)), (.int (4 : Int32))] Z h0 (fun v h L => v = some (.int (2 : Int32)) ∧ Fr n0 L ∧ Keep h0 h [a2] ∧ Arv Z h a2 kz8 .byte (4 : Int32) [(.int ((p4.toInt8.toInt32).toInt8.toInt32)), (.int ((p5.toInt8.toInt32).toInt8.toInt32)), (.int (0 : Int32)), (.int (0 : Int32))] (.int (0 : Int32))) := by
  refine own_hN n0 rfl pn_2 ?_
  intro p e s m below meth c s₁ hx b hml hret hZ hown hnm X0 e0 N0
  refine own_ct (mkF m 0 #[.val (.ref a1), .val (.int (0 : Int32)), .val (.ref a2), .val (.int (0 : Int32)), .val (.int (4 : Int32)), .unset, .unset] []) rfl ?_
  refine g_iconst X0 hx (0) (b d9_0) rfl ?_
  refine g_istore X0 hx (b d9_1) (l' := #[.val (.ref a1), .val (.int (0 : Int32)), .val (.ref a2), .val (.int (0 : Int32)), .val (.int (4 : Int32)), .val (.int (0 : Int32)), .unset]) rfl ?_
  refine g_iload X0 hx (b d9_3) rfl ?_
  refine g_iload X0 hx (b d9_5) rfl ?_
  refine g_icmpNo X0 hx (b d9_7) (XT.ii_ge_f (by decide : (0 : Int32) < (4 : Int32))) ?_
  refine g_aloadN X0 hx (b d9_10) rfl rfl ?_
  refine g_iloadN X0 hx (b d9_11) rfl ?_
  obtain ⟨cl1, Ar1, q1, S1, M1, H1, G1⟩ := id P1
  have hin1 : ¬ ((0 : Int32) < 0 ∨ cl1.slots.size ≤ ((0 : Int32)).toNatClampNeg) := inb_of S1 ⟨by decide, by decide⟩
  have hat1 : cl1.slots[((0 : Int32)).toNatClampNeg]? = some (.int p4) := H1.at hin1 rfl
  refine Go.st (fun t k => X0.caload hx (j := (0 : Int32)) (v := (.int p4)) (by rw [e0]; exact Ar1.1) (State.isArrayOf_alike hZ.alike Ar1.2.1) Ar1.2.2 hin1 hat1 (g := (mkF m 12 #[.val (.ref a1), .val (.int (0 : Int32)), .val (.ref a2), .val (.int (0 : Int32)), .val (.int (4 : Int32)), .val (.int (0 : Int32)), .unset] [(.int (0 : Int32)), (.ref a1)])) rfl rfl (b d9_12) t k) ?_
  refine g_istore X0 hx (b d9_13) (l' := #[.val (.ref a1), .val (.int (0 : Int32)), .val (.ref a2), .val (.int (0 : Int32)), .val (.int (4 : Int32)), .val (.int (0 : Int32)), .val (.int p4)]) rfl ?_
  refine g_iload X0 hx (b d9_15) rfl ?_
  refine g_sipush X0 hx (255) (b d9_17) rfl ?_
  refine g_icmpYes X0 hx (pc := 20) 26 (b d9_20) (XT.ii_le_t P2) (by decide) ?_
  refine g_aloadN X0 hx (b d9_26) rfl rfl ?_
  refine g_iloadN X0 hx (b d9_27) rfl ?_
  refine g_iload X0 hx (b d9_28) rfl ?_
  refine g_i2bZ X0 hx (p4.toInt8.toInt32) (b d9_30) rfl ?_
  obtain ⟨cl2, Ar2, q2, S2, M2, H2, G2⟩ := id P3
  have hin2 : ¬ ((0 : Int32) < 0 ∨ cl2.slots.size ≤ ((0 : Int32)).toNatClampNeg) := inb_of S2 ⟨by decide, by decide⟩
  obtain ⟨T2, h2, X2, e2, W2, st2⟩ := stB X0 hx hZ e0 Ar2 (j := (0 : Int32)) hin2 (g := (mkF m 31 #[.val (.ref a1), .val (.int (0 : Int32)), .val (.ref a2), .val (.int (0 : Int32)), .val (.int (4 : Int32)), .val (.int (0 : Int32)), .val (.int p4)] [(.int (p4.toInt8.toInt32)), (.int (0 : Int32)), (.ref a2)])) rfl rfl (b d9_31)
  have V2 : Arv Z h2 a2 kz8 .byte (4 : Int32) [(.int ((p4.toInt8.toInt32).toInt8.toInt32)), (.int (0 : Int32)), (.int (0 : Int32)), (.int (0 : Int32))] (.int (0 : Int32)) := Arv.set Ar2 q2 S2 M2 H2 G2 (fits_nar_byte _) W2 0 rfl (Nat.le_of_ble_eq_true rfl)
  have N2 := Fr.snoc X2 N0 P4
  have O2 : Old Z n0 h2 := O0.wr W2 P4
  have K2 : Keep h0 h2 [a2] := (Keep.refl h0 [a2]).wr W2 (Or.inl (List.mem_of_getElem? (i := 0) rfl))
  refine Go.st st2 ?_
  refine g_iinc X2 hx (b d9_32) rfl (l' := #[.val (.ref a1), .val (.int (1 : Int32)), .val (.ref a2), .val (.int (0 : Int32)), .val (.int (4 : Int32)), .val (.int (0 : Int32)), .val (.int p4)]) rfl ?_
  refine g_iinc X2 hx (b d9_35) rfl (l' := #[.val (.ref a1), .val (.int (1 : Int32)), .val (.ref a2), .val (.int (1 : Int32)), .val (.int (4 : Int32)), .val (.int (0 : Int32)), .val (.int p4)]) rfl ?_
  refine g_iinc X2 hx (b d9_38) rfl (l' := #[.val (.ref a1), .val (.int (1 : Int32)), .val (.ref a2), .val (.int (1 : Int32)), .val (.int (4 : Int32)), .val (.int (1 : Int32)), .val (.int p4)]) rfl ?_
  refine g_goto X2 hx (pc := 41) 3 (b d9_41) (by decide) ?_
  refine g_iload X2 hx (b d9_3) rfl ?_
  refine g_iload X2 hx (b d9_5) rfl ?_
  refine g_icmpNo X2 hx (b d9_7) (XT.ii_ge_f (by decide : (1 : Int32) < (4 : Int32))) ?_
  refine g_aloadN X2 hx (b d9_10) rfl rfl ?_
  refine g_iloadN X2 hx (b d9_11) rfl ?_
  obtain ⟨cl3, Ar3, q3, S3, M3, H3, G3⟩ := id (P1.other W2 P5)
  have hin3 : ¬ ((1 : Int32) < 0 ∨ cl3.slots.size ≤ ((1 : Int32)).toNatClampNeg) := inb_of S3 ⟨by decide, by decide⟩
  have hat3 : cl3.slots[((1 : Int32)).toNatClampNeg]? = some (.int p5) := H3.at hin3 rfl
  refine Go.st (fun t k => X2.caload hx (j := (1 : Int32)) (v := (.int p5)) (by rw [e2]; exact Ar3.1) (State.isArrayOf_alike hZ.alike Ar3.2.1) Ar3.2.2 hin3 hat3 (g := (mkF m 12 #[.val (.ref a1), .val (.int (1 : Int32)), .val (.ref a2), .val (.int (1 : Int32)), .val (.int (4 : Int32)), .val (.int (1 : Int32)), .val (.int p4)] [(.int (1 : Int32)), (.ref a1)])) rfl rfl (b d9_12) t k) ?_
  refine g_istore X2 hx (b d9_13) (l' := #[.val (.ref a1), .val (.int (1 : Int32)), .val (.ref a2), .val (.int (1 : Int32)), .val (.int (4 : Int32)), .val (.int (1 : Int32)), .val (.int p5)]) rfl ?_
  refine g_iload X2 hx (b d9_15) rfl ?_
  refine g_sipush X2 hx (255) (b d9_17) rfl ?_
  refine g_icmpYes X2 hx (pc := 20) 26 (b d9_20) (XT.ii_le_t P6) (by decide) ?_
  refine g_aloadN X2 hx (b d9_26) rfl rfl ?_
  refine g_iloadN X2 hx (b d9_27) rfl ?_
  refine g_iload X2 hx (b d9_28) rfl ?_
  refine g_i2bZ X2 hx (p5.toInt8.toInt32) (b d9_30) rfl ?_
  obtain ⟨cl4, Ar4, q4, S4, M4, H4, G4⟩ := id V2
  have hin4 : ¬ ((1 : Int32) < 0 ∨ cl4.slots.size ≤ ((1 : Int32)).toNatClampNeg) := inb_of S4 ⟨by decide, by decide⟩
  obtain ⟨T4, h4, X4, e4, W4, st4⟩ := stB X2 hx hZ e2 Ar4 (j := (1 : Int32)) hin4 (g := (mkF m 31 #[.val (.ref a1), .val (.int (1 : Int32)), .val (.ref a2), .val (.int (1 : Int32)), .val (.int (4 : Int32)), .val (.int (1 : Int32)), .val (.int p5)] [(.int (p5.toInt8.toInt32)), (.int (1 : Int32)), (.ref a2)])) rfl rfl (b d9_31)
  have V4 : Arv Z h4 a2 kz8 .byte (4 : Int32) [(.int ((p4.toInt8.toInt32).toInt8.toInt32)), (.int ((p5.toInt8.toInt32).toInt8.toInt32)), (.int (0 : Int32)), (.int (0 : Int32))] (.int (0 : Int32)) := Arv.set Ar4 q4 S4 M4 H4 G4 (fits_nar_byte _) W4 1 rfl (Nat.le_of_ble_eq_true rfl)
  have N4 := Fr.snoc X4 N2 P4
  have O4 : Old Z n0 h4 := O2.wr W4 P4
  have K4 : Keep h0 h4 [a2] := K2.wr W4 (Or.inl (List.mem_of_getElem? (i := 0) rfl))
  refine Go.st st4 ?_
  refine g_iinc X4 hx (b d9_32) rfl (l' := #[.val (.ref a1), .val (.int (2 : Int32)), .val (.ref a2), .val (.int (1 : Int32)), .val (.int (4 : Int32)), .val (.int (1 : Int32)), .val (.int p5)]) rfl ?_
  refine g_iinc X4 hx (b d9_35) rfl (l' := #[.val (.ref a1), .val (.int (2 : Int32)), .val (.ref a2), .val (.int (2 : Int32)), .val (.int (4 : Int32)), .val (.int (1 : Int32)), .val (.int p5)]) rfl ?_
  refine g_iinc X4 hx (b d9_38) rfl (l' := #[.val (.ref a1), .val (.int (2 : Int32)), .val (.ref a2), .val (.int (2 : Int32)), .val (.int (4 : Int32)), .val (.int (2 : Int32)), .val (.int p5)]) rfl ?_
  refine g_goto X4 hx (pc := 41) 3 (b d9_41) (by decide) ?_
  refine g_iload X4 hx (b d9_3) rfl ?_
  refine g_iload X4 hx (b d9_5) rfl ?_
  refine g_icmpNo X4 hx (b d9_7) (XT.ii_ge_f (by decide : (2 : Int32) < (4 : Int32))) ?_
  refine g_aloadN X4 hx (b d9_10) rfl rfl ?_
  refine g_iloadN X4 hx (b d9_11) rfl ?_
  obtain ⟨cl5, Ar5, q5, S5, M5, H5, G5⟩ := id ((P1.other W2 P5).other W4 P5)
  have hin5 : ¬ ((2 : Int32) < 0 ∨ cl5.slots.size ≤ ((2 : Int32)).toNatClampNeg) := inb_of S5 ⟨by decide, by decide⟩
  have hat5 : cl5.slots[((2 : Int32)).toNatClampNeg]? = some (.int p6) := H5.at hin5 rfl
  refine Go.st (fun t k => X4.caload hx (j := (2 : Int32)) (v := (.int p6)) (by rw [e4]; exact Ar5.1) (State.isArrayOf_alike hZ.alike Ar5.2.1) Ar5.2.2 hin5 hat5 (g := (mkF m 12 #[.val (.ref a1), .val (.int (2 : Int32)), .val (.ref a2), .val (.int (2 : Int32)), .val (.int (4 : Int32)), .val (.int (2 : Int32)), .val (.int p5)] [(.int (2 : Int32)), (.ref a1)])) rfl rfl (b d9_12) t k) ?_
  refine g_istore X4 hx (b d9_13) (l' := #[.val (.ref a1), .val (.int (2 : Int32)), .val (.ref a2), .val (.int (2 : Int32)), .val (.int (4 : Int32)), .val (.int (2 : Int32)), .val (.int p6)]) rfl ?_
  refine g_iload X4 hx (b d9_15) rfl ?_
  refine g_sipush X4 hx (255) (b d9_17) rfl ?_
  refine g_icmpNo X4 hx (b d9_20) (XT.ii_le_f P7) ?_
  refine g_iload X4 hx (b d9_23) rfl ?_
  exact own_eI X4 hx hret (b d9_25) e4 (by decide) ⟨rfl, N4, K4, V4⟩
theorem rm9_10 (hw : HW Z a0) (a1 a2 : Addr) (kz3 : ClassId) (p4 p5 p6 p7 : Int32) (kz8 : ClassId) (O0 : Old Z n0 h0) (P1 : Arv Z h0 a1 kz3 .char (4 : Int32) [(.int p4), (.int p5), (.int p6), (.int p7)] (.int (0 : Int32))) (P2 : ¬ ((255 : Int32) < p4)) (P3 : Arv Z h0 a2 kz8 .byte (4 : Int32) [(.int (0 : Int32)), (.int (0 : Int32)), (.int (0 : Int32)), (.int (0 : Int32))] (.int (0 : Int32))) (P4 : n0 ≤ a2) (P5 : a1 ≠ a2) (P6 : ¬ ((255 : Int32) < p5)) (P7 : ¬ ((255 : Int32) < p6)) (P8 : (255 : Int32) < p7) :
    MM l mn8 jdk_52_method_21_code 7 (some .int) (R4 0 0 0 0) #[(.ref a1), (.int (0 : Int32)), (.ref a2), (.int (0 : Int32)), (.int (4 : Int32))] Z h0 (fun v h L => v = some (.int (3 : Int32)) ∧ Fr n0 L ∧ Keep h0 h [a2] ∧ Arv Z h a2 kz8 .byte (4 : Int32) [(.int ((p4.toInt8.toInt32).toInt8.toInt32)), (.int ((p5.toInt8.toInt32).toInt8.toInt32)), (.int ((p6.toInt8.toInt32).toInt8.toInt32)), (.int (0 : Int32))] (.int (0 : Int32))) := by
  refine own_hN n0 rfl pn_2 ?_
  intro p e s m below meth c s₁ hx b hml hret hZ hown hnm X0 e0 N0
  refine own_ct (mkF m 0 #[.val (.ref a1), .val (.int (0 : Int32)), .val (.ref a2), .val (.int (0 : Int32)), .val (.int (4 : Int32)), .unset, .unset] []) rfl ?_
  refine g_iconst X0 hx (0) (b d9_0) rfl ?_
  refine g_istore X0 hx (b d9_1) (l' := #[.val (.ref a1), .val (.int (0 : Int32)), .val (.ref a2), .val (.int (0 : Int32)), .val (.int (4 : Int32)), .val (.int (0 : Int32)), .unset]) rfl ?_
  refine g_iload X0 hx (b d9_3) rfl ?_
  refine g_iload X0 hx (b d9_5) rfl ?_
  refine g_icmpNo X0 hx (b d9_7) (XT.ii_ge_f (by decide : (0 : Int32) < (4 : Int32))) ?_
  refine g_aloadN X0 hx (b d9_10) rfl rfl ?_
  refine g_iloadN X0 hx (b d9_11) rfl ?_
  obtain ⟨cl1, Ar1, q1, S1, M1, H1, G1⟩ := id P1
  have hin1 : ¬ ((0 : Int32) < 0 ∨ cl1.slots.size ≤ ((0 : Int32)).toNatClampNeg) := inb_of S1 ⟨by decide, by decide⟩
  have hat1 : cl1.slots[((0 : Int32)).toNatClampNeg]? = some (.int p4) := H1.at hin1 rfl
  refine Go.st (fun t k => X0.caload hx (j := (0 : Int32)) (v := (.int p4)) (by rw [e0]; exact Ar1.1) (State.isArrayOf_alike hZ.alike Ar1.2.1) Ar1.2.2 hin1 hat1 (g := (mkF m 12 #[.val (.ref a1), .val (.int (0 : Int32)), .val (.ref a2), .val (.int (0 : Int32)), .val (.int (4 : Int32)), .val (.int (0 : Int32)), .unset] [(.int (0 : Int32)), (.ref a1)])) rfl rfl (b d9_12) t k) ?_
  refine g_istore X0 hx (b d9_13) (l' := #[.val (.ref a1), .val (.int (0 : Int32)), .val (.ref a2), .val (.int (0 : Int32)), .val (.int (4 : Int32)), .val (.int (0 : Int32)), .val (.int p4)]) rfl ?_
  refine g_iload X0 hx (b d9_15) rfl ?_
  refine g_sipush X0 hx (255) (b d9_17) rfl ?_
  refine g_icmpYes X0 hx (pc := 20) 26 (b d9_20) (XT.ii_le_t P2) (by decide) ?_
  refine g_aloadN X0 hx (b d9_26) rfl rfl ?_
  refine g_iloadN X0 hx (b d9_27) rfl ?_
  refine g_iload X0 hx (b d9_28) rfl ?_
  refine g_i2bZ X0 hx (p4.toInt8.toInt32) (b d9_30) rfl ?_
  obtain ⟨cl2, Ar2, q2, S2, M2, H2, G2⟩ := id P3
  have hin2 : ¬ ((0 : Int32) < 0 ∨ cl2.slots.size ≤ ((0 : Int32)).toNatClampNeg) := inb_of S2 ⟨by decide, by decide⟩
  obtain ⟨T2, h2, X2, e2, W2, st2⟩ := stB X0 hx hZ e0 Ar2 (j := (0 : Int32)) hin2 (g := (mkF m 31 #[.val (.ref a1), .val (.int (0 : Int32)), .val (.ref a2), .val (.int (0 : Int32)), .val (.int (4 : Int32)), .val (.int (0 : Int32)), .val (.int p4)] [(.int (p4.toInt8.toInt32)), (.int (0 : Int32)), (.ref a2)])) rfl rfl (b d9_31)
  have V2 : Arv Z h2 a2 kz8 .byte (4 : Int32) [(.int ((p4.toInt8.toInt32).toInt8.toInt32)), (.int (0 : Int32)), (.int (0 : Int32)), (.int (0 : Int32))] (.int (0 : Int32)) := Arv.set Ar2 q2 S2 M2 H2 G2 (fits_nar_byte _) W2 0 rfl (Nat.le_of_ble_eq_true rfl)
  have N2 := Fr.snoc X2 N0 P4
  have O2 : Old Z n0 h2 := O0.wr W2 P4
  have K2 : Keep h0 h2 [a2] := (Keep.refl h0 [a2]).wr W2 (Or.inl (List.mem_of_getElem? (i := 0) rfl))
  refine Go.st st2 ?_
  refine g_iinc X2 hx (b d9_32) rfl (l' := #[.val (.ref a1), .val (.int (1 : Int32)), .val (.ref a2), .val (.int (0 : Int32)), .val (.int (4 : Int32)), .val (.int (0 : Int32)), .val (.int p4)]) rfl ?_
  refine g_iinc X2 hx (b d9_35) rfl (l' := #[.val (.ref a1), .val (.int (1 : Int32)), .val (.ref a2), .val (.int (1 : Int32)), .val (.int (4 : Int32)), .val (.int (0 : Int32)), .val (.int p4)]) rfl ?_
  refine g_iinc X2 hx (b d9_38) rfl (l' := #[.val (.ref a1), .val (.int (1 : Int32)), .val (.ref a2), .val (.int (1 : Int32)), .val (.int (4 : Int32)), .val (.int (1 : Int32)), .val (.int p4)]) rfl ?_
  refine g_goto X2 hx (pc := 41) 3 (b d9_41) (by decide) ?_
  refine g_iload X2 hx (b d9_3) rfl ?_
  refine g_iload X2 hx (b d9_5) rfl ?_
  refine g_icmpNo X2 hx (b d9_7) (XT.ii_ge_f (by decide : (1 : Int32) < (4 : Int32))) ?_
  refine g_aloadN X2 hx (b d9_10) rfl rfl ?_
  refine g_iloadN X2 hx (b d9_11) rfl ?_
  obtain ⟨cl3, Ar3, q3, S3, M3, H3, G3⟩ := id (P1.other W2 P5)
  have hin3 : ¬ ((1 : Int32) < 0 ∨ cl3.slots.size ≤ ((1 : Int32)).toNatClampNeg) := inb_of S3 ⟨by decide, by decide⟩
  have hat3 : cl3.slots[((1 : Int32)).toNatClampNeg]? = some (.int p5) := H3.at hin3 rfl
  refine Go.st (fun t k => X2.caload hx (j := (1 : Int32)) (v := (.int p5)) (by rw [e2]; exact Ar3.1) (State.isArrayOf_alike hZ.alike Ar3.2.1) Ar3.2.2 hin3 hat3 (g := (mkF m 12 #[.val (.ref a1), .val (.int (1 : Int32)), .val (.ref a2), .val (.int (1 : Int32)), .val (.int (4 : Int32)), .val (.int (1 : Int32)), .val (.int p4)] [(.int (1 : Int32)), (.ref a1)])) rfl rfl (b d9_12) t k) ?_
  refine g_istore X2 hx (b d9_13) (l' := #[.val (.ref a1), .val (.int (1 : Int32)), .val (.ref a2), .val (.int (1 : Int32)), .val (.int (4 : Int32)), .val (.int (1 : Int32)), .val (.int p5)]) rfl ?_
  refine g_iload X2 hx (b d9_15) rfl ?_
  refine g_sipush X2 hx (255) (b d9_17) rfl ?_
  refine g_icmpYes X2 hx (pc := 20) 26 (b d9_20) (XT.ii_le_t P6) (by decide) ?_
  refine g_aloadN X2 hx (b d9_26) rfl rfl ?_
  refine g_iloadN X2 hx (b d9_27) rfl ?_
  refine g_iload X2 hx (b d9_28) rfl ?_
  refine g_i2bZ X2 hx (p5.toInt8.toInt32) (b d9_30) rfl ?_
  obtain ⟨cl4, Ar4, q4, S4, M4, H4, G4⟩ := id V2
  have hin4 : ¬ ((1 : Int32) < 0 ∨ cl4.slots.size ≤ ((1 : Int32)).toNatClampNeg) := inb_of S4 ⟨by decide, by decide⟩
  obtain ⟨T4, h4, X4, e4, W4, st4⟩ := stB X2 hx hZ e2 Ar4 (j := (1 : Int32)) hin4 (g := (mkF m 31 #[.val (.ref a1), .val (.int (1 : Int32)), .val (.ref a2), .val (.int (1 : Int32)), .val (.int (4 : Int32)), .val (.int (1 : Int32)), .val (.int p5)] [(.int (p5.toInt8.toInt32)), (.int (1 : Int32)), (.ref a2)])) rfl rfl (b d9_31)
  have V4 : Arv Z h4 a2 kz8 .byte (4 : Int32) [(.int ((p4.toInt8.toInt32).toInt8.toInt32)), (.int ((p5.toInt8.toInt32).toInt8.toInt32)), (.int (0 : Int32)), (.int (0 : Int32))] (.int (0 : Int32)) := Arv.set Ar4 q4 S4 M4 H4 G4 (fits_nar_byte _) W4 1 rfl (Nat.le_of_ble_eq_true rfl)
  have N4 := Fr.snoc X4 N2 P4
  have O4 : Old Z n0 h4 := O2.wr W4 P4
  have K4 : Keep h0 h4 [a2] := K2.wr W4 (Or.inl (List.mem_of_getElem? (i := 0) rfl))
  refine Go.st st4 ?_
  refine g_iinc X4 hx (b d9_32) rfl (l' := #[.val (.ref a1), .val (.int (2 : Int32)), .val (.ref a2), .val (.int (1 : Int32)), .val (.int (4 : Int32)), .val (.int (1 : Int32)), .val (.int p5)]) rfl ?_
  refine g_iinc X4 hx (b d9_35) rfl (l' := #[.val (.ref a1), .val (.int (2 : Int32)), .val (.ref a2), .val (.int (2 : Int32)), .val (.int (4 : Int32)), .val (.int (1 : Int32)), .val (.int p5)]) rfl ?_
  refine g_iinc X4 hx (b d9_38) rfl (l' := #[.val (.ref a1), .val (.int (2 : Int32)), .val (.ref a2), .val (.int (2 : Int32)), .val (.int (4 : Int32)), .val (.int (2 : Int32)), .val (.int p5)]) rfl ?_
  refine g_goto X4 hx (pc := 41) 3 (b d9_41) (by decide) ?_
  refine g_iload X4 hx (b d9_3) rfl ?_
  refine g_iload X4 hx (b d9_5) rfl ?_
  refine g_icmpNo X4 hx (b d9_7) (XT.ii_ge_f (by decide : (2 : Int32) < (4 : Int32))) ?_
  refine g_aloadN X4 hx (b d9_10) rfl rfl ?_
  refine g_iloadN X4 hx (b d9_11) rfl ?_
  obtain ⟨cl5, Ar5, q5, S5, M5, H5, G5⟩ := id ((P1.other W2 P5).other W4 P5)
  have hin5 : ¬ ((2 : Int32) < 0 ∨ cl5.slots.size ≤ ((2 : Int32)).toNatClampNeg) := inb_of S5 ⟨by decide, by decide⟩
  have hat5 : cl5.slots[((2 : Int32)).toNatClampNeg]? = some (.int p6) := H5.at hin5 rfl
  refine Go.st (fun t k => X4.caload hx (j := (2 : Int32)) (v := (.int p6)) (by rw [e4]; exact Ar5.1) (State.isArrayOf_alike hZ.alike Ar5.2.1) Ar5.2.2 hin5 hat5 (g := (mkF m 12 #[.val (.ref a1), .val (.int (2 : Int32)), .val (.ref a2), .val (.int (2 : Int32)), .val (.int (4 : Int32)), .val (.int (2 : Int32)), .val (.int p5)] [(.int (2 : Int32)), (.ref a1)])) rfl rfl (b d9_12) t k) ?_
  refine g_istore X4 hx (b d9_13) (l' := #[.val (.ref a1), .val (.int (2 : Int32)), .val (.ref a2), .val (.int (2 : Int32)), .val (.int (4 : Int32)), .val (.int (2 : Int32)), .val (.int p6)]) rfl ?_
  refine g_iload X4 hx (b d9_15) rfl ?_
  refine g_sipush X4 hx (255) (b d9_17) rfl ?_
  refine g_icmpYes X4 hx (pc := 20) 26 (b d9_20) (XT.ii_le_t P7) (by decide) ?_
  refine g_aloadN X4 hx (b d9_26) rfl rfl ?_
  refine g_iloadN X4 hx (b d9_27) rfl ?_
  refine g_iload X4 hx (b d9_28) rfl ?_
  refine g_i2bZ X4 hx (p6.toInt8.toInt32) (b d9_30) rfl ?_
  obtain ⟨cl6, Ar6, q6, S6, M6, H6, G6⟩ := id V4
  have hin6 : ¬ ((2 : Int32) < 0 ∨ cl6.slots.size ≤ ((2 : Int32)).toNatClampNeg) := inb_of S6 ⟨by decide, by decide⟩
  obtain ⟨T6, h6, X6, e6, W6, st6⟩ := stB X4 hx hZ e4 Ar6 (j := (2 : Int32)) hin6 (g := (mkF m 31 #[.val (.ref a1), .val (.int (2 : Int32)), .val (.ref a2), .val (.int (2 : Int32)), .val (.int (4 : Int32)), .val (.int (2 : Int32)), .val (.int p6)] [(.int (p6.toInt8.toInt32)), (.int (2 : Int32)), (.ref a2)])) rfl rfl (b d9_31)
  have V6 : Arv Z h6 a2 kz8 .byte (4 : Int32) [(.int ((p4.toInt8.toInt32).toInt8.toInt32)), (.int ((p5.toInt8.toInt32).toInt8.toInt32)), (.int ((p6.toInt8.toInt32).toInt8.toInt32)), (.int (0 : Int32))] (.int (0 : Int32)) := Arv.set Ar6 q6 S6 M6 H6 G6 (fits_nar_byte _) W6 2 rfl (Nat.le_of_ble_eq_true rfl)
  have N6 := Fr.snoc X6 N4 P4
  have O6 : Old Z n0 h6 := O4.wr W6 P4
  have K6 : Keep h0 h6 [a2] := K4.wr W6 (Or.inl (List.mem_of_getElem? (i := 0) rfl))
  refine Go.st st6 ?_
  refine g_iinc X6 hx (b d9_32) rfl (l' := #[.val (.ref a1), .val (.int (3 : Int32)), .val (.ref a2), .val (.int (2 : Int32)), .val (.int (4 : Int32)), .val (.int (2 : Int32)), .val (.int p6)]) rfl ?_
  refine g_iinc X6 hx (b d9_35) rfl (l' := #[.val (.ref a1), .val (.int (3 : Int32)), .val (.ref a2), .val (.int (3 : Int32)), .val (.int (4 : Int32)), .val (.int (2 : Int32)), .val (.int p6)]) rfl ?_
  refine g_iinc X6 hx (b d9_38) rfl (l' := #[.val (.ref a1), .val (.int (3 : Int32)), .val (.ref a2), .val (.int (3 : Int32)), .val (.int (4 : Int32)), .val (.int (3 : Int32)), .val (.int p6)]) rfl ?_
  refine g_goto X6 hx (pc := 41) 3 (b d9_41) (by decide) ?_
  refine g_iload X6 hx (b d9_3) rfl ?_
  refine g_iload X6 hx (b d9_5) rfl ?_
  refine g_icmpNo X6 hx (b d9_7) (XT.ii_ge_f (by decide : (3 : Int32) < (4 : Int32))) ?_
  refine g_aloadN X6 hx (b d9_10) rfl rfl ?_
  refine g_iloadN X6 hx (b d9_11) rfl ?_
  have c7 := (((P1.other W2 P5).other W4 P5).other W6 P5)
  obtain ⟨cl8, Ar8, q8, S8, M8, H8, G8⟩ := id c7
  have hin8 : ¬ ((3 : Int32) < 0 ∨ cl8.slots.size ≤ ((3 : Int32)).toNatClampNeg) := inb_of S8 ⟨by decide, by decide⟩
  have hat8 : cl8.slots[((3 : Int32)).toNatClampNeg]? = some (.int p7) := H8.at hin8 rfl
  refine Go.st (fun t k => X6.caload hx (j := (3 : Int32)) (v := (.int p7)) (by rw [e6]; exact Ar8.1) (State.isArrayOf_alike hZ.alike Ar8.2.1) Ar8.2.2 hin8 hat8 (g := (mkF m 12 #[.val (.ref a1), .val (.int (3 : Int32)), .val (.ref a2), .val (.int (3 : Int32)), .val (.int (4 : Int32)), .val (.int (3 : Int32)), .val (.int p6)] [(.int (3 : Int32)), (.ref a1)])) rfl rfl (b d9_12) t k) ?_
  refine g_istore X6 hx (b d9_13) (l' := #[.val (.ref a1), .val (.int (3 : Int32)), .val (.ref a2), .val (.int (3 : Int32)), .val (.int (4 : Int32)), .val (.int (3 : Int32)), .val (.int p7)]) rfl ?_
  refine g_iload X6 hx (b d9_15) rfl ?_
  refine g_sipush X6 hx (255) (b d9_17) rfl ?_
  refine g_icmpNo X6 hx (b d9_20) (XT.ii_le_f P8) ?_
  refine g_iload X6 hx (b d9_23) rfl ?_
  exact own_eI X6 hx hret (b d9_25) e6 (by decide) ⟨rfl, N6, K6, V6⟩
theorem rmU4 (hw : HW Z a0) (ov : Addr) (kv : ClassId) (Xv0 Xv1 Xv2 Xv3 : Int32) (O0 : Old Z n0 h0) (MF1 : Arv Z h0 ov kv .char (4 : Int32) [(.int Xv0), (.int Xv1), (.int Xv2), (.int Xv3)] (.int (0 : Int32))) (Mp1 : ¬ (Xv0 < (0 : Int32))) (Mp2 : ¬ ((65535 : Int32) < Xv0)) (Mp3 : ¬ (Xv1 < (0 : Int32))) (Mp4 : ¬ ((65535 : Int32) < Xv1)) (Mp5 : ¬ (Xv2 < (0 : Int32))) (Mp6 : ¬ ((65535 : Int32) < Xv2)) (Mp7 : ¬ (Xv3 < (0 : Int32))) (Mp8 : ¬ ((65535 : Int32) < Xv3)) (Mp9 : (255 : Int32) < (own_mx (own_mx (own_mx Xv0 Xv1) Xv2) Xv3)) (P11 : Sta Z Z.heap "java/lang/StringUTF16" "$assertionsDisabled" "Z" (.int (1 : Int32))) (P12 : Sta Z Z.heap "java/lang/StringUTF16" "HI_BYTE_SHIFT" "I" (.int (0 : Int32))) (P13 : Sta Z Z.heap "java/lang/StringUTF16" "LO_BYTE_SHIFT" "I" (.int (8 : Int32))) :
    MM l mn13 jdk_52_method_16_code 6 (some (.array .byte)) (R4 3 2 12 40) #[(.ref ov), (.int (0 : Int32)), (.int (4 : Int32))] Z h0 (fun v h L => ∃ (bo : Addr) (ko : ClassId), v = some (.ref bo) ∧ Fr n0 L ∧ Keep h0 h [] ∧ h0.size ≤ bo ∧ Arv Z h bo ko .byte (8 : Int32) [(.int (own_b0 Xv0)), (.int (own_b8 Xv0)), (.int (own_b0 Xv1)), (.int (own_b8 Xv1)), (.int (own_b0 Xv2)), (.int (own_b8 Xv2)), (.int (own_b0 Xv3)), (.int (own_b8 Xv3))] (.int (0 : Int32))) := by
  refine own_hN n0 rfl pn_2 ?_
  intro p e s m below meth c s₁ hx b hml hret hZ hown hnm X0 e0 N0
  refine own_ct (mkF m 0 #[.val (.ref ov), .val (.int (0 : Int32)), .val (.int (4 : Int32)), .unset, .unset, .unset] []) rfl ?_
  refine g_iloadN X0 hx (b d8_0) rfl ?_
  obtain ⟨T1, h1, k1, X1, e1, E1, A1, st1⟩ := newP X0 hx hZ (aty := .byte) (w26 hw) e0 (g := (mkF m 1 #[.val (.ref ov), .val (.int (0 : Int32)), .val (.int (4 : Int32)), .unset, .unset, .unset] [(.int (4 : Int32))])) rfl (b d8_1) rfl (by decide) (cap := 4) (by decide) (by decide) (by decide) (by decide)
  obtain ⟨b1, z1⟩ : ∃ z, z = h0.size := ⟨_, rfl⟩
  rw [← z1] at A1 st1
  have g_b1 : n0 ≤ b1 := Nat.le_trans (own_n0 O0) (Nat.le_of_eq z1.symm)
  have s_b1 : h0.size ≤ b1 := Nat.le_trans (Keep.refl h0 []).1 (Nat.le_of_eq z1.symm)
  have V1 : Arv Z h1 b1 k1 .byte (4 : Int32) [(.int (0 : Int32)), (.int (0 : Int32)), (.int (0 : Int32)), (.int (0 : Int32))] (.int (0 : Int32)) := (Arv.new A1 (by decide)).pad (pad_rep [] (.int (0 : Int32)) 4)
  have O1 : Old Z n0 h1 := O0.ext E1
  have K1 : Keep h0 h1 [] := (Keep.refl h0 []).ext E1
  refine Go.st st1 ?_
  refine g_astoreN X1 hx (b d8_3) rfl (l' := #[.val (.ref ov), .val (.int (0 : Int32)), .val (.int (4 : Int32)), .val (.ref b1), .unset, .unset]) rfl ?_
  refine g_aloadN X1 hx (b d8_4) rfl rfl ?_
  refine g_iloadN X1 hx (b d8_5) rfl ?_
  refine g_aloadN X1 hx (b d8_6) rfl rfl ?_
  refine g_iconst X1 hx (0) (b d8_7) rfl ?_
  refine g_iloadN X1 hx (b d8_8) rfl ?_
  by_cases hc2 : (255 : Int32) < Xv0
  · refine own_cS X1 hx hZ hown (w47 hw) (w48 hw) (w45 hw) (w49 hw) (rm9_7 hw ov b1 kv Xv0 Xv1 Xv2 Xv3 O1 (MF1.ext E1) hc2) e1 0 (by decide) (by decide) (by rw [hml]; rfl) [(.ref ov), (.int (0 : Int32)), (.ref b1), (.int (0 : Int32)), (.int (4 : Int32))] [] (lenOf pd_2 rfl) rfl rfl (Nat.le_of_eq rfl) (b d8_9) ?_
    rintro T3 _ L3 X3 ⟨rfl, M3, eh3⟩
    have N3 := Fr.app N0 M3
    refine g_istore X3 hx (b d8_12) (l' := #[.val (.ref ov), .val (.int (0 : Int32)), .val (.int (4 : Int32)), .val (.ref b1), .val (.int (0 : Int32)), .unset]) rfl ?_
    refine g_iload X3 hx (b d8_14) rfl ?_
    refine g_iloadN X3 hx (b d8_16) rfl ?_
    refine g_icmpNo X3 hx (b d8_17) (XT.ii_eq_f (by decide : ¬ ((0 : Int32) = (4 : Int32)))) ?_
    refine g_aloadN X3 hx (b d8_20) rfl rfl ?_
    refine g_iloadN X3 hx (b d8_21) rfl ?_
    refine g_iloadN X3 hx (b d8_22) rfl ?_
    refine own_cS X3 hx hZ hown (w50 hw) (w51 hw) (w45 hw) (w52 hw) (rm10_4 hw ov kv Xv0 Xv1 Xv2 Xv3 O1 (MF1.ext E1) P11 P12 P13) eh3 0 (by decide) (by decide) (by rw [hml]; rfl) [(.ref ov), (.int (0 : Int32)), (.int (4 : Int32))] [] (lenOf pd_6 rfl) rfl rfl (Nat.le_of_eq rfl) (b d8_23) ?_
    rintro T4 _ L4 X4 ⟨b2_1_4, k2_1_4, rfl, M4, K4c, r4_0, r4_1⟩
    have N4 := Fr.app N3 M4
    have g_b2_1_4 : n0 ≤ b2_1_4 := Nat.le_trans (own_n0 O1) r4_0
    have s_b2_1_4 : h0.size ≤ b2_1_4 := Nat.le_trans K1.1 r4_0
    have O4 : Old Z n0 T4.heap := O1.keep K4c all0
    have K4 : Keep h0 T4.heap [] := K1.trans K4c all0
    refine g_astore X4 hx (b d8_26) rfl (l' := #[.val (.ref ov), .val (.int (0 : Int32)), .val (.int (4 : Int32)), .val (.ref b1), .val (.int (0 : Int32)), .val (.ref b2_1_4)]) rfl ?_
    refine g_aload X4 hx (b d8_28) rfl rfl ?_
    refine g_iload X4 hx (b d8_30) rfl ?_
    refine own_cS X4 hx hZ hown (w66 hw) (w67 hw) (w45 hw) (w68 hw) (rm14_9 hw b2_1_4 k2_1_4 Xv0 Xv1 Xv2 Xv3 O4 P11 r4_1 P12 P13) rfl 0 (by decide) (by decide) (by rw [hml]; rfl) [(.ref b2_1_4), (.int (0 : Int32))] [] (lenOf pd_1 rfl) rfl rfl (Nat.le_of_eq rfl) (b d8_32) ?_
    rintro T5 _ L5 X5 ⟨rfl, M5, eh5⟩
    have N5 := Fr.app N4 M5
    refine g_sipush X5 hx (255) (b d8_35) rfl ?_
    have he6 := own_N0 Xv0 Mp1 Mp2
    have hn7 : (255 : Int32) < (own_c (own_c ((((own_b0 Xv0) &&& (255 : Int32)) <<< ((0 : Int32) &&& 31)) ||| (((own_b8 Xv0) &&& (255 : Int32)) <<< ((8 : Int32) &&& 31))))) := by
      rw [he6]
      exact hc2
    refine g_icmpYes X5 hx (pc := 38) 54 (b d8_38) (XT.ii_gt_t hn7) (by decide) ?_
    refine g_aload X5 hx (b d8_54) rfl rfl ?_
    exact own_eA X5 hx hret rfl rfl (b d8_56) eh5 (by decide) ⟨b2_1_4, k2_1_4, rfl, N5, K4, s_b2_1_4, r4_1⟩
  · by_cases hc8 : (255 : Int32) < Xv1
    · refine own_cS X1 hx hZ hown (w47 hw) (w48 hw) (w45 hw) (w49 hw) (rm9_8 hw ov b1 kv Xv0 Xv1 Xv2 Xv3 k1 O1 (MF1.ext E1) hc2 V1 g_b1 (Nat.ne_of_lt (Nat.lt_of_lt_of_le MF1.lt (Nat.le_of_eq z1.symm))) hc8) e1 0 (by decide) (by decide) (by rw [hml]; rfl) [(.ref ov), (.int (0 : Int32)), (.ref b1), (.int (0 : Int32)), (.int (4 : Int32))] [] (lenOf pd_2 rfl) rfl rfl (Nat.le_of_eq rfl) (b d8_9) ?_
      rintro T9 _ L9 X9 ⟨rfl, M9, K9c, r9_0⟩
      have N9 := Fr.app N0 M9
      have O9 : Old Z n0 T9.heap := O1.keep K9c (allS g_b1 all0)
      have K9 : Keep h0 T9.heap [] := K1.trans K9c (allS (Or.inr s_b1) all0)
      refine g_istore X9 hx (b d8_12) (l' := #[.val (.ref ov), .val (.int (0 : Int32)), .val (.int (4 : Int32)), .val (.ref b1), .val (.int (1 : Int32)), .unset]) rfl ?_
      refine g_iload X9 hx (b d8_14) rfl ?_
      refine g_iloadN X9 hx (b d8_16) rfl ?_
      refine g_icmpNo X9 hx (b d8_17) (XT.ii_eq_f (by decide : ¬ ((1 : Int32) = (4 : Int32)))) ?_
      refine g_aloadN X9 hx (b d8_20) rfl rfl ?_
      refine g_iloadN X9 hx (b d8_21) rfl ?_
      refine g_iloadN X9 hx (b d8_22) rfl ?_
      have c10 := ((MF1.ext E1).keep K9c (ninS (Nat.ne_of_lt (Nat.lt_of_lt_of_le MF1.lt (Nat.le_of_eq z1.symm))) nin0))
      refine own_cS X9 hx hZ hown (w50 hw) (w51 hw) (w45 hw) (w52 hw) (rm10_4 hw ov kv Xv0 Xv1 Xv2 Xv3 O9 c10 P11 P12 P13) rfl 0 (by decide) (by decide) (by rw [hml]; rfl) [(.ref ov), (.int (0 : Int32)), (.int (4 : Int32))] [] (lenOf pd_6 rfl) rfl rfl (Nat.le_of_eq rfl) (b d8_23) ?_
      rintro T11 _ L11 X11 ⟨b2_1_11, k2_1_11, rfl, M11, K11c, r11_0, r11_1⟩
      have N11 := Fr.app N9 M11
      have g_b2_1_11 : n0 ≤ b2_1_11 := Nat.le_trans (own_n0 O9) r11_0
      have s_b2_1_11 : h0.size ≤ b2_1_11 := Nat.le_trans K9.1 r11_0
      have O11 : Old Z n0 T11.heap := O9.keep K11c all0
      have K11 : Keep h0 T11.heap [] := K9.trans K11c all0
      refine g_astore X11 hx (b d8_26) rfl (l' := #[.val (.ref ov), .val (.int (0 : Int32)), .val (.int (4 : Int32)), .val (.ref b1), .val (.int (1 : Int32)), .val (.ref b2_1_11)]) rfl ?_
      refine g_aload X11 hx (b d8_28) rfl rfl ?_
      refine g_iload X11 hx (b d8_30) rfl ?_
      refine own_cS X11 hx hZ hown (w66 hw) (w67 hw) (w45 hw) (w68 hw) (rm14_8 hw b2_1_11 k2_1_11 Xv0 Xv1 Xv2 Xv3 O11 P11 r11_1 P12 P13) rfl 0 (by decide) (by decide) (by rw [hml]; rfl) [(.ref b2_1_11), (.int (1 : Int32))] [] (lenOf pd_1 rfl) rfl rfl (Nat.le_of_eq rfl) (b d8_32) ?_
      rintro T12 _ L12 X12 ⟨rfl, M12, eh12⟩
      have N12 := Fr.app N11 M12
      refine g_sipush X12 hx (255) (b d8_35) rfl ?_
      have he13 := own_N0 Xv1 Mp3 Mp4
      have hn14 : (255 : Int32) < (own_c (own_c ((((own_b0 Xv1) &&& (255 : Int32)) <<< ((0 : Int32) &&& 31)) ||| (((own_b8 Xv1) &&& (255 : Int32)) <<< ((8 : Int32) &&& 31))))) := by
        rw [he13]
        exact hc8
      refine g_icmpYes X12 hx (pc := 38) 54 (b d8_38) (XT.ii_gt_t hn14) (by decide) ?_
      refine g_aload X12 hx (b d8_54) rfl rfl ?_
      exact own_eA X12 hx hret rfl rfl (b d8_56) eh12 (by decide) ⟨b2_1_11, k2_1_11, rfl, N12, K11, s_b2_1_11, r11_1⟩
    · by_cases hc15 : (255 : Int32) < Xv2
      · refine own_cS X1 hx hZ hown (w47 hw) (w48 hw) (w45 hw) (w49 hw) (rm9_9 hw ov b1 kv Xv0 Xv1 Xv2 Xv3 k1 O1 (MF1.ext E1) hc2 V1 g_b1 (Nat.ne_of_lt (Nat.lt_of_lt_of_le MF1.lt (Nat.le_of_eq z1.symm))) hc8 hc15) e1 0 (by decide) (by decide) (by rw [hml]; rfl) [(.ref ov), (.int (0 : Int32)), (.ref b1), (.int (0 : Int32)), (.int (4 : Int32))] [] (lenOf pd_2 rfl) rfl rfl (Nat.le_of_eq rfl) (b d8_9) ?_
        rintro T16 _ L16 X16 ⟨rfl, M16, K16c, r16_0⟩
        have N16 := Fr.app N0 M16
        have O16 : Old Z n0 T16.heap := O1.keep K16c (allS g_b1 all0)
        have K16 : Keep h0 T16.heap [] := K1.trans K16c (allS (Or.inr s_b1) all0)
        refine g_istore X16 hx (b d8_12) (l' := #[.val (.ref ov), .val (.int (0 : Int32)), .val (.int (4 : Int32)), .val (.ref b1), .val (.int (2 : Int32)), .unset]) rfl ?_
        refine g_iload X16 hx (b d8_14) rfl ?_
        refine g_iloadN X16 hx (b d8_16) rfl ?_
        refine g_icmpNo X16 hx (b d8_17) (XT.ii_eq_f (by decide : ¬ ((2 : Int32) = (4 : Int32)))) ?_
        refine g_aloadN X16 hx (b d8_20) rfl rfl ?_
        refine g_iloadN X16 hx (b d8_21) rfl ?_
        refine g_iloadN X16 hx (b d8_22) rfl ?_
        have c17 := ((MF1.ext E1).keep K16c (ninS (Nat.ne_of_lt (Nat.lt_of_lt_of_le MF1.lt (Nat.le_of_eq z1.symm))) nin0))
        refine own_cS X16 hx hZ hown (w50 hw) (w51 hw) (w45 hw) (w52 hw) (rm10_4 hw ov kv Xv0 Xv1 Xv2 Xv3 O16 c17 P11 P12 P13) rfl 0 (by decide) (by decide) (by rw [hml]; rfl) [(.ref ov), (.int (0 : Int32)), (.int (4 : Int32))] [] (lenOf pd_6 rfl) rfl rfl (Nat.le_of_eq rfl) (b d8_23) ?_
        rintro T18 _ L18 X18 ⟨b2_1_18, k2_1_18, rfl, M18, K18c, r18_0, r18_1⟩
        have N18 := Fr.app N16 M18
        have g_b2_1_18 : n0 ≤ b2_1_18 := Nat.le_trans (own_n0 O16) r18_0
        have s_b2_1_18 : h0.size ≤ b2_1_18 := Nat.le_trans K16.1 r18_0
        have O18 : Old Z n0 T18.heap := O16.keep K18c all0
        have K18 : Keep h0 T18.heap [] := K16.trans K18c all0
        refine g_astore X18 hx (b d8_26) rfl (l' := #[.val (.ref ov), .val (.int (0 : Int32)), .val (.int (4 : Int32)), .val (.ref b1), .val (.int (2 : Int32)), .val (.ref b2_1_18)]) rfl ?_
        refine g_aload X18 hx (b d8_28) rfl rfl ?_
        refine g_iload X18 hx (b d8_30) rfl ?_
        refine own_cS X18 hx hZ hown (w66 hw) (w67 hw) (w45 hw) (w68 hw) (rm14_6 hw b2_1_18 k2_1_18 Xv0 Xv1 Xv2 Xv3 O18 P11 r18_1 P12 P13) rfl 0 (by decide) (by decide) (by rw [hml]; rfl) [(.ref b2_1_18), (.int (2 : Int32))] [] (lenOf pd_1 rfl) rfl rfl (Nat.le_of_eq rfl) (b d8_32) ?_
        rintro T19 _ L19 X19 ⟨rfl, M19, eh19⟩
        have N19 := Fr.app N18 M19
        refine g_sipush X19 hx (255) (b d8_35) rfl ?_
        have he20 := own_N0 Xv2 Mp5 Mp6
        have hn21 : (255 : Int32) < (own_c (own_c ((((own_b0 Xv2) &&& (255 : Int32)) <<< ((0 : Int32) &&& 31)) ||| (((own_b8 Xv2) &&& (255 : Int32)) <<< ((8 : Int32) &&& 31))))) := by
          rw [he20]
          exact hc15
        refine g_icmpYes X19 hx (pc := 38) 54 (b d8_38) (XT.ii_gt_t hn21) (by decide) ?_
        refine g_aload X19 hx (b d8_54) rfl rfl ?_
        exact own_eA X19 hx hret rfl rfl (b d8_56) eh19 (by decide) ⟨b2_1_18, k2_1_18, rfl, N19, K18, s_b2_1_18, r18_1⟩
      · have hp22 : (255 : Int32) < Xv3 := by
          have j1 := own_k32 (255 : Int32) (255) (by decide)
          have j2 := own_c32 (Xv3)
          have j3 := own_k32 (0 : Int32) (0) (by decide)
          have j4 := own_nlt32 Mp7
          have j5 := own_k32 (65535 : Int32) (65535) (by decide)
          have j6 := own_nlt32 Mp8
          have j7 : (0 : Int) ≤ (Xv3).toInt ∧ (Xv3).toInt ≤ 65535 := by constructor <;> omega
          have j8 := own_nlt32 Mp7
          have j9 := own_nlt32 Mp8
          have j10 := own_c32 (Xv0)
          have j11 := own_nlt32 Mp1
          have j12 := own_nlt32 Mp2
          have j13 := own_nlt32 hc2
          have j14 : (0 : Int) ≤ (Xv0).toInt ∧ (Xv0).toInt ≤ 255 := by constructor <;> omega
          have j15 := own_c32 (Xv1)
          have j16 := own_nlt32 Mp3
          have j17 := own_nlt32 Mp4
          have j18 := own_nlt32 hc8
          have j19 : (0 : Int) ≤ (Xv1).toInt ∧ (Xv1).toInt ≤ 255 := by constructor <;> omega
          have j20 := own_mxB Xv0 Xv1
          have j21 : (0 : Int) ≤ ((own_mx Xv0 Xv1)).toInt ∧ ((own_mx Xv0 Xv1)).toInt ≤ 255 := by constructor <;> omega
          have j22 := own_c32 (Xv2)
          have j23 := own_nlt32 Mp5
          have j24 := own_nlt32 Mp6
          have j25 := own_nlt32 hc15
          have j26 : (0 : Int) ≤ (Xv2).toInt ∧ (Xv2).toInt ≤ 255 := by constructor <;> omega
          have j27 := own_mxB (own_mx Xv0 Xv1) Xv2
          have j28 : (0 : Int) ≤ ((own_mx (own_mx Xv0 Xv1) Xv2)).toInt ∧ ((own_mx (own_mx Xv0 Xv1) Xv2)).toInt ≤ 255 := by constructor <;> omega
          have j29 := own_mxB (own_mx (own_mx Xv0 Xv1) Xv2) Xv3
          have j30 : (0 : Int) ≤ ((own_mx (own_mx (own_mx Xv0 Xv1) Xv2) Xv3)).toInt ∧ ((own_mx (own_mx (own_mx Xv0 Xv1) Xv2) Xv3)).toInt ≤ 65535 := by constructor <;> omega
          have j31 := Int32.lt_iff_toInt_lt.mp Mp9
          have j32 : (256 : Int) ≤ ((own_mx (own_mx (own_mx Xv0 Xv1) Xv2) Xv3)).toInt ∧ ((own_mx (own_mx (own_mx Xv0 Xv1) Xv2) Xv3)).toInt ≤ 65535 := by constructor <;> omega
          have j33 := Int32.lt_iff_toInt_lt.mp Mp9
          have j34 := own_nlt32 hc2
          have j35 := own_nlt32 hc8
          have j36 := own_nlt32 hc15
          have j37 := own_nlt32 Mp1
          have j38 := own_nlt32 Mp2
          have j39 := own_nlt32 Mp3
          have j40 := own_nlt32 Mp4
          have j41 := own_nlt32 Mp5
          have j42 := own_nlt32 Mp6
          rw [Int32.lt_iff_toInt_lt]
          omega
        refine own_cS X1 hx hZ hown (w47 hw) (w48 hw) (w45 hw) (w49 hw) (rm9_10 hw ov b1 kv Xv0 Xv1 Xv2 Xv3 k1 O1 (MF1.ext E1) hc2 V1 g_b1 (Nat.ne_of_lt (Nat.lt_of_lt_of_le MF1.lt (Nat.le_of_eq z1.symm))) hc8 hc15 hp22) e1 0 (by decide) (by decide) (by rw [hml]; rfl) [(.ref ov), (.int (0 : Int32)), (.ref b1), (.int (0 : Int32)), (.int (4 : Int32))] [] (lenOf pd_2 rfl) rfl rfl (Nat.le_of_eq rfl) (b d8_9) ?_
        rintro T23 _ L23 X23 ⟨rfl, M23, K23c, r23_0⟩
        have N23 := Fr.app N0 M23
        have O23 : Old Z n0 T23.heap := O1.keep K23c (allS g_b1 all0)
        have K23 : Keep h0 T23.heap [] := K1.trans K23c (allS (Or.inr s_b1) all0)
        refine g_istore X23 hx (b d8_12) (l' := #[.val (.ref ov), .val (.int (0 : Int32)), .val (.int (4 : Int32)), .val (.ref b1), .val (.int (3 : Int32)), .unset]) rfl ?_
        refine g_iload X23 hx (b d8_14) rfl ?_
        refine g_iloadN X23 hx (b d8_16) rfl ?_
        refine g_icmpNo X23 hx (b d8_17) (XT.ii_eq_f (by decide : ¬ ((3 : Int32) = (4 : Int32)))) ?_
        refine g_aloadN X23 hx (b d8_20) rfl rfl ?_
        refine g_iloadN X23 hx (b d8_21) rfl ?_
        refine g_iloadN X23 hx (b d8_22) rfl ?_
        have c24 := ((MF1.ext E1).keep K23c (ninS (Nat.ne_of_lt (Nat.lt_of_lt_of_le MF1.lt (Nat.le_of_eq z1.symm))) nin0))
        refine own_cS X23 hx hZ hown (w50 hw) (w51 hw) (w45 hw) (w52 hw) (rm10_4 hw ov kv Xv0 Xv1 Xv2 Xv3 O23 c24 P11 P12 P13) rfl 0 (by decide) (by decide) (by rw [hml]; rfl) [(.ref ov), (.int (0 : Int32)), (.int (4 : Int32))] [] (lenOf pd_6 rfl) rfl rfl (Nat.le_of_eq rfl) (b d8_23) ?_
        rintro T25 _ L25 X25 ⟨b2_1_25, k2_1_25, rfl, M25, K25c, r25_0, r25_1⟩
        have N25 := Fr.app N23 M25
        have g_b2_1_25 : n0 ≤ b2_1_25 := Nat.le_trans (own_n0 O23) r25_0
        have s_b2_1_25 : h0.size ≤ b2_1_25 := Nat.le_trans K23.1 r25_0
        have O25 : Old Z n0 T25.heap := O23.keep K25c all0
        have K25 : Keep h0 T25.heap [] := K23.trans K25c all0
        refine g_astore X25 hx (b d8_26) rfl (l' := #[.val (.ref ov), .val (.int (0 : Int32)), .val (.int (4 : Int32)), .val (.ref b1), .val (.int (3 : Int32)), .val (.ref b2_1_25)]) rfl ?_
        refine g_aload X25 hx (b d8_28) rfl rfl ?_
        refine g_iload X25 hx (b d8_30) rfl ?_
        refine own_cS X25 hx hZ hown (w66 hw) (w67 hw) (w45 hw) (w68 hw) (rm14_7 hw b2_1_25 k2_1_25 Xv0 Xv1 Xv2 Xv3 O25 P11 r25_1 P12 P13) rfl 0 (by decide) (by decide) (by rw [hml]; rfl) [(.ref b2_1_25), (.int (3 : Int32))] [] (lenOf pd_1 rfl) rfl rfl (Nat.le_of_eq rfl) (b d8_32) ?_
        rintro T26 _ L26 X26 ⟨rfl, M26, eh26⟩
        have N26 := Fr.app N25 M26
        refine g_sipush X26 hx (255) (b d8_35) rfl ?_
        have he27 := own_N0 Xv3 Mp7 Mp8
        have hn28 : (255 : Int32) < (own_c (own_c ((((own_b0 Xv3) &&& (255 : Int32)) <<< ((0 : Int32) &&& 31)) ||| (((own_b8 Xv3) &&& (255 : Int32)) <<< ((8 : Int32) &&& 31))))) := by
          rw [he27]
          exact hp22
        refine g_icmpYes X26 hx (pc := 38) 54 (b d8_38) (XT.ii_gt_t hn28) (by decide) ?_
        refine g_aload X26 hx (b d8_54) rfl rfl ?_
        exact own_eA X26 hx hret rfl rfl (b d8_56) eh26 (by decide) ⟨b2_1_25, k2_1_25, rfl, N26, K25, s_b2_1_25, r25_1⟩
theorem rm25_2 (hw : HW Z a0) (p1 p2 : Int32) (O0 : Old Z n0 h0) :
    MM l mn5 method_5_code 3 (some .int) (R4 0 0 0 0) #[(.int p1), (.int p2), (.int (0 : Int32))] Z h0 (fun v h L => v = some (.int (0 : Int32)) ∧ Fr n0 L ∧ h = h0) := by
  refine own_hN n0 rfl pn_0 ?_
  intro p e s m below meth c s₁ hx b hml hret hZ hown hnm X0 e0 N0
  refine own_ct (mkF m 0 #[.val (.int p1), .val (.int p2), .val (.int (0 : Int32))] []) rfl ?_
  refine g_iloadN X0 hx (b d25_0) rfl ?_
  refine g_ifYes X0 hx (pc := 1) 20 (b d25_1) (XT.i0_eq_t (by decide : (0 : Int32) = (0 : Int32))) (by decide) ?_
  refine g_iconst X0 hx (0) (b d25_20) rfl ?_
  exact own_eI X0 hx hret (b d25_21) e0 (by decide) ⟨rfl, N0, rfl⟩
def Q_rm4_1 (Z : State) (a1 : Addr) (a2 : Addr) (h0 : Heap) (n0 : Nat) (v : Option Value) (h : Heap) (vm : Vm) (L : List Loc) : Prop := ∃ (b2 : Addr) (t2 : Addr) (kk2 : ClassId), v = none ∧ Fr n0 L ∧ Keep h0 h [a1] ∧ Fld Z h a1 "java/lang/String" "value" "[B" (.ref t2) ∧ Fld Z h a1 "java/lang/String" "coder" "B" (.int (0 : Int32)) ∧ Exa Z h b2 "java/lang/String" ∧ Fld Z h b2 "java/lang/String" "coder" "B" (.int (0 : Int32)) ∧ Fld Z h b2 "java/lang/String" "value" "[B" (.ref t2) ∧ Arv Z h t2 kk2 .byte (0 : Int32) [] (.int (0 : Int32)) ∧ IB Z vm [""] ∧ Lit (Z.setVm vm) "java/lang/String" 7 b2
theorem rm4_1 (l : Launch) (Z : State) (a0 : Array Value) (hw : ∀ d ∈ tables_1, d.before a0 Z = true) (ws : List Jvm.Cond) (a1 : Addr) (a2 : Addr) (h0 : Heap) (n0 : Nat) (O0 : Old Z n0 h0) (HH_0 : Jvm.Lit.constHeld Z "java/lang/String" 7) (HC : Jvm.Lit.compactW.before a0 Z = true) (P3 : Exa Z h0 a1 "java/lang/String") (P4 : Fld Z h0 a1 "java/lang/String" "value" "[B" .null) (P5 : n0 ≤ a1) (P6 : Fld Z h0 a1 "java/lang/String" "coder" "B" (.int (0 : Int32))) :
    MetFree l mn14 (head1 (Jvm.Cond.code mn14 jdk_42_method_149_code 6 none :: ws) (R4 1 2 4 12)) (fun a U => a = #[(.ref a1), (.ref a2), (.int (0 : Int32)), (.int (0 : Int32)), .null] ∧ Z.Warmed39 U.vm ∧ U.heap = h0 ∧ (IB Z U.vm [])) (fun _ _ _ _ _ => True) (fun _ U o U' => ∃ v L, o = .returned v ∧ Q_rm4_1 Z a1 a2 h0 n0 v U'.heap U'.vm L ∧ ReturnedEndW U o U' L (R4 1 2 4 12).cells (R4 1 2 4 12).slots) := by
  refine MetFree.of_bodySF (plainFor_of_name pn_3) hisR ?_
  intro p e s m args below meth c s₁ Bd hml0 hP hK
  obtain ⟨rfl, hZ, hh, VP1⟩ := hP
  have hx := Bd.exec
  have hby := Bd.bytes
  have hml : c.maxLocals = 6 := hml0
  have hown : s.vm.findClass "java/lang/String" = some m.cls := findClass_of_methodNamed Bd.named
  have hnm := (name_of_methodNamed Bd.named Bd.method).1
  have X0 : Stand p l e (R4 1 2 4 12) s m #[(.ref a1), (.ref a2), (.int (0 : Int32)), (.int (0 : Int32)), .null] below meth c s₁ [] 0 0 := Stand.of_body Bd
  have e0 : s₁.heap = h0 := by rw [← hh, Bd.state]; rfl
  have N0 := Fr.nil n0
  have b : ∀ {pc : Nat} {i : Instr} {k : Nat}, decode jdk_42_method_149_code pc = .ok (i, k) → decode c.code pc = .ok (i, k) := fun h => hb hby h
  refine Go.start (P := (fun o U' => ∃ v L, o = .returned v ∧ Q_rm4_1 Z a1 a2 h0 n0 v U'.heap U'.vm L ∧ ReturnedEndW s o U' L (R4 1 2 4 12).cells (R4 1 2 4 12).slots)) (castTop (g' := (mkF m 0 #[.val (.ref a1), .val (.ref a2), .val (.int (0 : Int32)), .val (.int (0 : Int32)), .val .null, .unset] [])) (by first | rfl | simp [entryFrame, mkF, argsToLocals, Value.category]) (T := s₁)) ?_
  refine g_aloadN X0 hx (b d4_0) rfl rfl ?_
  obtain ⟨T1, X1, e1, st1⟩ := initO X0 hx hZ hown (w22 hw) (w23 hw) (w24 hw) e0 (g := (mkF m 1 #[.val (.ref a1), .val (.ref a2), .val (.int (0 : Int32)), .val (.int (0 : Int32)), .val .null, .unset] [(.ref a1)])) rfl (by rw [hml]; rfl) rfl (b d4_1) (by decide) (W := 0) (by show 2 * 0 + _ ≤ _; exact Nat.le_of_eq rfl) (by decide)
  refine Go.st st1 ?_
  show Go p e below _ (T1.setTop (mkF m 4 #[.val (.ref a1), .val (.ref a2), .val (.int (0 : Int32)), .val (.int (0 : Int32)), .val .null, .unset] []))
  refine g_iloadN X1 hx (b d4_4) rfl ?_
  refine g_ifNo X1 hx (b d4_5) (XT.i0_ne_f (by decide : (0 : Int32) = (0 : Int32))) ?_
  refine g_aloadN X1 hx (b d4_8) rfl rfl ?_
  obtain ⟨b2, T2, h2, k2, t2, kk2, X2, e2, E2, hS2, hk2, hZ2, hown2, A2, Fc2, Fv2, V2, -, -, I2, L2, st2⟩ := ldcSVL (s := s) (vm0 := s.vm) X1 hx hZ hown (w25 hw) (own_wS hw) e1 (State.WarmedH.since (State.WarmedH.refl s) 0) (Nat.zero_le _) (Fr.nil _) (fun b cl q => by rw [hh]; exact O0.2.2 b cl q) VP1 (by decide) HH_0 HC (vs := []) (z := (0 : Int32)) ⟨by decide, rfl⟩ (by decide) (by decide) (g := (mkF m 9 #[.val (.ref a1), .val (.ref a2), .val (.int (0 : Int32)), .val (.int (0 : Int32)), .val .null, .unset] [(.ref a1)])) rfl (b d4_9) (n := 0) (by decide) (by decide) (by decide) (by decide)
  have hZ := hZ2
  have hown := hown2
  have O2 : Old Z n0 h2 := O0.ext E2
  have K2 : Keep h0 h2 [a1] := (Keep.refl h0 [a1]).ext E2
  have ne2_a1 : b2 ≠ a1 := Fld.ne Fv2 (P4.ext E2) nofun
  refine Go.st st2 ?_
  show Go p e below _ (T2.setTop (mkF m 11 #[.val (.ref a1), .val (.ref a2), .val (.int (0 : Int32)), .val (.int (0 : Int32)), .val .null, .unset] [(.ref b2), (.ref a1)]))
  obtain ⟨T3, X3, e3, st3⟩ := getF X2 hx hZ hown (host := "") (Or.inl (w31 hw)) Via.refl e2 Fv2 (g := (mkF m 11 #[.val (.ref a1), .val (.ref a2), .val (.int (0 : Int32)), .val (.int (0 : Int32)), .val .null, .unset] [(.ref b2), (.ref a1)])) rfl rfl (b d4_11)
  refine Go.st st3 ?_
  obtain ⟨T4, h4, X4, e4, W4, st4⟩ := putF X3 hx hZ hown (host := "") (Or.inl (w31 hw)) Via.refl e3 (P4.ext E2) (P3.ext E2) (Or.inr ⟨(w27 hw), rfl, hnm⟩) (w12 hw) (ty := (.array .byte)) (by decide) rfl rfl (g := (mkF m 14 #[.val (.ref a1), .val (.ref a2), .val (.int (0 : Int32)), .val (.int (0 : Int32)), .val .null, .unset] [(.ref t2), (.ref a1)])) rfl rfl (b d4_14)
  have F4 : Fld Z h4 a1 "java/lang/String" "value" "[B" (.ref t2) := (P4.ext E2).same W4
  have N4 := Fr.snoc X4 N0 P5
  have O4 : Old Z n0 h4 := O2.wr W4 P5
  have K4 : Keep h0 h4 [a1] := K2.wr W4 (Or.inl (List.mem_of_getElem? (i := 0) rfl))
  refine Go.st st4 ?_
  refine g_aloadN X4 hx (b d4_17) rfl rfl ?_
  refine Go.st (fun t k => ldcAgain (s := s) (vm0 := T2.vm) X4 hx hZ hown (w25 hw) L2 (g := (mkF m 18 #[.val (.ref a1), .val (.ref a2), .val (.int (0 : Int32)), .val (.int (0 : Int32)), .val .null, .unset] [(.ref a1)])) rfl (b d4_18) t k) ?_
  show Go p e below _ (T4.setTop (mkF m 20 #[.val (.ref a1), .val (.ref a2), .val (.int (0 : Int32)), .val (.int (0 : Int32)), .val .null, .unset] [(.ref b2), (.ref a1)]))
  obtain ⟨T6, X6, e6, st6⟩ := getF X4 hx hZ hown (host := "") (Or.inl (w32 hw)) Via.refl e4 (Fc2.other W4 (Or.inl ne2_a1)) (g := (mkF m 20 #[.val (.ref a1), .val (.ref a2), .val (.int (0 : Int32)), .val (.int (0 : Int32)), .val .null, .unset] [(.ref b2), (.ref a1)])) rfl rfl (b d4_20)
  refine Go.st st6 ?_
  have c7 := ((P6.ext E2).other W4 (Or.inr (slot_ne (Or.inr (w28 hw)) (Or.inr (w27 hw)) (by decide) (t := .byte) (t' := (.array .byte)) (by decide) (by decide))))
  obtain ⟨T8, h8, X8, e8, W8, st8⟩ := putFN X6 hx hZ hown (w32 hw) Via.refl e6 c7 ((P3.ext E2).wr W4) (Or.inr ⟨(w28 hw), rfl, hnm⟩) (w12 hw) (ty := .byte) (v' := (.int (0 : Int32))) (by decide) rfl (by decide) (g := (mkF m 23 #[.val (.ref a1), .val (.ref a2), .val (.int (0 : Int32)), .val (.int (0 : Int32)), .val .null, .unset] [(.int (0 : Int32)), (.ref a1)])) rfl rfl (b d4_23)
  have F8 : Fld Z h8 a1 "java/lang/String" "coder" "B" (.int (0 : Int32)) := c7.same W8
  have N8 := Fr.snoc X8 N4 P5
  have O8 : Old Z n0 h8 := O4.wr W8 P5
  have K8 : Keep h0 h8 [a1] := K4.wr W8 (Or.inl (List.mem_of_getElem? (i := 0) rfl))
  refine Go.st st8 ?_
  obtain ⟨fs, hr, hrun, hended, hEnd⟩ := X8.leaveW hS2 (by rw [e8]; exact (Nat.le_trans (Nat.le_trans hk2 (Nat.le_of_eq W4.size.symm)) (Nat.le_of_eq W8.size.symm))) (v := none) (fun _ => rfl)
  have c9 := (F4.other W8 (Or.inr (slot_ne (Or.inr (w27 hw)) (Or.inr (w28 hw)) (by decide) (t := (.array .byte)) (t' := .byte) (by decide) (by decide))))
  have c10 := ((Fc2.other W4 (Or.inl ne2_a1)).other W8 (Or.inl ne2_a1))
  have c11 := ((Fv2.other W4 (Or.inl ne2_a1)).other W8 (Or.inl ne2_a1))
  have c12 := ((V2.other W4 (Ne.symm (Exa.neArv (P3.ext E2) V2 (w12 hw)))).other W8 (Ne.symm (Exa.neArv (P3.ext E2) V2 (w12 hw))))
  refine ⟨_, _, ?_, hrun, hended, _, _, rfl, ?_, ⟨hEnd.1, hEnd.2.1, hEnd.2.2.1, hEnd.2.2.2.mono (by decide) (by decide)⟩⟩
  · exact X8.returnOut hx Bd.returns (b d4_26) hr
  · show Q_rm4_1 Z a1 a2 h0 n0 _ T8.heap T8.vm _
    rw [e8]
    exact ⟨b2, t2, kk2, rfl, N8, K8, c9, F8, ((A2.wr W4).wr W8), c10, c11, c12, (own_ibW I2 X8.warmed), (own_litW L2 X8.warmed)⟩
def Q_rm3_1 (Z : State) (a1 : Addr) (a2 : Addr) (kz3 : ClassId) (h0 : Heap) (n0 : Nat) (v : Option Value) (h : Heap) (vm : Vm) (L : List Loc) : Prop := ∃ (b2_2 : Addr) (t2_2 : Addr) (kk2_2 : ClassId), v = none ∧ Fr n0 L ∧ Keep h0 h [a1] ∧ Fld Z h a1 "java/lang/String" "value" "[B" (.ref t2_2) ∧ Fld Z h a1 "java/lang/String" "coder" "B" (.int (0 : Int32)) ∧ Exa Z h b2_2 "java/lang/String" ∧ Fld Z h b2_2 "java/lang/String" "coder" "B" (.int (0 : Int32)) ∧ Fld Z h b2_2 "java/lang/String" "value" "[B" (.ref t2_2) ∧ Arv Z h t2_2 kk2_2 .byte (0 : Int32) [] (.int (0 : Int32)) ∧ IB Z vm [""] ∧ Lit (Z.setVm vm) "java/lang/String" 7 b2_2
theorem rm3_1 (l : Launch) (Z : State) (a0 : Array Value) (hw : ∀ d ∈ tables_1, d.before a0 Z = true) (ws : List Jvm.Cond) (a1 : Addr) (a2 : Addr) (kz3 : ClassId) (h0 : Heap) (n0 : Nat) (O0 : Old Z n0 h0) (P1 : Arv Z h0 a2 kz3 .char (0 : Int32) [] (.int (0 : Int32))) (HH_0 : Jvm.Lit.constHeld Z "java/lang/String" 7) (HC : Jvm.Lit.compactW.before a0 Z = true) (P4 : Exa Z h0 a1 "java/lang/String") (P5 : Fld Z h0 a1 "java/lang/String" "value" "[B" .null) (P6 : n0 ≤ a1) (P7 : Fld Z h0 a1 "java/lang/String" "coder" "B" (.int (0 : Int32))) :
    MetFree l mn15 (head1 (Jvm.Cond.code mn15 jdk_42_method_3_code 2 none :: ws) (R4 2 2 4 29)) (fun a U => a = #[(.ref a1), (.ref a2)] ∧ Z.Warmed39 U.vm ∧ U.heap = h0 ∧ (IB Z U.vm [])) (fun _ _ _ _ _ => True) (fun _ U o U' => ∃ v L, o = .returned v ∧ Q_rm3_1 Z a1 a2 kz3 h0 n0 v U'.heap U'.vm L ∧ ReturnedEndW U o U' L (R4 2 2 4 29).cells (R4 2 2 4 29).slots) := by
  refine MetFree.of_bodySF (plainFor_of_name pn_3) hisR ?_
  intro p e s m args below meth c s₁ Bd hml0 hP hK
  obtain ⟨rfl, hZ, hh, VP1⟩ := hP
  have hx := Bd.exec
  have hby := Bd.bytes
  have hml : c.maxLocals = 2 := hml0
  have hown : s.vm.findClass "java/lang/String" = some m.cls := findClass_of_methodNamed Bd.named
  have hnm := (name_of_methodNamed Bd.named Bd.method).1
  have X0 : Stand p l e (R4 2 2 4 29) s m #[(.ref a1), (.ref a2)] below meth c s₁ [] 0 0 := Stand.of_body Bd
  have e0 : s₁.heap = h0 := by rw [← hh, Bd.state]; rfl
  have N0 := Fr.nil n0
  have b : ∀ {pc : Nat} {i : Instr} {k : Nat}, decode jdk_42_method_3_code pc = .ok (i, k) → decode c.code pc = .ok (i, k) := fun h => hb hby h
  refine Go.start (P := (fun o U' => ∃ v L, o = .returned v ∧ Q_rm3_1 Z a1 a2 kz3 h0 n0 v U'.heap U'.vm L ∧ ReturnedEndW s o U' L (R4 2 2 4 29).cells (R4 2 2 4 29).slots)) (castTop (g' := (mkF m 0 #[.val (.ref a1), .val (.ref a2)] [])) (by first | rfl | simp [entryFrame, mkF, argsToLocals, Value.category]) (T := s₁)) ?_
  refine g_aloadN X0 hx (b d3_0) rfl rfl ?_
  refine g_aloadN X0 hx (b d3_1) rfl rfl ?_
  refine g_iconst X0 hx (0) (b d3_2) rfl ?_
  refine g_aloadN X0 hx (b d3_3) rfl rfl ?_
  obtain ⟨cl1, Ar1, -, S1, M1, -, -⟩ := id P1
  refine Go.st (fun t k => X0.arraylength hx (by rw [e0]; exact Ar1.1) (State.isArrayOf_alike hZ.alike Ar1.2.1) (g := (mkF m 4 #[.val (.ref a1), .val (.ref a2)] [(.ref a2), (.int (0 : Int32)), (.ref a2), (.ref a1)])) rfl rfl (b d3_4) t k) ?_
  rw [len_of S1 M1]
  refine g_aconstNull X0 hx (b d3_5) ?_
  obtain ⟨_, _, ⟨T2, L2, k2, n2⟩, -, X2, hS2, hg2, ⟨Lc2, hQ2, l2, y2, z2⟩, st2⟩ := X0.specialBackS hx (y := mn14) rfl hown (mvT hZ (w18 hw)) (mvT hZ (w19 hw)) (mvT hZ (w21 hw)) (by decide) (own_backOfV (VP := fun vm => IB Z vm []) (Q := Q_rm4_1 Z a1 a2 h0 n0) (rm := (R4 1 2 4 12)) (W := 0) (rm4_1 l Z a0 hw [] a1 a2 h0 n0 O0 HH_0 HC P4 P5 P6 P7) hZ (w21 hw) (w13 hw) (by decide) (by decide)) (g := (mkF m 6 #[.val (.ref a1), .val (.ref a2)] [.null, (.int (0 : Int32)), (.int (0 : Int32)), (.ref a2), (.ref a1)])) rfl (by rw [hml]; rfl) (Steps.refl _) (a := a1) (argsL := [(.ref a2), (.int (0 : Int32)), (.int (0 : Int32)), .null]) (rest := []) (lenOf pd_9 rfl) rfl (by show 2 * 0 + _ ≤ _; exact Nat.le_of_eq rfl) (b d3_6) (fun vm₁ hw₁ => ⟨rfl, e0, (own_ibW VP1 hw₁), (by decide : 0 + 2 ≤ _), (by decide : 0 + 4 ≤ _)⟩)
  dsimp only [Pt.U, Pt.locs, Pt.cells, Pt.slots] at X2 l2 y2 z2 st2 hQ2 hS2 hg2
  subst l2 y2 z2
  have hZ : Z.Warmed39 (s.setVm T2.vm).vm := State.Warmed39.trans (t := s) hZ hS2.1
  have hown : (s.setVm T2.vm).vm.findClass "java/lang/String" = some m.cls := by rw [show (s.setVm T2.vm).vm = T2.vm from rfl, hS2.1.alike.findClass]; exact hown
  have hS20 := hS2.1
  obtain ⟨b2_2, t2_2, kk2_2, rfl, M2, K2c, r2_0, r2_1, r2_2, r2_3, r2_4, r2_5, vq2_0, vq2_1⟩ := hQ2
  have N2 := Fr.app N0 M2
  have O2 : Old Z n0 T2.heap := O0.keep K2c (allS P6 all0)
  have K2 : Keep h0 T2.heap [a1] := (Keep.refl h0 [a1]).trans K2c (allS (Or.inl (List.mem_of_getElem? (i := 0) rfl)) all0)
  refine Go.tr st2 ?_
  obtain ⟨fs, hr, hrun, hended, hEnd⟩ := X2.leaveW hS2 (Nat.le_refl _) (v := none) (fun _ => rfl)
  refine ⟨_, _, ?_, hrun, hended, _, _, rfl, ?_, ⟨hEnd.1, hEnd.2.1, hEnd.2.2.1, hEnd.2.2.2.mono (by decide) (by decide)⟩⟩
  · exact X2.returnOut hx Bd.returns (b d3_9) hr
  · show Q_rm3_1 Z a1 a2 kz3 h0 n0 _ T2.heap T2.vm _
    exact ⟨b2_2, t2_2, kk2_2, rfl, N2, K2, r2_0, r2_1, r2_2, r2_3, r2_4, r2_5, (own_ibW vq2_0 X2.warmed), (own_litW vq2_1 X2.warmed)⟩
def Q_rm2_1 (Z : State) (p1 : Int32) (p2 : Int32) (p3 : Int32) (p4 : Int32) (h0 : Heap) (n0 : Nat) (v : Option Value) (h : Heap) (vm : Vm) (L : List Loc) : Prop := ∃ (b2_2_3 : Addr) (t2_2_3 : Addr) (b1 : Addr) (kk2_2_3 : ClassId), v = some (.ref b1) ∧ Fr n0 L ∧ Keep h0 h [] ∧ h0.size ≤ b1 ∧ Exa Z h b1 "java/lang/String" ∧ Fld Z h b1 "java/lang/String" "value" "[B" (.ref t2_2_3) ∧ Fld Z h b1 "java/lang/String" "coder" "B" (.int (0 : Int32)) ∧ Exa Z h b2_2_3 "java/lang/String" ∧ Fld Z h b2_2_3 "java/lang/String" "coder" "B" (.int (0 : Int32)) ∧ Fld Z h b2_2_3 "java/lang/String" "value" "[B" (.ref t2_2_3) ∧ Arv Z h t2_2_3 kk2_2_3 .byte (0 : Int32) [] (.int (0 : Int32)) ∧ IB Z vm [""] ∧ Lit (Z.setVm vm) "java/lang/String" 7 b2_2_3
theorem rm2_1 (l : Launch) (Z : State) (a0 : Array Value) (hw : ∀ d ∈ tables_1, d.before a0 Z = true) (ws : List Jvm.Cond) (p1 : Int32) (p2 : Int32) (p3 : Int32) (p4 : Int32) (h0 : Heap) (n0 : Nat) (O0 : Old Z n0 h0) (HH_0 : Jvm.Lit.constHeld Z "java/lang/String" 7) (HC : Jvm.Lit.compactW.before a0 Z = true) :
    MetFree l mn16 (head1 (Jvm.Cond.code mn16 method_6_code 6 (some (.object "java/lang/String")) :: ws) (R4 3 4 8 43)) (fun a U => a = #[(.int (0 : Int32)), (.int p1), (.int p2), (.int p3), (.int p4)] ∧ Z.Warmed39 U.vm ∧ U.heap = h0 ∧ (IB Z U.vm [])) (fun _ _ _ _ _ => True) (fun _ U o U' => ∃ v L, o = .returned v ∧ Q_rm2_1 Z p1 p2 p3 p4 h0 n0 v U'.heap U'.vm L ∧ ReturnedEndW U o U' L (R4 3 4 8 43).cells (R4 3 4 8 43).slots) := by
  refine MetFree.of_bodySF (plainFor_of_name pn_0) hisR ?_
  intro p e s m args below meth c s₁ Bd hml0 hP hK
  obtain ⟨rfl, hZ, hh, VP1⟩ := hP
  have hx := Bd.exec
  have hby := Bd.bytes
  have hml : c.maxLocals = 6 := hml0
  have hown : s.vm.findClass "com/example/outbound_courier/outboundcourier/util/CharactersIsOneToPinLaw" = some m.cls := findClass_of_methodNamed Bd.named
  have hnm := (name_of_methodNamed Bd.named Bd.method).1
  have X0 : Stand p l e (R4 3 4 8 43) s m #[(.int (0 : Int32)), (.int p1), (.int p2), (.int p3), (.int p4)] below meth c s₁ [] 0 0 := Stand.of_body Bd
  have e0 : s₁.heap = h0 := by rw [← hh, Bd.state]; rfl
  have N0 := Fr.nil n0
  have b : ∀ {pc : Nat} {i : Instr} {k : Nat}, decode method_6_code pc = .ok (i, k) → decode c.code pc = .ok (i, k) := fun h => hb hby h
  refine Go.start (P := (fun o U' => ∃ v L, o = .returned v ∧ Q_rm2_1 Z p1 p2 p3 p4 h0 n0 v U'.heap U'.vm L ∧ ReturnedEndW s o U' L (R4 3 4 8 43).cells (R4 3 4 8 43).slots)) (castTop (g' := (mkF m 0 #[.val (.int (0 : Int32)), .val (.int p1), .val (.int p2), .val (.int p3), .val (.int p4), .unset] [])) (by first | rfl | simp [entryFrame, mkF, argsToLocals, Value.category]) (T := s₁)) ?_
  refine g_iloadN X0 hx (b d2_0) rfl ?_
  refine g_ifNo X0 hx (b d2_1) (XT.i0_ne_f (by decide : (0 : Int32) = (0 : Int32))) ?_
  obtain ⟨T1, h1, X1, e1, E1, A1, D1, -, st1⟩ := newO X0 hx hZ hown (w11 hw) (w12 hw) (w13 hw) e0 (g := (mkF m 4 #[.val (.int (0 : Int32)), .val (.int p1), .val (.int p2), .val (.int p3), .val (.int p4), .unset] [])) rfl (b d2_4) (by decide) (by decide)
  obtain ⟨b1, z1⟩ : ∃ z, z = h0.size := ⟨_, rfl⟩
  rw [← z1] at A1 D1 st1
  have g_b1 : n0 ≤ b1 := Nat.le_trans (own_n0 O0) (Nat.le_of_eq z1.symm)
  have s_b1 : h0.size ≤ b1 := Nat.le_trans (Keep.refl h0 []).1 (Nat.le_of_eq z1.symm)
  have O1 : Old Z n0 h1 := O0.ext E1
  have K1 : Keep h0 h1 [] := (Keep.refl h0 []).ext E1
  have f1_27 : Fld Z h1 b1 "java/lang/String" "value" "[B" .null := D1 (Or.inr (w27 hw)) (ty := (.array .byte)) (by decide)
  have f1_28 : Fld Z h1 b1 "java/lang/String" "coder" "B" (.int (0 : Int32)) := D1 (Or.inr (w28 hw)) (ty := .byte) (by decide)
  refine Go.st st1 ?_
  refine Go.st (fun t k => XS.dup X1.here hx rfl (b d2_7) rfl rfl k) ?_
  refine g_iconst X1 hx (0) (b d2_8) rfl ?_
  obtain ⟨T2, h2, k2, X2, e2, E2, A2, st2⟩ := newP X1 hx hZ (aty := .char) (w14 hw) e1 (g := (mkF m 9 #[.val (.int (0 : Int32)), .val (.int p1), .val (.int p2), .val (.int p3), .val (.int p4), .unset] [(.int (0 : Int32)), (.ref b1), (.ref b1)])) rfl (b d2_9) rfl (by decide) (cap := 0) (by decide) (by decide) (by decide) (by decide)
  obtain ⟨b2, z2⟩ : ∃ z, z = h1.size := ⟨_, rfl⟩
  rw [← z2] at A2 st2
  have g_b2 : n0 ≤ b2 := Nat.le_trans (own_n0 O1) (Nat.le_of_eq z2.symm)
  have s_b2 : h0.size ≤ b2 := Nat.le_trans K1.1 (Nat.le_of_eq z2.symm)
  have V2 : Arv Z h2 b2 k2 .char (0 : Int32) [] (.int (0 : Int32)) := (Arv.new A2 (by decide)).pad (pad_rep [] (.int (0 : Int32)) 0)
  have O2 : Old Z n0 h2 := O1.ext E2
  have K2 : Keep h0 h2 [] := K1.ext E2
  refine Go.st st2 ?_
  obtain ⟨_, _, ⟨T3, L3, k3, n3⟩, -, X3, hS3, hg3, ⟨Lc3, hQ3, l3, y3, z3⟩, st3⟩ := X2.specialBackS hx (y := mn15) rfl hown (mvT hZ (w15 hw)) (mvT hZ (w16 hw)) (mvT hZ (w17 hw)) (by decide) (own_backOfV (VP := fun vm => IB Z vm []) (Q := Q_rm3_1 Z b1 b2 k2 h2 n0) (rm := (R4 2 2 4 29)) (W := 1) (rm3_1 l Z a0 hw [] b1 b2 k2 h2 n0 O2 V2 HH_0 HC (A1.ext E2) (f1_27.ext E2) g_b1 (f1_28.ext E2)) hZ (w17 hw) (w13 hw) (by decide) (by decide)) (g := (mkF m 11 #[.val (.int (0 : Int32)), .val (.int p1), .val (.int p2), .val (.int p3), .val (.int p4), .unset] [(.ref b2), (.ref b1), (.ref b1)])) rfl (by rw [hml]; rfl) (Steps.refl _) (a := b1) (argsL := [(.ref b2)]) (rest := [(.ref b1)]) (lenOf pd_10 rfl) rfl (by show 2 * 0 + _ ≤ _; exact Nat.le_of_eq rfl) (b d2_11) (fun vm₁ hw₁ => ⟨rfl, e2, (own_ibW VP1 hw₁), (by decide : 2 + 2 ≤ _), (by decide : 4 + 4 ≤ _)⟩)
  dsimp only [Pt.U, Pt.locs, Pt.cells, Pt.slots] at X3 l3 y3 z3 st3 hQ3 hS3 hg3
  subst l3 y3 z3
  have hZ : Z.Warmed39 (s.setVm T3.vm).vm := State.Warmed39.trans (t := s) hZ hS3.1
  have hown : (s.setVm T3.vm).vm.findClass "com/example/outbound_courier/outboundcourier/util/CharactersIsOneToPinLaw" = some m.cls := by rw [show (s.setVm T3.vm).vm = T3.vm from rfl, hS3.1.alike.findClass]; exact hown
  have hS30 := hS3.1
  obtain ⟨b2_2_3, t2_2_3, kk2_2_3, rfl, M3, K3c, r3_0, r3_1, r3_2, r3_3, r3_4, r3_5, vq3_0, vq3_1⟩ := hQ3
  have N3 := Fr.app N0 M3
  have O3 : Old Z n0 T3.heap := O2.keep K3c (allS g_b1 all0)
  have K3 : Keep h0 T3.heap [] := K2.trans K3c (allS (Or.inr s_b1) all0)
  refine Go.tr st3 ?_
  obtain ⟨fs, hr, hrun, hended, hEnd⟩ := X3.leaveW hS3 (Nat.le_refl _) (v := some (.ref b1)) (fun h => by rw [Bd.returns] at h; cases h)
  refine ⟨_, _, ?_, hrun, hended, _, _, rfl, ?_, ⟨hEnd.1, hEnd.2.1, hEnd.2.2.1, hEnd.2.2.2.mono (by decide) (by decide)⟩⟩
  · exact own_retA X3 hx Bd.returns rfl rfl (b d2_14) hr
  · show Q_rm2_1 Z p1 p2 p3 p4 h0 n0 _ T3.heap T3.vm _
    exact ⟨b2_2_3, t2_2_3, b1, kk2_2_3, rfl, N3, K3, s_b1, ((A1.ext E2).keep K3c), r3_0, r3_1, r3_2, r3_3, r3_4, r3_5, (own_ibW vq3_0 X3.warmed), (own_litW vq3_1 X3.warmed)⟩
theorem rm7_1 (hw : HW Z a0) (a1 a2 : Addr) (kz3 : ClassId) (O0 : Old Z n0 h0) (P1 : Fld Z h0 a1 "java/lang/String" "value" "[B" (.ref a2)) (P2 : Arv Z h0 a2 kz3 .byte (0 : Int32) [] (.int (0 : Int32))) :
    MM l mn17 jdk_42_method_55_code 1 (some .boolean) (R4 0 0 0 0) #[(.ref a1)] Z h0 (fun v h L => v = some (.int (1 : Int32)) ∧ Fr n0 L ∧ h = h0) := by
  refine own_hN n0 rfl pn_3 ?_
  intro p e s m below meth c s₁ hx b hml hret hZ hown hnm X0 e0 N0
  refine own_ct (mkF m 0 #[.val (.ref a1)] []) rfl ?_
  refine g_aloadN X0 hx (b d7_0) rfl rfl ?_
  obtain ⟨T1, X1, e1, st1⟩ := getF X0 hx hZ hown (host := "") (Or.inl (w31 hw)) Via.refl e0 P1 (g := (mkF m 1 #[.val (.ref a1)] [(.ref a1)])) rfl rfl (b d7_1)
  refine Go.st st1 ?_
  obtain ⟨cl2, Ar2, -, S2, M2, -, -⟩ := id P2
  refine Go.st (fun t k => X1.arraylength hx (by rw [e1]; exact Ar2.1) (State.isArrayOf_alike hZ.alike Ar2.2.1) (g := (mkF m 4 #[.val (.ref a1)] [(.ref a2)])) rfl rfl (b d7_4) t k) ?_
  rw [len_of S2 M2]
  refine g_ifNo X1 hx (b d7_5) (XT.i0_ne_f (by decide : (0 : Int32) = (0 : Int32))) ?_
  refine g_iconst X1 hx (1) (b d7_8) rfl ?_
  refine g_goto X1 hx (pc := 9) 13 (b d7_9) (by decide) ?_
  exact own_eB X1 hx hret (by simp) rfl (b d7_13) e1 (by decide) ⟨rfl, N0, rfl⟩
theorem rm6_1 (hw : HW Z a0) (a1 : Addr) (p2 : Int32) (a3 : Addr) (kz4 : ClassId) (O0 : Old Z n0 h0) (P1 : Exa Z h0 a1 "java/lang/String") (P2 : Fld Z h0 a1 "java/lang/String" "value" "[B" (.ref a3)) (P3 : Arv Z h0 a3 kz4 .byte (0 : Int32) [] (.int (0 : Int32))) :
    MM l mn18 prog_38_method_2_code 2 (some .boolean) (R4 1 0 0 12) #[(.ref a1), (.int p2)] Z h0 (fun v h L => v = some (.int (0 : Int32)) ∧ Fr n0 L ∧ h = h0) := by
  refine own_hN n0 rfl pn_4 ?_
  intro p e s m below meth c s₁ hx b hml hret hZ hown hnm X0 e0 N0
  refine own_ct (mkF m 0 #[.val (.ref a1), .val (.int p2)] []) rfl ?_
  refine g_aloadN X0 hx (b d6_0) rfl rfl ?_
  refine Go.st (fun t k => XS.ifnullNo X0.here hx rfl (b d6_1) rfl k) ?_
  refine g_aloadN X0 hx (b d6_4) rfl rfl ?_
  refine own_cV X0 hx hZ hown (w37 hw) (w38 hw) (notFace_of_selects (args := #[]) (mvT hZ (w40 hw))) (w40 hw) (w39 hw) (w13 hw) (w41 hw) (rm7_1 hw a1 a3 kz4 O0 P2 P3) e0 0 (by decide) (by decide) (by rw [hml]; rfl) P1 [] [] (lenOf pd_12 rfl) rfl rfl (Nat.le_of_eq rfl) (b d6_5) ?_
  rintro T1 _ L1 X1 ⟨rfl, M1, eh1⟩
  have N1 := Fr.app N0 M1
  refine g_ifYes X1 hx (pc := 8) 28 (b d6_8) (XT.i0_ne_t (by decide : ¬ ((1 : Int32) = (0 : Int32)))) (by decide) ?_
  refine g_iconst X1 hx (0) (b d6_28) rfl ?_
  exact own_eB X1 hx hret (by simp) rfl (b d6_29) eh1 (by decide) ⟨rfl, N1, rfl⟩
theorem rm15_1 (hw : HW Z a0) (a1 : Addr) (kz2 : ClassId) (p3 : Int32) (O0 : Old Z n0 h0) (P1 : Arv Z h0 a1 kz2 .byte (2 : Int32) [(.int (own_b0 (own_c p3))), (.int (own_b8 (own_c p3)))] (.int (0 : Int32))) :
    MM l mn19 jdk_52_method_15_code 2 (some .byte) (R4 0 0 0 0) #[(.ref a1), (.int (1 : Int32))] Z h0 (fun v h L => v = some (.int (1 : Int32)) ∧ Fr n0 L ∧ h = h0) := by
  refine own_hN n0 rfl pn_2 ?_
  intro p e s m below meth c s₁ hx b hml hret hZ hown hnm X0 e0 N0
  refine own_ct (mkF m 0 #[.val (.ref a1), .val (.int (1 : Int32))] []) rfl ?_
  refine g_iloadN X0 hx (b d15_0) rfl ?_
  refine g_aloadN X0 hx (b d15_1) rfl rfl ?_
  obtain ⟨cl1, Ar1, -, S1, M1, -, -⟩ := id P1
  refine Go.st (fun t k => X0.arraylength hx (by rw [e0]; exact Ar1.1) (State.isArrayOf_alike hZ.alike Ar1.2.1) (g := (mkF m 2 #[.val (.ref a1), .val (.int (1 : Int32))] [(.ref a1), (.int (1 : Int32))])) rfl rfl (b d15_2) t k) ?_
  rw [len_of S1 M1]
  refine g_isubZ X0 hx (-1 : Int32) (b d15_3) rfl ?_
  refine g_bipush X0 hx (31) (b d15_4) rfl ?_
  refine Go.st (fun t k => XS.iushr X0.here hx rfl (b d15_6) rfl k) ?_
  show Go p e below _ (s₁.setTop (mkF m 7 #[.val (.ref a1), .val (.int (1 : Int32))] [(.int (1 : Int32))]))
  refine g_i2bZ X0 hx (1 : Int32) (b d15_7) rfl ?_
  exact own_eB X0 hx hret (by simp) rfl (b d15_8) e0 (by decide) ⟨rfl, N0, rfl⟩
theorem rm4_2 (hw : HW Z a0) (a1 a2 : Addr) (p3 : Int32) (kz4 : ClassId) (p5 : Int32) (O0 : Old Z n0 h0) (P1 : Sta Z Z.heap "java/lang/String" "COMPACT_STRINGS" "Z" (.int p3)) (P2 : ¬ (p3 = (0 : Int32))) (P3 : Arv Z h0 a2 kz4 .char (1 : Int32) [(.int (own_c p5))] (.int (0 : Int32))) (P4 : ¬ ((own_c p5) < (0 : Int32))) (P5 : ¬ ((65535 : Int32) < (own_c p5))) (P6 : (255 : Int32) < (own_c p5)) (P7 : Sta Z Z.heap "java/lang/StringUTF16" "$assertionsDisabled" "Z" (.int (1 : Int32))) (P8 : Sta Z Z.heap "java/lang/StringUTF16" "HI_BYTE_SHIFT" "I" (.int (0 : Int32))) (P9 : Sta Z Z.heap "java/lang/StringUTF16" "LO_BYTE_SHIFT" "I" (.int (8 : Int32))) (P10 : Exa Z h0 a1 "java/lang/String") (P11 : Fld Z h0 a1 "java/lang/String" "coder" "B" (.int (0 : Int32))) (P12 : n0 ≤ a1) (P13 : Fld Z h0 a1 "java/lang/String" "value" "[B" .null) :
    MM l mn14 jdk_42_method_149_code 6 none (R4 4 2 3 57) #[(.ref a1), (.ref a2), (.int (0 : Int32)), (.int (1 : Int32)), .null] Z h0 (fun v h L => ∃ (bo_3 : Addr) (ko_3 : ClassId), v = none ∧ Fr n0 L ∧ Keep h0 h [a1] ∧ h0.size ≤ bo_3 ∧ Fld Z h a1 "java/lang/String" "coder" "B" (.int (1 : Int32)) ∧ Fld Z h a1 "java/lang/String" "value" "[B" (.ref bo_3) ∧ Arv Z h bo_3 ko_3 .byte (2 : Int32) [(.int (own_b0 (own_c p5))), (.int (own_b8 (own_c p5)))] (.int (0 : Int32))) := by
  refine own_hN n0 rfl pn_3 ?_
  intro p e s m below meth c s₁ hx b hml hret hZ hown hnm X0 e0 N0
  refine own_ct (mkF m 0 #[.val (.ref a1), .val (.ref a2), .val (.int (0 : Int32)), .val (.int (1 : Int32)), .val .null, .unset] []) rfl ?_
  refine g_aloadN X0 hx (b d4_0) rfl rfl ?_
  obtain ⟨T1, X1, e1, st1⟩ := initO X0 hx hZ hown (w22 hw) (w23 hw) (w24 hw) e0 (g := (mkF m 1 #[.val (.ref a1), .val (.ref a2), .val (.int (0 : Int32)), .val (.int (1 : Int32)), .val .null, .unset] [(.ref a1)])) rfl (by rw [hml]; rfl) rfl (b d4_1) (by decide) (W := 0) (by show 2 * 0 + _ ≤ _; exact Nat.le_of_eq rfl) (by decide)
  refine Go.st st1 ?_
  show Go p e below _ (T1.setTop (mkF m 4 #[.val (.ref a1), .val (.ref a2), .val (.int (0 : Int32)), .val (.int (1 : Int32)), .val .null, .unset] []))
  refine g_iloadN X1 hx (b d4_4) rfl ?_
  refine g_ifYes X1 hx (pc := 5) 27 (b d4_5) (XT.i0_ne_t (by decide : ¬ ((1 : Int32) = (0 : Int32)))) (by decide) ?_
  obtain ⟨T2, X2, e2, st2⟩ := getS2 X1 hx hZ hown (host := "") (Or.inl (w42 hw)) Via.refl e1 (P1.ext O0.2) (g := (mkF m 27 #[.val (.ref a1), .val (.ref a2), .val (.int (0 : Int32)), .val (.int (1 : Int32)), .val .null, .unset] [])) rfl (b d4_27)
  refine Go.st st2 ?_
  refine g_ifNo X2 hx (b d4_30) (XT.i0_eq_f P2) ?_
  refine g_aloadN X2 hx (b d4_33) rfl rfl ?_
  refine g_iloadN X2 hx (b d4_34) rfl ?_
  refine g_iloadN X2 hx (b d4_35) rfl ?_
  refine own_cS X2 hx hZ hown (w43 hw) (w44 hw) (w45 hw) (w46 hw) (rmU1 hw a2 kz4 (own_c p5) O0 P3 P4 P5 P6 P7 P8 P9) e2 0 (by decide) (by decide) (by rw [hml]; rfl) [(.ref a2), (.int (0 : Int32)), (.int (1 : Int32))] [] (lenOf pd_6 rfl) rfl rfl (Nat.le_of_eq rfl) (b d4_36) ?_
  rintro T3 _ L3 X3 ⟨bo_3, ko_3, rfl, M3, K3c, r3_0, r3_1⟩
  have N3 := Fr.app N0 M3
  have g_bo_3 : n0 ≤ bo_3 := Nat.le_trans (own_n0 O0) r3_0
  have s_bo_3 : h0.size ≤ bo_3 := Nat.le_trans (Keep.refl h0 [a1]).1 r3_0
  have O3 : Old Z n0 T3.heap := O0.keep K3c all0
  have K3 : Keep h0 T3.heap [a1] := (Keep.refl h0 [a1]).trans K3c all0
  refine g_astore X3 hx (b d4_39) rfl (l' := #[.val (.ref a1), .val (.ref a2), .val (.int (0 : Int32)), .val (.int (1 : Int32)), .val .null, .val (.ref bo_3)]) rfl ?_
  refine g_aloadN X3 hx (b d4_41) rfl rfl ?_
  refine g_aload X3 hx (b d4_42) rfl rfl ?_
  refine g_iloadN X3 hx (b d4_44) rfl ?_
  refine own_cS X3 hx hZ hown (w69 hw) (w70 hw) (w45 hw) (w71 hw) (rm15_1 hw bo_3 ko_3 p5 O3 r3_1) rfl 1 (by decide) (by decide) (by rw [hml]; rfl) [(.ref bo_3), (.int (1 : Int32))] [(.ref a1)] (lenOf pd_14 rfl) rfl rfl (Nat.le_of_eq rfl) (b d4_45) ?_
  rintro T4 _ L4 X4 ⟨rfl, M4, eh4⟩
  have N4 := Fr.app N3 M4
  obtain ⟨T5, h5, X5, e5, W5, st5⟩ := putFN X4 hx hZ hown (w32 hw) Via.refl eh4 (P11.keep K3c nin0) (P10.keep K3c) (Or.inr ⟨(w28 hw), rfl, hnm⟩) (w12 hw) (ty := .byte) (v' := (.int (1 : Int32))) (by decide) rfl (by decide) (g := (mkF m 48 #[.val (.ref a1), .val (.ref a2), .val (.int (0 : Int32)), .val (.int (1 : Int32)), .val .null, .val (.ref bo_3)] [(.int (1 : Int32)), (.ref a1)])) rfl rfl (b d4_48)
  have F5 : Fld Z h5 a1 "java/lang/String" "coder" "B" (.int (1 : Int32)) := (P11.keep K3c nin0).same W5
  have N5 := Fr.snoc X5 N4 P12
  have O5 : Old Z n0 h5 := O3.wr W5 P12
  have K5 : Keep h0 h5 [a1] := K3.wr W5 (Or.inl (List.mem_of_getElem? (i := 0) rfl))
  refine Go.st st5 ?_
  refine g_aloadN X5 hx (b d4_51) rfl rfl ?_
  refine g_aload X5 hx (b d4_52) rfl rfl ?_
  have c6 := ((P13.keep K3c nin0).other W5 (Or.inr (slot_ne (Or.inr (w27 hw)) (Or.inr (w28 hw)) (by decide) (t := (.array .byte)) (t' := .byte) (by decide) (by decide))))
  obtain ⟨T7, h7, X7, e7, W7, st7⟩ := putF X5 hx hZ hown (host := "") (Or.inl (w31 hw)) Via.refl e5 c6 ((P10.keep K3c).wr W5) (Or.inr ⟨(w27 hw), rfl, hnm⟩) (w12 hw) (ty := (.array .byte)) (by decide) rfl rfl (g := (mkF m 54 #[.val (.ref a1), .val (.ref a2), .val (.int (0 : Int32)), .val (.int (1 : Int32)), .val .null, .val (.ref bo_3)] [(.ref bo_3), (.ref a1)])) rfl rfl (b d4_54)
  have F7 : Fld Z h7 a1 "java/lang/String" "value" "[B" (.ref bo_3) := c6.same W7
  have N7 := Fr.snoc X7 N5 P12
  have O7 : Old Z n0 h7 := O5.wr W7 P12
  have K7 : Keep h0 h7 [a1] := K5.wr W7 (Or.inl (List.mem_of_getElem? (i := 0) rfl))
  refine Go.st st7 ?_
  have c8 := (F5.other W7 (Or.inr (slot_ne (Or.inr (w28 hw)) (Or.inr (w27 hw)) (by decide) (t := .byte) (t' := (.array .byte)) (by decide) (by decide))))
  have c9 := ((r3_1.other W5 (Ne.symm (Nat.ne_of_lt (Nat.lt_of_lt_of_le P10.lt r3_0)))).other W7 (Ne.symm (Nat.ne_of_lt (Nat.lt_of_lt_of_le P10.lt r3_0))))
  exact own_eV X7 hx hret (b d4_57) e7 (by decide) ⟨bo_3, ko_3, rfl, N7, K7, s_bo_3, c8, F7, c9⟩
theorem rm3_2 (hw : HW Z a0) (a1 a2 : Addr) (kz3 : ClassId) (p4 p5 : Int32) (O0 : Old Z n0 h0) (P1 : Arv Z h0 a2 kz3 .char (1 : Int32) [(.int (own_c p4))] (.int (0 : Int32))) (P2 : Sta Z Z.heap "java/lang/String" "COMPACT_STRINGS" "Z" (.int p5)) (P3 : ¬ (p5 = (0 : Int32))) (P4 : ¬ ((own_c p4) < (0 : Int32))) (P5 : ¬ ((65535 : Int32) < (own_c p4))) (P6 : (255 : Int32) < (own_c p4)) (P7 : Sta Z Z.heap "java/lang/StringUTF16" "$assertionsDisabled" "Z" (.int (1 : Int32))) (P8 : Sta Z Z.heap "java/lang/StringUTF16" "HI_BYTE_SHIFT" "I" (.int (0 : Int32))) (P9 : Sta Z Z.heap "java/lang/StringUTF16" "LO_BYTE_SHIFT" "I" (.int (8 : Int32))) (P10 : Exa Z h0 a1 "java/lang/String") (P11 : Fld Z h0 a1 "java/lang/String" "coder" "B" (.int (0 : Int32))) (P12 : n0 ≤ a1) (P13 : Fld Z h0 a1 "java/lang/String" "value" "[B" .null) :
    MM l mn15 jdk_42_method_3_code 2 none (R4 5 2 3 74) #[(.ref a1), (.ref a2)] Z h0 (fun v h L => ∃ (bo_3_2 : Addr) (ko_3_2 : ClassId), v = none ∧ Fr n0 L ∧ Keep h0 h [a1] ∧ h0.size ≤ bo_3_2 ∧ Fld Z h a1 "java/lang/String" "coder" "B" (.int (1 : Int32)) ∧ Fld Z h a1 "java/lang/String" "value" "[B" (.ref bo_3_2) ∧ Arv Z h bo_3_2 ko_3_2 .byte (2 : Int32) [(.int (own_b0 (own_c p4))), (.int (own_b8 (own_c p4)))] (.int (0 : Int32))) := by
  refine own_hN n0 rfl pn_3 ?_
  intro p e s m below meth c s₁ hx b hml hret hZ hown hnm X0 e0 N0
  refine own_ct (mkF m 0 #[.val (.ref a1), .val (.ref a2)] []) rfl ?_
  refine g_aloadN X0 hx (b d3_0) rfl rfl ?_
  refine g_aloadN X0 hx (b d3_1) rfl rfl ?_
  refine g_iconst X0 hx (0) (b d3_2) rfl ?_
  refine g_aloadN X0 hx (b d3_3) rfl rfl ?_
  obtain ⟨cl1, Ar1, -, S1, M1, -, -⟩ := id P1
  refine Go.st (fun t k => X0.arraylength hx (by rw [e0]; exact Ar1.1) (State.isArrayOf_alike hZ.alike Ar1.2.1) (g := (mkF m 4 #[.val (.ref a1), .val (.ref a2)] [(.ref a2), (.int (0 : Int32)), (.ref a2), (.ref a1)])) rfl rfl (b d3_4) t k) ?_
  rw [len_of S1 M1]
  refine g_aconstNull X0 hx (b d3_5) ?_
  refine own_cI X0 hx hZ hown (w18 hw) rfl (w19 hw) (w13 hw) (w21 hw) (rm4_2 hw a1 a2 p5 kz3 p4 O0 P2 P3 P1 P4 P5 P6 P7 P8 P9 P10 P11 P12 P13) e0 0 (by decide) (by decide) (by rw [hml]; rfl) a1 [(.ref a2), (.int (0 : Int32)), (.int (1 : Int32)), .null] [] (lenOf pd_9 rfl) rfl rfl (Nat.le_of_eq rfl) (b d3_6) ?_
  rintro T2 _ L2 X2 ⟨bo_3_2, ko_3_2, rfl, M2, K2c, r2_0, r2_1, r2_2, r2_3⟩
  have N2 := Fr.app N0 M2
  have g_bo_3_2 : n0 ≤ bo_3_2 := Nat.le_trans (own_n0 O0) r2_0
  have s_bo_3_2 : h0.size ≤ bo_3_2 := Nat.le_trans (Keep.refl h0 [a1]).1 r2_0
  have O2 : Old Z n0 T2.heap := O0.keep K2c (allS P12 all0)
  have K2 : Keep h0 T2.heap [a1] := (Keep.refl h0 [a1]).trans K2c (allS (Or.inl (List.mem_of_getElem? (i := 0) rfl)) all0)
  exact own_eV X2 hx hret (b d3_9) rfl (by decide) ⟨bo_3_2, ko_3_2, rfl, N2, K2, s_bo_3_2, r2_1, r2_2, r2_3⟩
theorem rm2_2 (hw : HW Z a0) (p1 p2 p3 p4 p5 : Int32) (O0 : Old Z n0 h0) (P1 : Sta Z Z.heap "java/lang/String" "COMPACT_STRINGS" "Z" (.int p5)) (P2 : ¬ (p5 = (0 : Int32))) (P3 : ¬ ((own_c p1) < (0 : Int32))) (P4 : ¬ ((65535 : Int32) < (own_c p1))) (P5 : (255 : Int32) < (own_c p1)) (P6 : Sta Z Z.heap "java/lang/StringUTF16" "$assertionsDisabled" "Z" (.int (1 : Int32))) (P7 : Sta Z Z.heap "java/lang/StringUTF16" "HI_BYTE_SHIFT" "I" (.int (0 : Int32))) (P8 : Sta Z Z.heap "java/lang/StringUTF16" "LO_BYTE_SHIFT" "I" (.int (8 : Int32))) :
    MM l mn16 method_6_code 6 (some (.object "java/lang/String")) (R4 6 4 8 88) #[(.int (1 : Int32)), (.int p1), (.int p2), (.int p3), (.int p4)] Z h0 (fun v h L => ∃ (b3 bo_3_2_4 : Addr) (ko_3_2_4 : ClassId), v = some (.ref b3) ∧ Fr n0 L ∧ Keep h0 h [] ∧ h0.size ≤ b3 ∧ h0.size ≤ bo_3_2_4 ∧ b3 ≠ bo_3_2_4 ∧ Exa Z h b3 "java/lang/String" ∧ Fld Z h b3 "java/lang/String" "value" "[B" (.ref bo_3_2_4) ∧ Fld Z h b3 "java/lang/String" "coder" "B" (.int (1 : Int32)) ∧ Arv Z h bo_3_2_4 ko_3_2_4 .byte (2 : Int32) [(.int (own_b0 (own_c p1))), (.int (own_b8 (own_c p1)))] (.int (0 : Int32))) := by
  refine own_hN n0 rfl pn_0 ?_
  intro p e s m below meth c s₁ hx b hml hret hZ hown hnm X0 e0 N0
  refine own_ct (mkF m 0 #[.val (.int (1 : Int32)), .val (.int p1), .val (.int p2), .val (.int p3), .val (.int p4), .unset] []) rfl ?_
  refine g_iloadN X0 hx (b d2_0) rfl ?_
  refine g_ifYes X0 hx (pc := 1) 15 (b d2_1) (XT.i0_ne_t (by decide : ¬ ((1 : Int32) = (0 : Int32)))) (by decide) ?_
  refine g_iloadN X0 hx (b d2_15) rfl ?_
  refine g_iconst X0 hx (1) (b d2_16) rfl ?_
  refine g_icmpNo X0 hx (b d2_17) (XT.ii_ne_f (by decide : (1 : Int32) = (1 : Int32))) ?_
  refine g_iconst X0 hx (1) (b d2_20) rfl ?_
  obtain ⟨T1, h1, k1, X1, e1, E1, A1, st1⟩ := newP X0 hx hZ (aty := .char) (w14 hw) e0 (g := (mkF m 21 #[.val (.int (1 : Int32)), .val (.int p1), .val (.int p2), .val (.int p3), .val (.int p4), .unset] [(.int (1 : Int32))])) rfl (b d2_21) rfl (by decide) (cap := 1) (by decide) (by decide) (by decide) (by decide)
  obtain ⟨b1, z1⟩ : ∃ z, z = h0.size := ⟨_, rfl⟩
  rw [← z1] at A1 st1
  have g_b1 : n0 ≤ b1 := Nat.le_trans (own_n0 O0) (Nat.le_of_eq z1.symm)
  have s_b1 : h0.size ≤ b1 := Nat.le_trans (Keep.refl h0 []).1 (Nat.le_of_eq z1.symm)
  have V1 : Arv Z h1 b1 k1 .char (1 : Int32) [(.int (0 : Int32))] (.int (0 : Int32)) := (Arv.new A1 (by decide)).pad (pad_rep [] (.int (0 : Int32)) 1)
  have O1 : Old Z n0 h1 := O0.ext E1
  have K1 : Keep h0 h1 [] := (Keep.refl h0 []).ext E1
  refine Go.st st1 ?_
  refine g_astore X1 hx (b d2_23) rfl (l' := #[.val (.int (1 : Int32)), .val (.int p1), .val (.int p2), .val (.int p3), .val (.int p4), .val (.ref b1)]) rfl ?_
  refine g_aload X1 hx (b d2_25) rfl rfl ?_
  refine g_iconst X1 hx (0) (b d2_27) rfl ?_
  refine g_iloadN X1 hx (b d2_28) rfl ?_
  obtain ⟨cl2, Ar2, q2, S2, M2, H2, G2⟩ := id V1
  have hin2 : ¬ ((0 : Int32) < 0 ∨ cl2.slots.size ≤ ((0 : Int32)).toNatClampNeg) := inb_of S2 ⟨by decide, by decide⟩
  obtain ⟨T2, h2, X2, e2, W2, st2⟩ := stC X1 hx hZ e1 Ar2 (j := (0 : Int32)) hin2 (g := (mkF m 29 #[.val (.int (1 : Int32)), .val (.int p1), .val (.int p2), .val (.int p3), .val (.int p4), .val (.ref b1)] [(.int p1), (.int (0 : Int32)), (.ref b1)])) rfl rfl (b d2_29)
  have V2 : Arv Z h2 b1 k1 .char (1 : Int32) [(.int (own_c p1))] (.int (0 : Int32)) := Arv.set Ar2 q2 S2 M2 H2 G2 (fits_nar_char _) W2 0 rfl (Nat.le_of_ble_eq_true rfl)
  have N2 := Fr.snoc X2 N0 g_b1
  have O2 : Old Z n0 h2 := O1.wr W2 g_b1
  have K2 : Keep h0 h2 [] := K1.wr W2 (Or.inr s_b1)
  refine Go.st st2 ?_
  obtain ⟨T3, h3, X3, e3, E3, A3, D3, -, st3⟩ := newO X2 hx hZ hown (w11 hw) (w12 hw) (w13 hw) e2 (g := (mkF m 30 #[.val (.int (1 : Int32)), .val (.int p1), .val (.int p2), .val (.int p3), .val (.int p4), .val (.ref b1)] [])) rfl (b d2_30) (by decide) (by decide)
  obtain ⟨b3, z3⟩ : ∃ z, z = h2.size := ⟨_, rfl⟩
  rw [← z3] at A3 D3 st3
  have g_b3 : n0 ≤ b3 := Nat.le_trans (own_n0 O2) (Nat.le_of_eq z3.symm)
  have s_b3 : h0.size ≤ b3 := Nat.le_trans K2.1 (Nat.le_of_eq z3.symm)
  have O3 : Old Z n0 h3 := O2.ext E3
  have K3 : Keep h0 h3 [] := K2.ext E3
  have f3_27 : Fld Z h3 b3 "java/lang/String" "value" "[B" .null := D3 (Or.inr (w27 hw)) (ty := (.array .byte)) (by decide)
  have f3_28 : Fld Z h3 b3 "java/lang/String" "coder" "B" (.int (0 : Int32)) := D3 (Or.inr (w28 hw)) (ty := .byte) (by decide)
  refine Go.st st3 ?_
  refine Go.st (fun t k => XS.dup X3.here hx rfl (b d2_33) rfl rfl k) ?_
  refine g_aload X3 hx (b d2_34) rfl rfl ?_
  refine own_cI X3 hx hZ hown (w15 hw) rfl (w16 hw) (w13 hw) (w17 hw) (rm3_2 hw b3 b1 k1 p1 p5 O3 (V2.ext E3) P1 P2 P3 P4 P5 P6 P7 P8 A3 f3_28 g_b3 f3_27) e3 1 (by decide) (by decide) (by rw [hml]; rfl) b3 [(.ref b1)] [(.ref b3)] (lenOf pd_10 rfl) rfl rfl (Nat.le_of_eq rfl) (b d2_36) ?_
  rintro T4 _ L4 X4 ⟨bo_3_2_4, ko_3_2_4, rfl, M4, K4c, r4_0, r4_1, r4_2, r4_3⟩
  have N4 := Fr.app N2 M4
  have g_bo_3_2_4 : n0 ≤ bo_3_2_4 := Nat.le_trans (own_n0 O3) r4_0
  have s_bo_3_2_4 : h0.size ≤ bo_3_2_4 := Nat.le_trans K3.1 r4_0
  have O4 : Old Z n0 T4.heap := O3.keep K4c (allS g_b3 all0)
  have K4 : Keep h0 T4.heap [] := K3.trans K4c (allS (Or.inr s_b3) all0)
  exact own_eA X4 hx hret rfl rfl (b d2_39) rfl (by decide) ⟨b3, bo_3_2_4, ko_3_2_4, rfl, N4, K4, s_b3, s_bo_3_2_4, (Nat.ne_of_lt (Nat.lt_of_lt_of_le A3.lt r4_0)), (A3.keep K4c), r4_2, r4_1, r4_3⟩
theorem rm7_2 (hw : HW Z a0) (a1 a2 : Addr) (kz3 : ClassId) (p4 : Int32) (O0 : Old Z n0 h0) (P1 : Fld Z h0 a1 "java/lang/String" "value" "[B" (.ref a2)) (P2 : Arv Z h0 a2 kz3 .byte (2 : Int32) [(.int (own_b0 (own_c p4))), (.int (own_b8 (own_c p4)))] (.int (0 : Int32))) :
    MM l mn17 jdk_42_method_55_code 1 (some .boolean) (R4 0 0 0 0) #[(.ref a1)] Z h0 (fun v h L => v = some (.int (0 : Int32)) ∧ Fr n0 L ∧ h = h0) := by
  refine own_hN n0 rfl pn_3 ?_
  intro p e s m below meth c s₁ hx b hml hret hZ hown hnm X0 e0 N0
  refine own_ct (mkF m 0 #[.val (.ref a1)] []) rfl ?_
  refine g_aloadN X0 hx (b d7_0) rfl rfl ?_
  obtain ⟨T1, X1, e1, st1⟩ := getF X0 hx hZ hown (host := "") (Or.inl (w31 hw)) Via.refl e0 P1 (g := (mkF m 1 #[.val (.ref a1)] [(.ref a1)])) rfl rfl (b d7_1)
  refine Go.st st1 ?_
  obtain ⟨cl2, Ar2, -, S2, M2, -, -⟩ := id P2
  refine Go.st (fun t k => X1.arraylength hx (by rw [e1]; exact Ar2.1) (State.isArrayOf_alike hZ.alike Ar2.2.1) (g := (mkF m 4 #[.val (.ref a1)] [(.ref a2)])) rfl rfl (b d7_4) t k) ?_
  rw [len_of S2 M2]
  refine g_ifYes X1 hx (pc := 5) 12 (b d7_5) (XT.i0_ne_t (by decide : ¬ ((2 : Int32) = (0 : Int32)))) (by decide) ?_
  refine g_iconst X1 hx (0) (b d7_12) rfl ?_
  exact own_eB X1 hx hret (by simp) rfl (b d7_13) e1 (by decide) ⟨rfl, N0, rfl⟩
theorem rm17_1 (hw : HW Z a0) (a1 : Addr) (p2 : Int32) (O0 : Old Z n0 h0) (P1 : Sta Z Z.heap "java/lang/String" "COMPACT_STRINGS" "Z" (.int p2)) (P2 : ¬ (p2 = (0 : Int32))) (P3 : Fld Z h0 a1 "java/lang/String" "coder" "B" (.int (1 : Int32))) :
    MM l mn20 jdk_42_method_152_code 1 (some .byte) (R4 0 0 0 0) #[(.ref a1)] Z h0 (fun v h L => v = some (.int (1 : Int32)) ∧ Fr n0 L ∧ h = h0) := by
  refine own_hN n0 rfl pn_3 ?_
  intro p e s m below meth c s₁ hx b hml hret hZ hown hnm X0 e0 N0
  refine own_ct (mkF m 0 #[.val (.ref a1)] []) rfl ?_
  obtain ⟨T1, X1, e1, st1⟩ := getS2 X0 hx hZ hown (host := "") (Or.inl (w42 hw)) Via.refl e0 (P1.ext O0.2) (g := (mkF m 0 #[.val (.ref a1)] [])) rfl (b d17_0)
  refine Go.st st1 ?_
  refine g_ifNo X1 hx (b d17_3) (XT.i0_eq_f P2) ?_
  refine g_aloadN X1 hx (b d17_6) rfl rfl ?_
  obtain ⟨T2, X2, e2, st2⟩ := getF X1 hx hZ hown (host := "") (Or.inl (w32 hw)) Via.refl e1 P3 (g := (mkF m 7 #[.val (.ref a1)] [(.ref a1)])) rfl rfl (b d17_7)
  refine Go.st st2 ?_
  refine g_goto X2 hx (pc := 10) 14 (b d17_10) (by decide) ?_
  exact own_eB X2 hx hret (by simp) rfl (b d17_14) e2 (by decide) ⟨rfl, N0, rfl⟩
theorem rm16_1 (hw : HW Z a0) (a1 a2 : Addr) (kz3 : ClassId) (p4 p5 : Int32) (O0 : Old Z n0 h0) (P1 : Fld Z h0 a1 "java/lang/String" "value" "[B" (.ref a2)) (P2 : Arv Z h0 a2 kz3 .byte (2 : Int32) [(.int (own_b0 (own_c p4))), (.int (own_b8 (own_c p4)))] (.int (0 : Int32))) (P3 : Exa Z h0 a1 "java/lang/String") (P4 : Sta Z Z.heap "java/lang/String" "COMPACT_STRINGS" "Z" (.int p5)) (P5 : ¬ (p5 = (0 : Int32))) (P6 : Fld Z h0 a1 "java/lang/String" "coder" "B" (.int (1 : Int32))) :
    MM l mn21 jdk_42_method_54_code 1 (some .int) (R4 1 0 0 13) #[(.ref a1)] Z h0 (fun v h L => v = some (.int (1 : Int32)) ∧ Fr n0 L ∧ h = h0) := by
  refine own_hN n0 rfl pn_3 ?_
  intro p e s m below meth c s₁ hx b hml hret hZ hown hnm X0 e0 N0
  refine own_ct (mkF m 0 #[.val (.ref a1)] []) rfl ?_
  refine g_aloadN X0 hx (b d16_0) rfl rfl ?_
  obtain ⟨T1, X1, e1, st1⟩ := getF X0 hx hZ hown (host := "") (Or.inl (w31 hw)) Via.refl e0 P1 (g := (mkF m 1 #[.val (.ref a1)] [(.ref a1)])) rfl rfl (b d16_1)
  refine Go.st st1 ?_
  obtain ⟨cl2, Ar2, -, S2, M2, -, -⟩ := id P2
  refine Go.st (fun t k => X1.arraylength hx (by rw [e1]; exact Ar2.1) (State.isArrayOf_alike hZ.alike Ar2.2.1) (g := (mkF m 4 #[.val (.ref a1)] [(.ref a2)])) rfl rfl (b d16_4) t k) ?_
  rw [len_of S2 M2]
  refine g_aloadN X1 hx (b d16_5) rfl rfl ?_
  refine own_cV X1 hx hZ hown (w77 hw) (w78 hw) (notFace_of_selects (args := #[]) (mvT hZ (w80 hw))) (w80 hw) (w79 hw) (w13 hw) (w81 hw) (rm17_1 hw a1 p5 O0 P4 P5 P6) e1 1 (by decide) (by decide) (by rw [hml]; rfl) P3 [] [(.int (2 : Int32))] (lenOf pd_15 rfl) rfl rfl (Nat.le_of_eq rfl) (b d16_6) ?_
  rintro T3 _ L3 X3 ⟨rfl, M3, eh3⟩
  have N3 := Fr.app N0 M3
  refine g_ishrZ X3 hx (1 : Int32) (b d16_9) rfl ?_
  exact own_eI X3 hx hret (b d16_10) eh3 (by decide) ⟨rfl, N3, rfl⟩
theorem rm20_1 (hw : HW Z a0)  (O0 : Old Z n0 h0) :
    MM l mn22 jdk_41_method_12_code 4 (some .int) (R4 0 0 0 0) #[(.int (0 : Int32)), (.int (1 : Int32)), (.int (1 : Int32)), .null] Z h0 (fun v h L => v = some (.int (0 : Int32)) ∧ Fr n0 L ∧ h = h0) := by
  refine own_hN n0 rfl pn_5 ?_
  intro p e s m below meth c s₁ hx b hml hret hZ hown hnm X0 e0 N0
  refine own_ct (mkF m 0 #[.val (.int (0 : Int32)), .val (.int (1 : Int32)), .val (.int (1 : Int32)), .val .null] []) rfl ?_
  refine g_iloadN X0 hx (b d20_0) rfl ?_
  refine g_ifNo X0 hx (b d20_1) (XT.i0_lt_f (by decide : ¬ ((0 : Int32) < (0 : Int32)))) ?_
  refine g_iloadN X0 hx (b d20_4) rfl ?_
  refine g_iloadN X0 hx (b d20_5) rfl ?_
  refine g_icmpNo X0 hx (b d20_6) (XT.ii_gt_f (by decide : ¬ ((1 : Int32) < (0 : Int32)))) ?_
  refine g_iloadN X0 hx (b d20_9) rfl ?_
  refine g_iloadN X0 hx (b d20_10) rfl ?_
  refine g_icmpYes X0 hx (pc := 11) 22 (b d20_11) (XT.ii_le_t (by decide : ¬ ((1 : Int32) < (1 : Int32)))) (by decide) ?_
  refine g_iloadN X0 hx (b d20_22) rfl ?_
  exact own_eI X0 hx hret (b d20_23) e0 (by decide) ⟨rfl, N0, rfl⟩
theorem rm19_1 (hw : HW Z a0)  (O0 : Old Z n0 h0) :
    MM l mn23 jdk_31_method_18_code 3 (some .int) (R4 1 0 0 15) #[(.int (0 : Int32)), (.int (1 : Int32)), (.int (1 : Int32))] Z h0 (fun v h L => v = some (.int (0 : Int32)) ∧ Fr n0 L ∧ h = h0) := by
  refine own_hN n0 rfl pn_6 ?_
  intro p e s m below meth c s₁ hx b hml hret hZ hown hnm X0 e0 N0
  refine own_ct (mkF m 0 #[.val (.int (0 : Int32)), .val (.int (1 : Int32)), .val (.int (1 : Int32))] []) rfl ?_
  refine g_iloadN X0 hx (b d19_0) rfl ?_
  refine g_iloadN X0 hx (b d19_1) rfl ?_
  refine g_iloadN X0 hx (b d19_2) rfl ?_
  refine g_aconstNull X0 hx (b d19_3) ?_
  refine own_cS X0 hx hZ hown (w92 hw) (w93 hw) (w94 hw) (w95 hw) (rm20_1 hw O0) e0 0 (by decide) (by decide) (by rw [hml]; rfl) [(.int (0 : Int32)), (.int (1 : Int32)), (.int (1 : Int32)), .null] [] (lenOf pd_17 rfl) rfl rfl (Nat.le_of_eq rfl) (b d19_4) ?_
  rintro T1 _ L1 X1 ⟨rfl, M1, eh1⟩
  have N1 := Fr.app N0 M1
  exact own_eI X1 hx hret (b d19_7) eh1 (by decide) ⟨rfl, N1, rfl⟩
theorem rm21_1 (hw : HW Z a0) (a1 : Addr) (p2 : Int32) (O0 : Old Z n0 h0) (P1 : Sta Z Z.heap "java/lang/String" "COMPACT_STRINGS" "Z" (.int p2)) (P2 : ¬ (p2 = (0 : Int32))) (P3 : Fld Z h0 a1 "java/lang/String" "coder" "B" (.int (1 : Int32))) :
    MM l mn24 jdk_42_method_154_code 1 (some .boolean) (R4 0 0 0 0) #[(.ref a1)] Z h0 (fun v h L => v = some (.int (0 : Int32)) ∧ Fr n0 L ∧ h = h0) := by
  refine own_hN n0 rfl pn_3 ?_
  intro p e s m below meth c s₁ hx b hml hret hZ hown hnm X0 e0 N0
  refine own_ct (mkF m 0 #[.val (.ref a1)] []) rfl ?_
  obtain ⟨T1, X1, e1, st1⟩ := getS2 X0 hx hZ hown (host := "") (Or.inl (w42 hw)) Via.refl e0 (P1.ext O0.2) (g := (mkF m 0 #[.val (.ref a1)] [])) rfl (b d21_0)
  refine Go.st st1 ?_
  refine g_ifNo X1 hx (b d21_3) (XT.i0_eq_f P2) ?_
  refine g_aloadN X1 hx (b d21_6) rfl rfl ?_
  obtain ⟨T2, X2, e2, st2⟩ := getF X1 hx hZ hown (host := "") (Or.inl (w32 hw)) Via.refl e1 P3 (g := (mkF m 7 #[.val (.ref a1)] [(.ref a1)])) rfl rfl (b d21_7)
  refine Go.st st2 ?_
  refine g_ifYes X2 hx (pc := 10) 17 (b d21_10) (XT.i0_ne_t (by decide : ¬ ((1 : Int32) = (0 : Int32)))) (by decide) ?_
  refine g_iconst X2 hx (0) (b d21_17) rfl ?_
  exact own_eB X2 hx hret (by simp) rfl (b d21_18) e2 (by decide) ⟨rfl, N0, rfl⟩
theorem rm22_1 (hw : HW Z a0) (a1 : Addr) (kz2 : ClassId) (p3 : Int32) (O0 : Old Z n0 h0) (P1 : Arv Z h0 a1 kz2 .byte (2 : Int32) [(.int (own_b0 (own_c p3))), (.int (own_b8 (own_c p3)))] (.int (0 : Int32))) (P2 : ¬ ((own_c p3) < (0 : Int32))) (P3 : ¬ ((65535 : Int32) < (own_c p3))) (P4 : Sta Z Z.heap "java/lang/StringUTF16" "$assertionsDisabled" "Z" (.int (1 : Int32))) :
    MM l mn25 jdk_52_method_12_code 3 (some .int) (R4 1 0 0 17) #[(.ref a1), (.int (0 : Int32)), (.int (1 : Int32))] Z h0 (fun v h L => v = some (.int (1 : Int32)) ∧ Fr n0 L ∧ h = h0) := by
  refine own_hN n0 rfl pn_2 ?_
  intro p e s m below meth c s₁ hx b hml hret hZ hown hnm X0 e0 N0
  refine own_ct (mkF m 0 #[.val (.ref a1), .val (.int (0 : Int32)), .val (.int (1 : Int32))] []) rfl ?_
  refine g_aloadN X0 hx (b d22_0) rfl rfl ?_
  refine g_iloadN X0 hx (b d22_1) rfl ?_
  refine g_iloadN X0 hx (b d22_2) rfl ?_
  refine g_iconst X0 hx (0) (b d22_3) rfl ?_
  refine own_cS X0 hx hZ hown (w104 hw) (w105 hw) (w45 hw) (w106 hw) (rmC1 hw a1 kz2 (own_c p3) O0 P1 P2 P3 P4) e0 0 (by decide) (by decide) (by rw [hml]; rfl) [(.ref a1), (.int (0 : Int32)), (.int (1 : Int32)), (.int (0 : Int32))] [] (lenOf pd_19 rfl) rfl rfl (Nat.le_of_eq rfl) (b d22_4) ?_
  rintro T1 _ L1 X1 ⟨rfl, M1, eh1⟩
  have N1 := Fr.app N0 M1
  exact own_eI X1 hx hret (b d22_7) eh1 (by decide) ⟨rfl, N1, rfl⟩
theorem rm18_1 (hw : HW Z a0) (a1 a2 : Addr) (kz3 : ClassId) (p4 p5 : Int32) (O0 : Old Z n0 h0) (P1 : Exa Z h0 a1 "java/lang/String") (P2 : Fld Z h0 a1 "java/lang/String" "value" "[B" (.ref a2)) (P3 : Arv Z h0 a2 kz3 .byte (2 : Int32) [(.int (own_b0 (own_c p4))), (.int (own_b8 (own_c p4)))] (.int (0 : Int32))) (P4 : Sta Z Z.heap "java/lang/String" "COMPACT_STRINGS" "Z" (.int p5)) (P5 : ¬ (p5 = (0 : Int32))) (P6 : Fld Z h0 a1 "java/lang/String" "coder" "B" (.int (1 : Int32))) (P7 : ¬ ((own_c p4) < (0 : Int32))) (P8 : ¬ ((65535 : Int32) < (own_c p4))) (P9 : Sta Z Z.heap "java/lang/StringUTF16" "$assertionsDisabled" "Z" (.int (1 : Int32))) :
    MM l mn26 jdk_42_method_59_code 3 (some .int) (R4 2 0 0 31) #[(.ref a1), (.int (0 : Int32)), (.int (1 : Int32))] Z h0 (fun v h L => v = some (.int (1 : Int32)) ∧ Fr n0 L ∧ h = h0) := by
  refine own_hN n0 rfl pn_3 ?_
  intro p e s m below meth c s₁ hx b hml hret hZ hown hnm X0 e0 N0
  refine own_ct (mkF m 0 #[.val (.ref a1), .val (.int (0 : Int32)), .val (.int (1 : Int32))] []) rfl ?_
  refine g_iloadN X0 hx (b d18_0) rfl ?_
  refine g_iloadN X0 hx (b d18_1) rfl ?_
  refine g_aloadN X0 hx (b d18_2) rfl rfl ?_
  refine own_cV X0 hx hZ hown (w87 hw) (w73 hw) (notFace_of_selects (args := #[]) (mvT hZ (w75 hw))) (w75 hw) (w74 hw) (w13 hw) (w76 hw) (rm16_1 hw a1 a2 kz3 p4 p5 O0 P2 P3 P1 P4 P5 P6) e0 2 (by decide) (by decide) (by rw [hml]; rfl) P1 [] [(.int (1 : Int32)), (.int (0 : Int32))] (lenOf pd_16 rfl) rfl rfl (Nat.le_of_eq rfl) (b d18_3) ?_
  rintro T1 _ L1 X1 ⟨rfl, M1, eh1⟩
  have N1 := Fr.app N0 M1
  refine own_cS X1 hx hZ hown (w88 hw) (w89 hw) (w90 hw) (w91 hw) (rm19_1 hw O0) eh1 0 (by decide) (by decide) (by rw [hml]; rfl) [(.int (0 : Int32)), (.int (1 : Int32)), (.int (1 : Int32))] [] (lenOf pd_18 rfl) rfl rfl (Nat.le_of_eq rfl) (b d18_6) ?_
  rintro T2 _ L2 X2 ⟨rfl, M2, eh2⟩
  have N2 := Fr.app N1 M2
  refine Go.st (fun t k => XS.pop X2.here hx rfl (b d18_9) rfl rfl k) ?_
  refine g_aloadN X2 hx (b d18_10) rfl rfl ?_
  refine own_cV X2 hx hZ hown (w96 hw) (w97 hw) (notFace_of_selects (args := #[]) (mvT hZ (w99 hw))) (w99 hw) (w98 hw) (w13 hw) (w100 hw) (rm21_1 hw a1 p5 O0 P4 P5 P6) eh2 0 (by decide) (by decide) (by rw [hml]; rfl) P1 [] [] (lenOf pd_12 rfl) rfl rfl (Nat.le_of_eq rfl) (b d18_11) ?_
  rintro T3 _ L3 X3 ⟨rfl, M3, eh3⟩
  have N3 := Fr.app N2 M3
  refine g_ifYes X3 hx (pc := 14) 21 (b d18_14) (XT.i0_eq_t (by decide : (0 : Int32) = (0 : Int32))) (by decide) ?_
  refine g_aloadN X3 hx (b d18_21) rfl rfl ?_
  obtain ⟨T4, X4, e4, st4⟩ := getF X3 hx hZ hown (host := "") (Or.inl (w31 hw)) Via.refl eh3 P2 (g := (mkF m 22 #[.val (.ref a1), .val (.int (0 : Int32)), .val (.int (1 : Int32))] [(.ref a1)])) rfl rfl (b d18_22)
  refine Go.st st4 ?_
  refine g_iloadN X4 hx (b d18_25) rfl ?_
  refine g_iloadN X4 hx (b d18_26) rfl ?_
  refine own_cS X4 hx hZ hown (w101 hw) (w102 hw) (w45 hw) (w103 hw) (rm22_1 hw a2 kz3 p4 O0 P3 P7 P8 P9) e4 0 (by decide) (by decide) (by rw [hml]; rfl) [(.ref a2), (.int (0 : Int32)), (.int (1 : Int32))] [] (lenOf pd_20 rfl) rfl rfl (Nat.le_of_eq rfl) (b d18_27) ?_
  rintro T5 _ L5 X5 ⟨rfl, M5, eh5⟩
  have N5 := Fr.app N3 M5
  exact own_eI X5 hx hret (b d18_30) eh5 (by decide) ⟨rfl, N5, rfl⟩
theorem rm6_2 (hw : HW Z a0) (a1 : Addr) (p2 : Int32) (a3 : Addr) (kz4 : ClassId) (p5 p6 : Int32) (O0 : Old Z n0 h0) (P1 : Exa Z h0 a1 "java/lang/String") (P2 : Fld Z h0 a1 "java/lang/String" "value" "[B" (.ref a3)) (P3 : Arv Z h0 a3 kz4 .byte (2 : Int32) [(.int (own_b0 (own_c p5))), (.int (own_b8 (own_c p5)))] (.int (0 : Int32))) (P4 : Sta Z Z.heap "java/lang/String" "COMPACT_STRINGS" "Z" (.int p6)) (P5 : ¬ (p6 = (0 : Int32))) (P6 : Fld Z h0 a1 "java/lang/String" "coder" "B" (.int (1 : Int32))) (P7 : ¬ ((own_c p5) < (0 : Int32))) (P8 : ¬ ((65535 : Int32) < (own_c p5))) (P9 : Sta Z Z.heap "java/lang/StringUTF16" "$assertionsDisabled" "Z" (.int (1 : Int32))) (P10 : p2 < (1 : Int32)) :
    MM l mn18 prog_38_method_2_code 2 (some .boolean) (R4 3 0 0 45) #[(.ref a1), (.int p2)] Z h0 (fun v h L => v = some (.int (0 : Int32)) ∧ Fr n0 L ∧ h = h0) := by
  refine own_hN n0 rfl pn_4 ?_
  intro p e s m below meth c s₁ hx b hml hret hZ hown hnm X0 e0 N0
  refine own_ct (mkF m 0 #[.val (.ref a1), .val (.int p2)] []) rfl ?_
  refine g_aloadN X0 hx (b d6_0) rfl rfl ?_
  refine Go.st (fun t k => XS.ifnullNo X0.here hx rfl (b d6_1) rfl k) ?_
  refine g_aloadN X0 hx (b d6_4) rfl rfl ?_
  refine own_cV X0 hx hZ hown (w37 hw) (w38 hw) (notFace_of_selects (args := #[]) (mvT hZ (w40 hw))) (w40 hw) (w39 hw) (w13 hw) (w41 hw) (rm7_2 hw a1 a3 kz4 p5 O0 P2 P3) e0 0 (by decide) (by decide) (by rw [hml]; rfl) P1 [] [] (lenOf pd_12 rfl) rfl rfl (Nat.le_of_eq rfl) (b d6_5) ?_
  rintro T1 _ L1 X1 ⟨rfl, M1, eh1⟩
  have N1 := Fr.app N0 M1
  refine g_ifNo X1 hx (b d6_8) (XT.i0_ne_f (by decide : (0 : Int32) = (0 : Int32))) ?_
  refine g_aloadN X1 hx (b d6_11) rfl rfl ?_
  refine g_iconst X1 hx (0) (b d6_12) rfl ?_
  refine g_aloadN X1 hx (b d6_13) rfl rfl ?_
  refine own_cV X1 hx hZ hown (w72 hw) (w73 hw) (notFace_of_selects (args := #[]) (mvT hZ (w75 hw))) (w75 hw) (w74 hw) (w13 hw) (w76 hw) (rm16_1 hw a1 a3 kz4 p5 p6 O0 P2 P3 P1 P4 P5 P6) eh1 2 (by decide) (by decide) (by rw [hml]; rfl) P1 [] [(.int (0 : Int32)), (.ref a1)] (lenOf pd_16 rfl) rfl rfl (Nat.le_of_eq rfl) (b d6_14) ?_
  rintro T2 _ L2 X2 ⟨rfl, M2, eh2⟩
  have N2 := Fr.app N1 M2
  refine own_cV X2 hx hZ hown (w82 hw) (w83 hw) (notFace_of_selects (args := #[]) (mvT hZ (w85 hw))) (w85 hw) (w84 hw) (w13 hw) (w86 hw) (rm18_1 hw a1 a3 kz4 p5 p6 O0 P1 P2 P3 P4 P5 P6 P7 P8 P9) eh2 0 (by decide) (by decide) (by rw [hml]; rfl) P1 [(.int (0 : Int32)), (.int (1 : Int32))] [] (lenOf pd_21 rfl) rfl rfl (Nat.le_of_eq rfl) (b d6_17) ?_
  rintro T3 _ L3 X3 ⟨rfl, M3, eh3⟩
  have N3 := Fr.app N2 M3
  refine g_iloadN X3 hx (b d6_20) rfl ?_
  refine g_icmpYes X3 hx (pc := 21) 28 (b d6_21) (XT.ii_gt_t P10) (by decide) ?_
  refine g_iconst X3 hx (0) (b d6_28) rfl ?_
  exact own_eB X3 hx hret (by simp) rfl (b d6_29) eh3 (by decide) ⟨rfl, N3, rfl⟩
theorem rm6_3 (hw : HW Z a0) (a1 : Addr) (p2 : Int32) (a3 : Addr) (kz4 : ClassId) (p5 p6 : Int32) (O0 : Old Z n0 h0) (P1 : Exa Z h0 a1 "java/lang/String") (P2 : Fld Z h0 a1 "java/lang/String" "value" "[B" (.ref a3)) (P3 : Arv Z h0 a3 kz4 .byte (2 : Int32) [(.int (own_b0 (own_c p5))), (.int (own_b8 (own_c p5)))] (.int (0 : Int32))) (P4 : Sta Z Z.heap "java/lang/String" "COMPACT_STRINGS" "Z" (.int p6)) (P5 : ¬ (p6 = (0 : Int32))) (P6 : Fld Z h0 a1 "java/lang/String" "coder" "B" (.int (1 : Int32))) (P7 : ¬ ((own_c p5) < (0 : Int32))) (P8 : ¬ ((65535 : Int32) < (own_c p5))) (P9 : Sta Z Z.heap "java/lang/StringUTF16" "$assertionsDisabled" "Z" (.int (1 : Int32))) (P10 : ¬ (p2 < (1 : Int32))) :
    MM l mn18 prog_38_method_2_code 2 (some .boolean) (R4 3 0 0 45) #[(.ref a1), (.int p2)] Z h0 (fun v h L => v = some (.int (1 : Int32)) ∧ Fr n0 L ∧ h = h0) := by
  refine own_hN n0 rfl pn_4 ?_
  intro p e s m below meth c s₁ hx b hml hret hZ hown hnm X0 e0 N0
  refine own_ct (mkF m 0 #[.val (.ref a1), .val (.int p2)] []) rfl ?_
  refine g_aloadN X0 hx (b d6_0) rfl rfl ?_
  refine Go.st (fun t k => XS.ifnullNo X0.here hx rfl (b d6_1) rfl k) ?_
  refine g_aloadN X0 hx (b d6_4) rfl rfl ?_
  refine own_cV X0 hx hZ hown (w37 hw) (w38 hw) (notFace_of_selects (args := #[]) (mvT hZ (w40 hw))) (w40 hw) (w39 hw) (w13 hw) (w41 hw) (rm7_2 hw a1 a3 kz4 p5 O0 P2 P3) e0 0 (by decide) (by decide) (by rw [hml]; rfl) P1 [] [] (lenOf pd_12 rfl) rfl rfl (Nat.le_of_eq rfl) (b d6_5) ?_
  rintro T1 _ L1 X1 ⟨rfl, M1, eh1⟩
  have N1 := Fr.app N0 M1
  refine g_ifNo X1 hx (b d6_8) (XT.i0_ne_f (by decide : (0 : Int32) = (0 : Int32))) ?_
  refine g_aloadN X1 hx (b d6_11) rfl rfl ?_
  refine g_iconst X1 hx (0) (b d6_12) rfl ?_
  refine g_aloadN X1 hx (b d6_13) rfl rfl ?_
  refine own_cV X1 hx hZ hown (w72 hw) (w73 hw) (notFace_of_selects (args := #[]) (mvT hZ (w75 hw))) (w75 hw) (w74 hw) (w13 hw) (w76 hw) (rm16_1 hw a1 a3 kz4 p5 p6 O0 P2 P3 P1 P4 P5 P6) eh1 2 (by decide) (by decide) (by rw [hml]; rfl) P1 [] [(.int (0 : Int32)), (.ref a1)] (lenOf pd_16 rfl) rfl rfl (Nat.le_of_eq rfl) (b d6_14) ?_
  rintro T2 _ L2 X2 ⟨rfl, M2, eh2⟩
  have N2 := Fr.app N1 M2
  refine own_cV X2 hx hZ hown (w82 hw) (w83 hw) (notFace_of_selects (args := #[]) (mvT hZ (w85 hw))) (w85 hw) (w84 hw) (w13 hw) (w86 hw) (rm18_1 hw a1 a3 kz4 p5 p6 O0 P1 P2 P3 P4 P5 P6 P7 P8 P9) eh2 0 (by decide) (by decide) (by rw [hml]; rfl) P1 [(.int (0 : Int32)), (.int (1 : Int32))] [] (lenOf pd_21 rfl) rfl rfl (Nat.le_of_eq rfl) (b d6_17) ?_
  rintro T3 _ L3 X3 ⟨rfl, M3, eh3⟩
  have N3 := Fr.app N2 M3
  refine g_iloadN X3 hx (b d6_20) rfl ?_
  refine g_icmpNo X3 hx (b d6_21) (XT.ii_gt_f P10) ?_
  refine g_iconst X3 hx (1) (b d6_24) rfl ?_
  refine g_goto X3 hx (pc := 25) 29 (b d6_25) (by decide) ?_
  exact own_eB X3 hx hret (by simp) rfl (b d6_29) eh3 (by decide) ⟨rfl, N3, rfl⟩
theorem rm9_11 (hw : HW Z a0) (a1 a2 : Addr) (kz3 : ClassId) (p4 : Int32) (kz5 : ClassId) (O0 : Old Z n0 h0) (P1 : Arv Z h0 a1 kz3 .char (1 : Int32) [(.int (own_c p4))] (.int (0 : Int32))) (P2 : ¬ ((255 : Int32) < (own_c p4))) (P3 : Arv Z h0 a2 kz5 .byte (1 : Int32) [(.int (0 : Int32))] (.int (0 : Int32))) (P4 : n0 ≤ a2) :
    MM l mn8 jdk_52_method_21_code 7 (some .int) (R4 0 0 0 0) #[(.ref a1), (.int (0 : Int32)), (.ref a2), (.int (0 : Int32)), (.int (1 : Int32))] Z h0 (fun v h L => v = some (.int (1 : Int32)) ∧ Fr n0 L ∧ Keep h0 h [a2] ∧ Arv Z h a2 kz5 .byte (1 : Int32) [(.int (((own_c p4).toInt8.toInt32).toInt8.toInt32))] (.int (0 : Int32))) := by
  refine own_hN n0 rfl pn_2 ?_
  intro p e s m below meth c s₁ hx b hml hret hZ hown hnm X0 e0 N0
  refine own_ct (mkF m 0 #[.val (.ref a1), .val (.int (0 : Int32)), .val (.ref a2), .val (.int (0 : Int32)), .val (.int (1 : Int32)), .unset, .unset] []) rfl ?_
  refine g_iconst X0 hx (0) (b d9_0) rfl ?_
  refine g_istore X0 hx (b d9_1) (l' := #[.val (.ref a1), .val (.int (0 : Int32)), .val (.ref a2), .val (.int (0 : Int32)), .val (.int (1 : Int32)), .val (.int (0 : Int32)), .unset]) rfl ?_
  refine g_iload X0 hx (b d9_3) rfl ?_
  refine g_iload X0 hx (b d9_5) rfl ?_
  refine g_icmpNo X0 hx (b d9_7) (XT.ii_ge_f (by decide : (0 : Int32) < (1 : Int32))) ?_
  refine g_aloadN X0 hx (b d9_10) rfl rfl ?_
  refine g_iloadN X0 hx (b d9_11) rfl ?_
  obtain ⟨cl1, Ar1, q1, S1, M1, H1, G1⟩ := id P1
  have hin1 : ¬ ((0 : Int32) < 0 ∨ cl1.slots.size ≤ ((0 : Int32)).toNatClampNeg) := inb_of S1 ⟨by decide, by decide⟩
  have hat1 : cl1.slots[((0 : Int32)).toNatClampNeg]? = some (.int (own_c p4)) := H1.at hin1 rfl
  refine Go.st (fun t k => X0.caload hx (j := (0 : Int32)) (v := (.int (own_c p4))) (by rw [e0]; exact Ar1.1) (State.isArrayOf_alike hZ.alike Ar1.2.1) Ar1.2.2 hin1 hat1 (g := (mkF m 12 #[.val (.ref a1), .val (.int (0 : Int32)), .val (.ref a2), .val (.int (0 : Int32)), .val (.int (1 : Int32)), .val (.int (0 : Int32)), .unset] [(.int (0 : Int32)), (.ref a1)])) rfl rfl (b d9_12) t k) ?_
  refine g_istore X0 hx (b d9_13) (l' := #[.val (.ref a1), .val (.int (0 : Int32)), .val (.ref a2), .val (.int (0 : Int32)), .val (.int (1 : Int32)), .val (.int (0 : Int32)), .val (.int (own_c p4))]) rfl ?_
  refine g_iload X0 hx (b d9_15) rfl ?_
  refine g_sipush X0 hx (255) (b d9_17) rfl ?_
  refine g_icmpYes X0 hx (pc := 20) 26 (b d9_20) (XT.ii_le_t P2) (by decide) ?_
  refine g_aloadN X0 hx (b d9_26) rfl rfl ?_
  refine g_iloadN X0 hx (b d9_27) rfl ?_
  refine g_iload X0 hx (b d9_28) rfl ?_
  refine g_i2bZ X0 hx ((own_c p4).toInt8.toInt32) (b d9_30) rfl ?_
  obtain ⟨cl2, Ar2, q2, S2, M2, H2, G2⟩ := id P3
  have hin2 : ¬ ((0 : Int32) < 0 ∨ cl2.slots.size ≤ ((0 : Int32)).toNatClampNeg) := inb_of S2 ⟨by decide, by decide⟩
  obtain ⟨T2, h2, X2, e2, W2, st2⟩ := stB X0 hx hZ e0 Ar2 (j := (0 : Int32)) hin2 (g := (mkF m 31 #[.val (.ref a1), .val (.int (0 : Int32)), .val (.ref a2), .val (.int (0 : Int32)), .val (.int (1 : Int32)), .val (.int (0 : Int32)), .val (.int (own_c p4))] [(.int ((own_c p4).toInt8.toInt32)), (.int (0 : Int32)), (.ref a2)])) rfl rfl (b d9_31)
  have V2 : Arv Z h2 a2 kz5 .byte (1 : Int32) [(.int (((own_c p4).toInt8.toInt32).toInt8.toInt32))] (.int (0 : Int32)) := Arv.set Ar2 q2 S2 M2 H2 G2 (fits_nar_byte _) W2 0 rfl (Nat.le_of_ble_eq_true rfl)
  have N2 := Fr.snoc X2 N0 P4
  have O2 : Old Z n0 h2 := O0.wr W2 P4
  have K2 : Keep h0 h2 [a2] := (Keep.refl h0 [a2]).wr W2 (Or.inl (List.mem_of_getElem? (i := 0) rfl))
  refine Go.st st2 ?_
  refine g_iinc X2 hx (b d9_32) rfl (l' := #[.val (.ref a1), .val (.int (1 : Int32)), .val (.ref a2), .val (.int (0 : Int32)), .val (.int (1 : Int32)), .val (.int (0 : Int32)), .val (.int (own_c p4))]) rfl ?_
  refine g_iinc X2 hx (b d9_35) rfl (l' := #[.val (.ref a1), .val (.int (1 : Int32)), .val (.ref a2), .val (.int (1 : Int32)), .val (.int (1 : Int32)), .val (.int (0 : Int32)), .val (.int (own_c p4))]) rfl ?_
  refine g_iinc X2 hx (b d9_38) rfl (l' := #[.val (.ref a1), .val (.int (1 : Int32)), .val (.ref a2), .val (.int (1 : Int32)), .val (.int (1 : Int32)), .val (.int (1 : Int32)), .val (.int (own_c p4))]) rfl ?_
  refine g_goto X2 hx (pc := 41) 3 (b d9_41) (by decide) ?_
  refine g_iload X2 hx (b d9_3) rfl ?_
  refine g_iload X2 hx (b d9_5) rfl ?_
  refine g_icmpYes X2 hx (pc := 7) 44 (b d9_7) (XT.ii_ge_t (by decide : ¬ ((1 : Int32) < (1 : Int32)))) (by decide) ?_
  refine g_iload X2 hx (b d9_44) rfl ?_
  exact own_eI X2 hx hret (b d9_46) e2 (by decide) ⟨rfl, N2, K2, V2⟩
theorem rm8_5 (hw : HW Z a0) (a1 : Addr) (kz2 : ClassId) (p3 : Int32) (O0 : Old Z n0 h0) (P1 : Arv Z h0 a1 kz2 .char (1 : Int32) [(.int (own_c p3))] (.int (0 : Int32))) (P2 : ¬ ((255 : Int32) < (own_c p3))) :
    MM l mn13 jdk_52_method_16_code 6 (some (.array .byte)) (R4 1 1 1 18) #[(.ref a1), (.int (0 : Int32)), (.int (1 : Int32))] Z h0 (fun v h L => ∃ (b1 : Addr) (k1 : ClassId), v = some (.ref b1) ∧ Fr n0 L ∧ Keep h0 h [] ∧ h0.size ≤ b1 ∧ Arv Z h b1 k1 .byte (1 : Int32) [(.int (((own_c p3).toInt8.toInt32).toInt8.toInt32))] (.int (0 : Int32))) := by
  refine own_hN n0 rfl pn_2 ?_
  intro p e s m below meth c s₁ hx b hml hret hZ hown hnm X0 e0 N0
  refine own_ct (mkF m 0 #[.val (.ref a1), .val (.int (0 : Int32)), .val (.int (1 : Int32)), .unset, .unset, .unset] []) rfl ?_
  refine g_iloadN X0 hx (b d8_0) rfl ?_
  obtain ⟨T1, h1, k1, X1, e1, E1, A1, st1⟩ := newP X0 hx hZ (aty := .byte) (w26 hw) e0 (g := (mkF m 1 #[.val (.ref a1), .val (.int (0 : Int32)), .val (.int (1 : Int32)), .unset, .unset, .unset] [(.int (1 : Int32))])) rfl (b d8_1) rfl (by decide) (cap := 1) (by decide) (by decide) (by decide) (by decide)
  obtain ⟨b1, z1⟩ : ∃ z, z = h0.size := ⟨_, rfl⟩
  rw [← z1] at A1 st1
  have g_b1 : n0 ≤ b1 := Nat.le_trans (own_n0 O0) (Nat.le_of_eq z1.symm)
  have s_b1 : h0.size ≤ b1 := Nat.le_trans (Keep.refl h0 []).1 (Nat.le_of_eq z1.symm)
  have V1 : Arv Z h1 b1 k1 .byte (1 : Int32) [(.int (0 : Int32))] (.int (0 : Int32)) := (Arv.new A1 (by decide)).pad (pad_rep [] (.int (0 : Int32)) 1)
  have O1 : Old Z n0 h1 := O0.ext E1
  have K1 : Keep h0 h1 [] := (Keep.refl h0 []).ext E1
  refine Go.st st1 ?_
  refine g_astoreN X1 hx (b d8_3) rfl (l' := #[.val (.ref a1), .val (.int (0 : Int32)), .val (.int (1 : Int32)), .val (.ref b1), .unset, .unset]) rfl ?_
  refine g_aloadN X1 hx (b d8_4) rfl rfl ?_
  refine g_iloadN X1 hx (b d8_5) rfl ?_
  refine g_aloadN X1 hx (b d8_6) rfl rfl ?_
  refine g_iconst X1 hx (0) (b d8_7) rfl ?_
  refine g_iloadN X1 hx (b d8_8) rfl ?_
  refine own_cS X1 hx hZ hown (w47 hw) (w48 hw) (w45 hw) (w49 hw) (rm9_11 hw a1 b1 kz2 p3 k1 O1 (P1.ext E1) P2 V1 g_b1) e1 0 (by decide) (by decide) (by rw [hml]; rfl) [(.ref a1), (.int (0 : Int32)), (.ref b1), (.int (0 : Int32)), (.int (1 : Int32))] [] (lenOf pd_2 rfl) rfl rfl (Nat.le_of_eq rfl) (b d8_9) ?_
  rintro T2 _ L2 X2 ⟨rfl, M2, K2c, r2_0⟩
  have N2 := Fr.app N0 M2
  have O2 : Old Z n0 T2.heap := O1.keep K2c (allS g_b1 all0)
  have K2 : Keep h0 T2.heap [] := K1.trans K2c (allS (Or.inr s_b1) all0)
  refine g_istore X2 hx (b d8_12) (l' := #[.val (.ref a1), .val (.int (0 : Int32)), .val (.int (1 : Int32)), .val (.ref b1), .val (.int (1 : Int32)), .unset]) rfl ?_
  refine g_iload X2 hx (b d8_14) rfl ?_
  refine g_iloadN X2 hx (b d8_16) rfl ?_
  refine g_icmpYes X2 hx (pc := 17) 57 (b d8_17) (XT.ii_eq_t (by decide : (1 : Int32) = (1 : Int32))) (by decide) ?_
  refine g_aloadN X2 hx (b d8_57) rfl rfl ?_
  exact own_eA X2 hx hret rfl rfl (b d8_58) rfl (by decide) ⟨b1, k1, rfl, N2, K2, s_b1, r2_0⟩
theorem rm15_2 (hw : HW Z a0) (a1 : Addr) (kz2 : ClassId) (p3 : Int32) (O0 : Old Z n0 h0) (P1 : Arv Z h0 a1 kz2 .byte (1 : Int32) [(.int (((own_c p3).toInt8.toInt32).toInt8.toInt32))] (.int (0 : Int32))) :
    MM l mn19 jdk_52_method_15_code 2 (some .byte) (R4 0 0 0 0) #[(.ref a1), (.int (1 : Int32))] Z h0 (fun v h L => v = some (.int (0 : Int32)) ∧ Fr n0 L ∧ h = h0) := by
  refine own_hN n0 rfl pn_2 ?_
  intro p e s m below meth c s₁ hx b hml hret hZ hown hnm X0 e0 N0
  refine own_ct (mkF m 0 #[.val (.ref a1), .val (.int (1 : Int32))] []) rfl ?_
  refine g_iloadN X0 hx (b d15_0) rfl ?_
  refine g_aloadN X0 hx (b d15_1) rfl rfl ?_
  obtain ⟨cl1, Ar1, -, S1, M1, -, -⟩ := id P1
  refine Go.st (fun t k => X0.arraylength hx (by rw [e0]; exact Ar1.1) (State.isArrayOf_alike hZ.alike Ar1.2.1) (g := (mkF m 2 #[.val (.ref a1), .val (.int (1 : Int32))] [(.ref a1), (.int (1 : Int32))])) rfl rfl (b d15_2) t k) ?_
  rw [len_of S1 M1]
  refine g_isubZ X0 hx (0 : Int32) (b d15_3) rfl ?_
  refine g_bipush X0 hx (31) (b d15_4) rfl ?_
  refine Go.st (fun t k => XS.iushr X0.here hx rfl (b d15_6) rfl k) ?_
  show Go p e below _ (s₁.setTop (mkF m 7 #[.val (.ref a1), .val (.int (1 : Int32))] [(.int (0 : Int32))]))
  refine g_i2bZ X0 hx (0 : Int32) (b d15_7) rfl ?_
  exact own_eB X0 hx hret (by simp) rfl (b d15_8) e0 (by decide) ⟨rfl, N0, rfl⟩
theorem rm4_3 (hw : HW Z a0) (a1 a2 : Addr) (p3 : Int32) (kz4 : ClassId) (p5 : Int32) (O0 : Old Z n0 h0) (P1 : Sta Z Z.heap "java/lang/String" "COMPACT_STRINGS" "Z" (.int p3)) (P2 : ¬ (p3 = (0 : Int32))) (P3 : Arv Z h0 a2 kz4 .char (1 : Int32) [(.int (own_c p5))] (.int (0 : Int32))) (P4 : ¬ ((own_c p5) < (0 : Int32))) (P5 : ¬ ((65535 : Int32) < (own_c p5))) (P6 : ¬ ((255 : Int32) < (own_c p5))) (P7 : Exa Z h0 a1 "java/lang/String") (P8 : Fld Z h0 a1 "java/lang/String" "coder" "B" (.int (0 : Int32))) (P9 : n0 ≤ a1) (P10 : Fld Z h0 a1 "java/lang/String" "value" "[B" .null) :
    MM l mn14 jdk_42_method_149_code 6 none (R4 2 1 1 35) #[(.ref a1), (.ref a2), (.int (0 : Int32)), (.int (1 : Int32)), .null] Z h0 (fun v h L => ∃ (b1_3 : Addr) (k1_3 : ClassId), v = none ∧ Fr n0 L ∧ Keep h0 h [a1] ∧ h0.size ≤ b1_3 ∧ Fld Z h a1 "java/lang/String" "coder" "B" (.int (0 : Int32)) ∧ Fld Z h a1 "java/lang/String" "value" "[B" (.ref b1_3) ∧ Arv Z h b1_3 k1_3 .byte (1 : Int32) [(.int (((own_c p5).toInt8.toInt32).toInt8.toInt32))] (.int (0 : Int32))) := by
  refine own_hN n0 rfl pn_3 ?_
  intro p e s m below meth c s₁ hx b hml hret hZ hown hnm X0 e0 N0
  refine own_ct (mkF m 0 #[.val (.ref a1), .val (.ref a2), .val (.int (0 : Int32)), .val (.int (1 : Int32)), .val .null, .unset] []) rfl ?_
  refine g_aloadN X0 hx (b d4_0) rfl rfl ?_
  obtain ⟨T1, X1, e1, st1⟩ := initO X0 hx hZ hown (w22 hw) (w23 hw) (w24 hw) e0 (g := (mkF m 1 #[.val (.ref a1), .val (.ref a2), .val (.int (0 : Int32)), .val (.int (1 : Int32)), .val .null, .unset] [(.ref a1)])) rfl (by rw [hml]; rfl) rfl (b d4_1) (by decide) (W := 0) (by show 2 * 0 + _ ≤ _; exact Nat.le_of_eq rfl) (by decide)
  refine Go.st st1 ?_
  show Go p e below _ (T1.setTop (mkF m 4 #[.val (.ref a1), .val (.ref a2), .val (.int (0 : Int32)), .val (.int (1 : Int32)), .val .null, .unset] []))
  refine g_iloadN X1 hx (b d4_4) rfl ?_
  refine g_ifYes X1 hx (pc := 5) 27 (b d4_5) (XT.i0_ne_t (by decide : ¬ ((1 : Int32) = (0 : Int32)))) (by decide) ?_
  obtain ⟨T2, X2, e2, st2⟩ := getS2 X1 hx hZ hown (host := "") (Or.inl (w42 hw)) Via.refl e1 (P1.ext O0.2) (g := (mkF m 27 #[.val (.ref a1), .val (.ref a2), .val (.int (0 : Int32)), .val (.int (1 : Int32)), .val .null, .unset] [])) rfl (b d4_27)
  refine Go.st st2 ?_
  refine g_ifNo X2 hx (b d4_30) (XT.i0_eq_f P2) ?_
  refine g_aloadN X2 hx (b d4_33) rfl rfl ?_
  refine g_iloadN X2 hx (b d4_34) rfl ?_
  refine g_iloadN X2 hx (b d4_35) rfl ?_
  refine own_cS X2 hx hZ hown (w43 hw) (w44 hw) (w45 hw) (w46 hw) (rm8_5 hw a2 kz4 p5 O0 P3 P6) e2 0 (by decide) (by decide) (by rw [hml]; rfl) [(.ref a2), (.int (0 : Int32)), (.int (1 : Int32))] [] (lenOf pd_6 rfl) rfl rfl (Nat.le_of_eq rfl) (b d4_36) ?_
  rintro T3 _ L3 X3 ⟨b1_3, k1_3, rfl, M3, K3c, r3_0, r3_1⟩
  have N3 := Fr.app N0 M3
  have g_b1_3 : n0 ≤ b1_3 := Nat.le_trans (own_n0 O0) r3_0
  have s_b1_3 : h0.size ≤ b1_3 := Nat.le_trans (Keep.refl h0 [a1]).1 r3_0
  have O3 : Old Z n0 T3.heap := O0.keep K3c all0
  have K3 : Keep h0 T3.heap [a1] := (Keep.refl h0 [a1]).trans K3c all0
  refine g_astore X3 hx (b d4_39) rfl (l' := #[.val (.ref a1), .val (.ref a2), .val (.int (0 : Int32)), .val (.int (1 : Int32)), .val .null, .val (.ref b1_3)]) rfl ?_
  refine g_aloadN X3 hx (b d4_41) rfl rfl ?_
  refine g_aload X3 hx (b d4_42) rfl rfl ?_
  refine g_iloadN X3 hx (b d4_44) rfl ?_
  refine own_cS X3 hx hZ hown (w69 hw) (w70 hw) (w45 hw) (w71 hw) (rm15_2 hw b1_3 k1_3 p5 O3 r3_1) rfl 1 (by decide) (by decide) (by rw [hml]; rfl) [(.ref b1_3), (.int (1 : Int32))] [(.ref a1)] (lenOf pd_14 rfl) rfl rfl (Nat.le_of_eq rfl) (b d4_45) ?_
  rintro T4 _ L4 X4 ⟨rfl, M4, eh4⟩
  have N4 := Fr.app N3 M4
  obtain ⟨T5, h5, X5, e5, W5, st5⟩ := putFN X4 hx hZ hown (w32 hw) Via.refl eh4 (P8.keep K3c nin0) (P7.keep K3c) (Or.inr ⟨(w28 hw), rfl, hnm⟩) (w12 hw) (ty := .byte) (v' := (.int (0 : Int32))) (by decide) rfl (by decide) (g := (mkF m 48 #[.val (.ref a1), .val (.ref a2), .val (.int (0 : Int32)), .val (.int (1 : Int32)), .val .null, .val (.ref b1_3)] [(.int (0 : Int32)), (.ref a1)])) rfl rfl (b d4_48)
  have F5 : Fld Z h5 a1 "java/lang/String" "coder" "B" (.int (0 : Int32)) := (P8.keep K3c nin0).same W5
  have N5 := Fr.snoc X5 N4 P9
  have O5 : Old Z n0 h5 := O3.wr W5 P9
  have K5 : Keep h0 h5 [a1] := K3.wr W5 (Or.inl (List.mem_of_getElem? (i := 0) rfl))
  refine Go.st st5 ?_
  refine g_aloadN X5 hx (b d4_51) rfl rfl ?_
  refine g_aload X5 hx (b d4_52) rfl rfl ?_
  have c6 := ((P10.keep K3c nin0).other W5 (Or.inr (slot_ne (Or.inr (w27 hw)) (Or.inr (w28 hw)) (by decide) (t := (.array .byte)) (t' := .byte) (by decide) (by decide))))
  obtain ⟨T7, h7, X7, e7, W7, st7⟩ := putF X5 hx hZ hown (host := "") (Or.inl (w31 hw)) Via.refl e5 c6 ((P7.keep K3c).wr W5) (Or.inr ⟨(w27 hw), rfl, hnm⟩) (w12 hw) (ty := (.array .byte)) (by decide) rfl rfl (g := (mkF m 54 #[.val (.ref a1), .val (.ref a2), .val (.int (0 : Int32)), .val (.int (1 : Int32)), .val .null, .val (.ref b1_3)] [(.ref b1_3), (.ref a1)])) rfl rfl (b d4_54)
  have F7 : Fld Z h7 a1 "java/lang/String" "value" "[B" (.ref b1_3) := c6.same W7
  have N7 := Fr.snoc X7 N5 P9
  have O7 : Old Z n0 h7 := O5.wr W7 P9
  have K7 : Keep h0 h7 [a1] := K5.wr W7 (Or.inl (List.mem_of_getElem? (i := 0) rfl))
  refine Go.st st7 ?_
  have c8 := (F5.other W7 (Or.inr (slot_ne (Or.inr (w28 hw)) (Or.inr (w27 hw)) (by decide) (t := .byte) (t' := (.array .byte)) (by decide) (by decide))))
  have c9 := ((r3_1.other W5 (Ne.symm (Nat.ne_of_lt (Nat.lt_of_lt_of_le P7.lt r3_0)))).other W7 (Ne.symm (Nat.ne_of_lt (Nat.lt_of_lt_of_le P7.lt r3_0))))
  exact own_eV X7 hx hret (b d4_57) e7 (by decide) ⟨b1_3, k1_3, rfl, N7, K7, s_b1_3, c8, F7, c9⟩
theorem rm3_3 (hw : HW Z a0) (a1 a2 : Addr) (kz3 : ClassId) (p4 p5 : Int32) (O0 : Old Z n0 h0) (P1 : Arv Z h0 a2 kz3 .char (1 : Int32) [(.int (own_c p4))] (.int (0 : Int32))) (P2 : Sta Z Z.heap "java/lang/String" "COMPACT_STRINGS" "Z" (.int p5)) (P3 : ¬ (p5 = (0 : Int32))) (P4 : ¬ ((own_c p4) < (0 : Int32))) (P5 : ¬ ((65535 : Int32) < (own_c p4))) (P6 : ¬ ((255 : Int32) < (own_c p4))) (P7 : Exa Z h0 a1 "java/lang/String") (P8 : Fld Z h0 a1 "java/lang/String" "coder" "B" (.int (0 : Int32))) (P9 : n0 ≤ a1) (P10 : Fld Z h0 a1 "java/lang/String" "value" "[B" .null) :
    MM l mn15 jdk_42_method_3_code 2 none (R4 3 1 1 52) #[(.ref a1), (.ref a2)] Z h0 (fun v h L => ∃ (b1_3_2 : Addr) (k1_3_2 : ClassId), v = none ∧ Fr n0 L ∧ Keep h0 h [a1] ∧ h0.size ≤ b1_3_2 ∧ Fld Z h a1 "java/lang/String" "coder" "B" (.int (0 : Int32)) ∧ Fld Z h a1 "java/lang/String" "value" "[B" (.ref b1_3_2) ∧ Arv Z h b1_3_2 k1_3_2 .byte (1 : Int32) [(.int (((own_c p4).toInt8.toInt32).toInt8.toInt32))] (.int (0 : Int32))) := by
  refine own_hN n0 rfl pn_3 ?_
  intro p e s m below meth c s₁ hx b hml hret hZ hown hnm X0 e0 N0
  refine own_ct (mkF m 0 #[.val (.ref a1), .val (.ref a2)] []) rfl ?_
  refine g_aloadN X0 hx (b d3_0) rfl rfl ?_
  refine g_aloadN X0 hx (b d3_1) rfl rfl ?_
  refine g_iconst X0 hx (0) (b d3_2) rfl ?_
  refine g_aloadN X0 hx (b d3_3) rfl rfl ?_
  obtain ⟨cl1, Ar1, -, S1, M1, -, -⟩ := id P1
  refine Go.st (fun t k => X0.arraylength hx (by rw [e0]; exact Ar1.1) (State.isArrayOf_alike hZ.alike Ar1.2.1) (g := (mkF m 4 #[.val (.ref a1), .val (.ref a2)] [(.ref a2), (.int (0 : Int32)), (.ref a2), (.ref a1)])) rfl rfl (b d3_4) t k) ?_
  rw [len_of S1 M1]
  refine g_aconstNull X0 hx (b d3_5) ?_
  refine own_cI X0 hx hZ hown (w18 hw) rfl (w19 hw) (w13 hw) (w21 hw) (rm4_3 hw a1 a2 p5 kz3 p4 O0 P2 P3 P1 P4 P5 P6 P7 P8 P9 P10) e0 0 (by decide) (by decide) (by rw [hml]; rfl) a1 [(.ref a2), (.int (0 : Int32)), (.int (1 : Int32)), .null] [] (lenOf pd_9 rfl) rfl rfl (Nat.le_of_eq rfl) (b d3_6) ?_
  rintro T2 _ L2 X2 ⟨b1_3_2, k1_3_2, rfl, M2, K2c, r2_0, r2_1, r2_2, r2_3⟩
  have N2 := Fr.app N0 M2
  have g_b1_3_2 : n0 ≤ b1_3_2 := Nat.le_trans (own_n0 O0) r2_0
  have s_b1_3_2 : h0.size ≤ b1_3_2 := Nat.le_trans (Keep.refl h0 [a1]).1 r2_0
  have O2 : Old Z n0 T2.heap := O0.keep K2c (allS P9 all0)
  have K2 : Keep h0 T2.heap [a1] := (Keep.refl h0 [a1]).trans K2c (allS (Or.inl (List.mem_of_getElem? (i := 0) rfl)) all0)
  exact own_eV X2 hx hret (b d3_9) rfl (by decide) ⟨b1_3_2, k1_3_2, rfl, N2, K2, s_b1_3_2, r2_1, r2_2, r2_3⟩
theorem rm2_3 (hw : HW Z a0) (p1 p2 p3 p4 p5 : Int32) (O0 : Old Z n0 h0) (P1 : Sta Z Z.heap "java/lang/String" "COMPACT_STRINGS" "Z" (.int p5)) (P2 : ¬ (p5 = (0 : Int32))) (P3 : ¬ ((own_c p1) < (0 : Int32))) (P4 : ¬ ((65535 : Int32) < (own_c p1))) (P5 : ¬ ((255 : Int32) < (own_c p1))) :
    MM l mn16 method_6_code 6 (some (.object "java/lang/String")) (R4 4 3 6 66) #[(.int (1 : Int32)), (.int p1), (.int p2), (.int p3), (.int p4)] Z h0 (fun v h L => ∃ (b3 b1_3_2_4 : Addr) (k1_3_2_4 : ClassId), v = some (.ref b3) ∧ Fr n0 L ∧ Keep h0 h [] ∧ h0.size ≤ b3 ∧ h0.size ≤ b1_3_2_4 ∧ b3 ≠ b1_3_2_4 ∧ Exa Z h b3 "java/lang/String" ∧ Fld Z h b3 "java/lang/String" "value" "[B" (.ref b1_3_2_4) ∧ Fld Z h b3 "java/lang/String" "coder" "B" (.int (0 : Int32)) ∧ Arv Z h b1_3_2_4 k1_3_2_4 .byte (1 : Int32) [(.int (((own_c p1).toInt8.toInt32).toInt8.toInt32))] (.int (0 : Int32))) := by
  refine own_hN n0 rfl pn_0 ?_
  intro p e s m below meth c s₁ hx b hml hret hZ hown hnm X0 e0 N0
  refine own_ct (mkF m 0 #[.val (.int (1 : Int32)), .val (.int p1), .val (.int p2), .val (.int p3), .val (.int p4), .unset] []) rfl ?_
  refine g_iloadN X0 hx (b d2_0) rfl ?_
  refine g_ifYes X0 hx (pc := 1) 15 (b d2_1) (XT.i0_ne_t (by decide : ¬ ((1 : Int32) = (0 : Int32)))) (by decide) ?_
  refine g_iloadN X0 hx (b d2_15) rfl ?_
  refine g_iconst X0 hx (1) (b d2_16) rfl ?_
  refine g_icmpNo X0 hx (b d2_17) (XT.ii_ne_f (by decide : (1 : Int32) = (1 : Int32))) ?_
  refine g_iconst X0 hx (1) (b d2_20) rfl ?_
  obtain ⟨T1, h1, k1, X1, e1, E1, A1, st1⟩ := newP X0 hx hZ (aty := .char) (w14 hw) e0 (g := (mkF m 21 #[.val (.int (1 : Int32)), .val (.int p1), .val (.int p2), .val (.int p3), .val (.int p4), .unset] [(.int (1 : Int32))])) rfl (b d2_21) rfl (by decide) (cap := 1) (by decide) (by decide) (by decide) (by decide)
  obtain ⟨b1, z1⟩ : ∃ z, z = h0.size := ⟨_, rfl⟩
  rw [← z1] at A1 st1
  have g_b1 : n0 ≤ b1 := Nat.le_trans (own_n0 O0) (Nat.le_of_eq z1.symm)
  have s_b1 : h0.size ≤ b1 := Nat.le_trans (Keep.refl h0 []).1 (Nat.le_of_eq z1.symm)
  have V1 : Arv Z h1 b1 k1 .char (1 : Int32) [(.int (0 : Int32))] (.int (0 : Int32)) := (Arv.new A1 (by decide)).pad (pad_rep [] (.int (0 : Int32)) 1)
  have O1 : Old Z n0 h1 := O0.ext E1
  have K1 : Keep h0 h1 [] := (Keep.refl h0 []).ext E1
  refine Go.st st1 ?_
  refine g_astore X1 hx (b d2_23) rfl (l' := #[.val (.int (1 : Int32)), .val (.int p1), .val (.int p2), .val (.int p3), .val (.int p4), .val (.ref b1)]) rfl ?_
  refine g_aload X1 hx (b d2_25) rfl rfl ?_
  refine g_iconst X1 hx (0) (b d2_27) rfl ?_
  refine g_iloadN X1 hx (b d2_28) rfl ?_
  obtain ⟨cl2, Ar2, q2, S2, M2, H2, G2⟩ := id V1
  have hin2 : ¬ ((0 : Int32) < 0 ∨ cl2.slots.size ≤ ((0 : Int32)).toNatClampNeg) := inb_of S2 ⟨by decide, by decide⟩
  obtain ⟨T2, h2, X2, e2, W2, st2⟩ := stC X1 hx hZ e1 Ar2 (j := (0 : Int32)) hin2 (g := (mkF m 29 #[.val (.int (1 : Int32)), .val (.int p1), .val (.int p2), .val (.int p3), .val (.int p4), .val (.ref b1)] [(.int p1), (.int (0 : Int32)), (.ref b1)])) rfl rfl (b d2_29)
  have V2 : Arv Z h2 b1 k1 .char (1 : Int32) [(.int (own_c p1))] (.int (0 : Int32)) := Arv.set Ar2 q2 S2 M2 H2 G2 (fits_nar_char _) W2 0 rfl (Nat.le_of_ble_eq_true rfl)
  have N2 := Fr.snoc X2 N0 g_b1
  have O2 : Old Z n0 h2 := O1.wr W2 g_b1
  have K2 : Keep h0 h2 [] := K1.wr W2 (Or.inr s_b1)
  refine Go.st st2 ?_
  obtain ⟨T3, h3, X3, e3, E3, A3, D3, -, st3⟩ := newO X2 hx hZ hown (w11 hw) (w12 hw) (w13 hw) e2 (g := (mkF m 30 #[.val (.int (1 : Int32)), .val (.int p1), .val (.int p2), .val (.int p3), .val (.int p4), .val (.ref b1)] [])) rfl (b d2_30) (by decide) (by decide)
  obtain ⟨b3, z3⟩ : ∃ z, z = h2.size := ⟨_, rfl⟩
  rw [← z3] at A3 D3 st3
  have g_b3 : n0 ≤ b3 := Nat.le_trans (own_n0 O2) (Nat.le_of_eq z3.symm)
  have s_b3 : h0.size ≤ b3 := Nat.le_trans K2.1 (Nat.le_of_eq z3.symm)
  have O3 : Old Z n0 h3 := O2.ext E3
  have K3 : Keep h0 h3 [] := K2.ext E3
  have f3_27 : Fld Z h3 b3 "java/lang/String" "value" "[B" .null := D3 (Or.inr (w27 hw)) (ty := (.array .byte)) (by decide)
  have f3_28 : Fld Z h3 b3 "java/lang/String" "coder" "B" (.int (0 : Int32)) := D3 (Or.inr (w28 hw)) (ty := .byte) (by decide)
  refine Go.st st3 ?_
  refine Go.st (fun t k => XS.dup X3.here hx rfl (b d2_33) rfl rfl k) ?_
  refine g_aload X3 hx (b d2_34) rfl rfl ?_
  refine own_cI X3 hx hZ hown (w15 hw) rfl (w16 hw) (w13 hw) (w17 hw) (rm3_3 hw b3 b1 k1 p1 p5 O3 (V2.ext E3) P1 P2 P3 P4 P5 A3 f3_28 g_b3 f3_27) e3 1 (by decide) (by decide) (by rw [hml]; rfl) b3 [(.ref b1)] [(.ref b3)] (lenOf pd_10 rfl) rfl rfl (Nat.le_of_eq rfl) (b d2_36) ?_
  rintro T4 _ L4 X4 ⟨b1_3_2_4, k1_3_2_4, rfl, M4, K4c, r4_0, r4_1, r4_2, r4_3⟩
  have N4 := Fr.app N2 M4
  have g_b1_3_2_4 : n0 ≤ b1_3_2_4 := Nat.le_trans (own_n0 O3) r4_0
  have s_b1_3_2_4 : h0.size ≤ b1_3_2_4 := Nat.le_trans K3.1 r4_0
  have O4 : Old Z n0 T4.heap := O3.keep K4c (allS g_b3 all0)
  have K4 : Keep h0 T4.heap [] := K3.trans K4c (allS (Or.inr s_b3) all0)
  exact own_eA X4 hx hret rfl rfl (b d2_39) rfl (by decide) ⟨b3, b1_3_2_4, k1_3_2_4, rfl, N4, K4, s_b3, s_b1_3_2_4, (Nat.ne_of_lt (Nat.lt_of_lt_of_le A3.lt r4_0)), (A3.keep K4c), r4_2, r4_1, r4_3⟩
theorem rm7_3 (hw : HW Z a0) (a1 a2 : Addr) (kz3 : ClassId) (p4 : Int32) (O0 : Old Z n0 h0) (P1 : Fld Z h0 a1 "java/lang/String" "value" "[B" (.ref a2)) (P2 : Arv Z h0 a2 kz3 .byte (1 : Int32) [(.int (((own_c p4).toInt8.toInt32).toInt8.toInt32))] (.int (0 : Int32))) :
    MM l mn17 jdk_42_method_55_code 1 (some .boolean) (R4 0 0 0 0) #[(.ref a1)] Z h0 (fun v h L => v = some (.int (0 : Int32)) ∧ Fr n0 L ∧ h = h0) := by
  refine own_hN n0 rfl pn_3 ?_
  intro p e s m below meth c s₁ hx b hml hret hZ hown hnm X0 e0 N0
  refine own_ct (mkF m 0 #[.val (.ref a1)] []) rfl ?_
  refine g_aloadN X0 hx (b d7_0) rfl rfl ?_
  obtain ⟨T1, X1, e1, st1⟩ := getF X0 hx hZ hown (host := "") (Or.inl (w31 hw)) Via.refl e0 P1 (g := (mkF m 1 #[.val (.ref a1)] [(.ref a1)])) rfl rfl (b d7_1)
  refine Go.st st1 ?_
  obtain ⟨cl2, Ar2, -, S2, M2, -, -⟩ := id P2
  refine Go.st (fun t k => X1.arraylength hx (by rw [e1]; exact Ar2.1) (State.isArrayOf_alike hZ.alike Ar2.2.1) (g := (mkF m 4 #[.val (.ref a1)] [(.ref a2)])) rfl rfl (b d7_4) t k) ?_
  rw [len_of S2 M2]
  refine g_ifYes X1 hx (pc := 5) 12 (b d7_5) (XT.i0_ne_t (by decide : ¬ ((1 : Int32) = (0 : Int32)))) (by decide) ?_
  refine g_iconst X1 hx (0) (b d7_12) rfl ?_
  exact own_eB X1 hx hret (by simp) rfl (b d7_13) e1 (by decide) ⟨rfl, N0, rfl⟩
theorem rm17_2 (hw : HW Z a0) (a1 : Addr) (p2 : Int32) (O0 : Old Z n0 h0) (P1 : Sta Z Z.heap "java/lang/String" "COMPACT_STRINGS" "Z" (.int p2)) (P2 : ¬ (p2 = (0 : Int32))) (P3 : Fld Z h0 a1 "java/lang/String" "coder" "B" (.int (0 : Int32))) :
    MM l mn20 jdk_42_method_152_code 1 (some .byte) (R4 0 0 0 0) #[(.ref a1)] Z h0 (fun v h L => v = some (.int (0 : Int32)) ∧ Fr n0 L ∧ h = h0) := by
  refine own_hN n0 rfl pn_3 ?_
  intro p e s m below meth c s₁ hx b hml hret hZ hown hnm X0 e0 N0
  refine own_ct (mkF m 0 #[.val (.ref a1)] []) rfl ?_
  obtain ⟨T1, X1, e1, st1⟩ := getS2 X0 hx hZ hown (host := "") (Or.inl (w42 hw)) Via.refl e0 (P1.ext O0.2) (g := (mkF m 0 #[.val (.ref a1)] [])) rfl (b d17_0)
  refine Go.st st1 ?_
  refine g_ifNo X1 hx (b d17_3) (XT.i0_eq_f P2) ?_
  refine g_aloadN X1 hx (b d17_6) rfl rfl ?_
  obtain ⟨T2, X2, e2, st2⟩ := getF X1 hx hZ hown (host := "") (Or.inl (w32 hw)) Via.refl e1 P3 (g := (mkF m 7 #[.val (.ref a1)] [(.ref a1)])) rfl rfl (b d17_7)
  refine Go.st st2 ?_
  refine g_goto X2 hx (pc := 10) 14 (b d17_10) (by decide) ?_
  exact own_eB X2 hx hret (by simp) rfl (b d17_14) e2 (by decide) ⟨rfl, N0, rfl⟩
theorem rm16_2 (hw : HW Z a0) (a1 a2 : Addr) (kz3 : ClassId) (p4 p5 : Int32) (O0 : Old Z n0 h0) (P1 : Fld Z h0 a1 "java/lang/String" "value" "[B" (.ref a2)) (P2 : Arv Z h0 a2 kz3 .byte (1 : Int32) [(.int (((own_c p4).toInt8.toInt32).toInt8.toInt32))] (.int (0 : Int32))) (P3 : Exa Z h0 a1 "java/lang/String") (P4 : Sta Z Z.heap "java/lang/String" "COMPACT_STRINGS" "Z" (.int p5)) (P5 : ¬ (p5 = (0 : Int32))) (P6 : Fld Z h0 a1 "java/lang/String" "coder" "B" (.int (0 : Int32))) :
    MM l mn21 jdk_42_method_54_code 1 (some .int) (R4 1 0 0 13) #[(.ref a1)] Z h0 (fun v h L => v = some (.int (1 : Int32)) ∧ Fr n0 L ∧ h = h0) := by
  refine own_hN n0 rfl pn_3 ?_
  intro p e s m below meth c s₁ hx b hml hret hZ hown hnm X0 e0 N0
  refine own_ct (mkF m 0 #[.val (.ref a1)] []) rfl ?_
  refine g_aloadN X0 hx (b d16_0) rfl rfl ?_
  obtain ⟨T1, X1, e1, st1⟩ := getF X0 hx hZ hown (host := "") (Or.inl (w31 hw)) Via.refl e0 P1 (g := (mkF m 1 #[.val (.ref a1)] [(.ref a1)])) rfl rfl (b d16_1)
  refine Go.st st1 ?_
  obtain ⟨cl2, Ar2, -, S2, M2, -, -⟩ := id P2
  refine Go.st (fun t k => X1.arraylength hx (by rw [e1]; exact Ar2.1) (State.isArrayOf_alike hZ.alike Ar2.2.1) (g := (mkF m 4 #[.val (.ref a1)] [(.ref a2)])) rfl rfl (b d16_4) t k) ?_
  rw [len_of S2 M2]
  refine g_aloadN X1 hx (b d16_5) rfl rfl ?_
  refine own_cV X1 hx hZ hown (w77 hw) (w78 hw) (notFace_of_selects (args := #[]) (mvT hZ (w80 hw))) (w80 hw) (w79 hw) (w13 hw) (w81 hw) (rm17_2 hw a1 p5 O0 P4 P5 P6) e1 1 (by decide) (by decide) (by rw [hml]; rfl) P3 [] [(.int (1 : Int32))] (lenOf pd_15 rfl) rfl rfl (Nat.le_of_eq rfl) (b d16_6) ?_
  rintro T3 _ L3 X3 ⟨rfl, M3, eh3⟩
  have N3 := Fr.app N0 M3
  refine g_ishrZ X3 hx (1 : Int32) (b d16_9) rfl ?_
  exact own_eI X3 hx hret (b d16_10) eh3 (by decide) ⟨rfl, N3, rfl⟩
theorem rm21_2 (hw : HW Z a0) (a1 : Addr) (p2 : Int32) (O0 : Old Z n0 h0) (P1 : Sta Z Z.heap "java/lang/String" "COMPACT_STRINGS" "Z" (.int p2)) (P2 : ¬ (p2 = (0 : Int32))) (P3 : Fld Z h0 a1 "java/lang/String" "coder" "B" (.int (0 : Int32))) :
    MM l mn24 jdk_42_method_154_code 1 (some .boolean) (R4 0 0 0 0) #[(.ref a1)] Z h0 (fun v h L => v = some (.int (1 : Int32)) ∧ Fr n0 L ∧ h = h0) := by
  refine own_hN n0 rfl pn_3 ?_
  intro p e s m below meth c s₁ hx b hml hret hZ hown hnm X0 e0 N0
  refine own_ct (mkF m 0 #[.val (.ref a1)] []) rfl ?_
  obtain ⟨T1, X1, e1, st1⟩ := getS2 X0 hx hZ hown (host := "") (Or.inl (w42 hw)) Via.refl e0 (P1.ext O0.2) (g := (mkF m 0 #[.val (.ref a1)] [])) rfl (b d21_0)
  refine Go.st st1 ?_
  refine g_ifNo X1 hx (b d21_3) (XT.i0_eq_f P2) ?_
  refine g_aloadN X1 hx (b d21_6) rfl rfl ?_
  obtain ⟨T2, X2, e2, st2⟩ := getF X1 hx hZ hown (host := "") (Or.inl (w32 hw)) Via.refl e1 P3 (g := (mkF m 7 #[.val (.ref a1)] [(.ref a1)])) rfl rfl (b d21_7)
  refine Go.st st2 ?_
  refine g_ifNo X2 hx (b d21_10) (XT.i0_ne_f (by decide : (0 : Int32) = (0 : Int32))) ?_
  refine g_iconst X2 hx (1) (b d21_13) rfl ?_
  refine g_goto X2 hx (pc := 14) 18 (b d21_14) (by decide) ?_
  exact own_eB X2 hx hret (by simp) rfl (b d21_18) e2 (by decide) ⟨rfl, N0, rfl⟩
theorem rm18_2 (hw : HW Z a0) (a1 a2 : Addr) (kz3 : ClassId) (p4 p5 : Int32) (O0 : Old Z n0 h0) (P1 : Exa Z h0 a1 "java/lang/String") (P2 : Fld Z h0 a1 "java/lang/String" "value" "[B" (.ref a2)) (P3 : Arv Z h0 a2 kz3 .byte (1 : Int32) [(.int (((own_c p4).toInt8.toInt32).toInt8.toInt32))] (.int (0 : Int32))) (P4 : Sta Z Z.heap "java/lang/String" "COMPACT_STRINGS" "Z" (.int p5)) (P5 : ¬ (p5 = (0 : Int32))) (P6 : Fld Z h0 a1 "java/lang/String" "coder" "B" (.int (0 : Int32))) :
    MM l mn26 jdk_42_method_59_code 3 (some .int) (R4 2 0 0 29) #[(.ref a1), (.int (0 : Int32)), (.int (1 : Int32))] Z h0 (fun v h L => v = some (.int (1 : Int32)) ∧ Fr n0 L ∧ h = h0) := by
  refine own_hN n0 rfl pn_3 ?_
  intro p e s m below meth c s₁ hx b hml hret hZ hown hnm X0 e0 N0
  refine own_ct (mkF m 0 #[.val (.ref a1), .val (.int (0 : Int32)), .val (.int (1 : Int32))] []) rfl ?_
  refine g_iloadN X0 hx (b d18_0) rfl ?_
  refine g_iloadN X0 hx (b d18_1) rfl ?_
  refine g_aloadN X0 hx (b d18_2) rfl rfl ?_
  refine own_cV X0 hx hZ hown (w87 hw) (w73 hw) (notFace_of_selects (args := #[]) (mvT hZ (w75 hw))) (w75 hw) (w74 hw) (w13 hw) (w76 hw) (rm16_2 hw a1 a2 kz3 p4 p5 O0 P2 P3 P1 P4 P5 P6) e0 2 (by decide) (by decide) (by rw [hml]; rfl) P1 [] [(.int (1 : Int32)), (.int (0 : Int32))] (lenOf pd_16 rfl) rfl rfl (Nat.le_of_eq rfl) (b d18_3) ?_
  rintro T1 _ L1 X1 ⟨rfl, M1, eh1⟩
  have N1 := Fr.app N0 M1
  refine own_cS X1 hx hZ hown (w88 hw) (w89 hw) (w90 hw) (w91 hw) (rm19_1 hw O0) eh1 0 (by decide) (by decide) (by rw [hml]; rfl) [(.int (0 : Int32)), (.int (1 : Int32)), (.int (1 : Int32))] [] (lenOf pd_18 rfl) rfl rfl (Nat.le_of_eq rfl) (b d18_6) ?_
  rintro T2 _ L2 X2 ⟨rfl, M2, eh2⟩
  have N2 := Fr.app N1 M2
  refine Go.st (fun t k => XS.pop X2.here hx rfl (b d18_9) rfl rfl k) ?_
  refine g_aloadN X2 hx (b d18_10) rfl rfl ?_
  refine own_cV X2 hx hZ hown (w96 hw) (w97 hw) (notFace_of_selects (args := #[]) (mvT hZ (w99 hw))) (w99 hw) (w98 hw) (w13 hw) (w100 hw) (rm21_2 hw a1 p5 O0 P4 P5 P6) eh2 0 (by decide) (by decide) (by rw [hml]; rfl) P1 [] [] (lenOf pd_12 rfl) rfl rfl (Nat.le_of_eq rfl) (b d18_11) ?_
  rintro T3 _ L3 X3 ⟨rfl, M3, eh3⟩
  have N3 := Fr.app N2 M3
  refine g_ifNo X3 hx (b d18_14) (XT.i0_eq_f (by decide : ¬ ((1 : Int32) = (0 : Int32)))) ?_
  refine g_iloadN X3 hx (b d18_17) rfl ?_
  refine g_iloadN X3 hx (b d18_18) rfl ?_
  refine g_isubZ X3 hx (1 : Int32) (b d18_19) rfl ?_
  exact own_eI X3 hx hret (b d18_20) eh3 (by decide) ⟨rfl, N3, rfl⟩
theorem rm6_4 (hw : HW Z a0) (a1 : Addr) (p2 : Int32) (a3 : Addr) (kz4 : ClassId) (p5 p6 : Int32) (O0 : Old Z n0 h0) (P1 : Exa Z h0 a1 "java/lang/String") (P2 : Fld Z h0 a1 "java/lang/String" "value" "[B" (.ref a3)) (P3 : Arv Z h0 a3 kz4 .byte (1 : Int32) [(.int (((own_c p5).toInt8.toInt32).toInt8.toInt32))] (.int (0 : Int32))) (P4 : Sta Z Z.heap "java/lang/String" "COMPACT_STRINGS" "Z" (.int p6)) (P5 : ¬ (p6 = (0 : Int32))) (P6 : Fld Z h0 a1 "java/lang/String" "coder" "B" (.int (0 : Int32))) (P7 : p2 < (1 : Int32)) :
    MM l mn18 prog_38_method_2_code 2 (some .boolean) (R4 3 0 0 43) #[(.ref a1), (.int p2)] Z h0 (fun v h L => v = some (.int (0 : Int32)) ∧ Fr n0 L ∧ h = h0) := by
  refine own_hN n0 rfl pn_4 ?_
  intro p e s m below meth c s₁ hx b hml hret hZ hown hnm X0 e0 N0
  refine own_ct (mkF m 0 #[.val (.ref a1), .val (.int p2)] []) rfl ?_
  refine g_aloadN X0 hx (b d6_0) rfl rfl ?_
  refine Go.st (fun t k => XS.ifnullNo X0.here hx rfl (b d6_1) rfl k) ?_
  refine g_aloadN X0 hx (b d6_4) rfl rfl ?_
  refine own_cV X0 hx hZ hown (w37 hw) (w38 hw) (notFace_of_selects (args := #[]) (mvT hZ (w40 hw))) (w40 hw) (w39 hw) (w13 hw) (w41 hw) (rm7_3 hw a1 a3 kz4 p5 O0 P2 P3) e0 0 (by decide) (by decide) (by rw [hml]; rfl) P1 [] [] (lenOf pd_12 rfl) rfl rfl (Nat.le_of_eq rfl) (b d6_5) ?_
  rintro T1 _ L1 X1 ⟨rfl, M1, eh1⟩
  have N1 := Fr.app N0 M1
  refine g_ifNo X1 hx (b d6_8) (XT.i0_ne_f (by decide : (0 : Int32) = (0 : Int32))) ?_
  refine g_aloadN X1 hx (b d6_11) rfl rfl ?_
  refine g_iconst X1 hx (0) (b d6_12) rfl ?_
  refine g_aloadN X1 hx (b d6_13) rfl rfl ?_
  refine own_cV X1 hx hZ hown (w72 hw) (w73 hw) (notFace_of_selects (args := #[]) (mvT hZ (w75 hw))) (w75 hw) (w74 hw) (w13 hw) (w76 hw) (rm16_2 hw a1 a3 kz4 p5 p6 O0 P2 P3 P1 P4 P5 P6) eh1 2 (by decide) (by decide) (by rw [hml]; rfl) P1 [] [(.int (0 : Int32)), (.ref a1)] (lenOf pd_16 rfl) rfl rfl (Nat.le_of_eq rfl) (b d6_14) ?_
  rintro T2 _ L2 X2 ⟨rfl, M2, eh2⟩
  have N2 := Fr.app N1 M2
  refine own_cV X2 hx hZ hown (w82 hw) (w83 hw) (notFace_of_selects (args := #[]) (mvT hZ (w85 hw))) (w85 hw) (w84 hw) (w13 hw) (w86 hw) (rm18_2 hw a1 a3 kz4 p5 p6 O0 P1 P2 P3 P4 P5 P6) eh2 0 (by decide) (by decide) (by rw [hml]; rfl) P1 [(.int (0 : Int32)), (.int (1 : Int32))] [] (lenOf pd_21 rfl) rfl rfl (Nat.le_of_eq rfl) (b d6_17) ?_
  rintro T3 _ L3 X3 ⟨rfl, M3, eh3⟩
  have N3 := Fr.app N2 M3
  refine g_iloadN X3 hx (b d6_20) rfl ?_
  refine g_icmpYes X3 hx (pc := 21) 28 (b d6_21) (XT.ii_gt_t P7) (by decide) ?_
  refine g_iconst X3 hx (0) (b d6_28) rfl ?_
  exact own_eB X3 hx hret (by simp) rfl (b d6_29) eh3 (by decide) ⟨rfl, N3, rfl⟩
theorem rm6_5 (hw : HW Z a0) (a1 : Addr) (p2 : Int32) (a3 : Addr) (kz4 : ClassId) (p5 p6 : Int32) (O0 : Old Z n0 h0) (P1 : Exa Z h0 a1 "java/lang/String") (P2 : Fld Z h0 a1 "java/lang/String" "value" "[B" (.ref a3)) (P3 : Arv Z h0 a3 kz4 .byte (1 : Int32) [(.int (((own_c p5).toInt8.toInt32).toInt8.toInt32))] (.int (0 : Int32))) (P4 : Sta Z Z.heap "java/lang/String" "COMPACT_STRINGS" "Z" (.int p6)) (P5 : ¬ (p6 = (0 : Int32))) (P6 : Fld Z h0 a1 "java/lang/String" "coder" "B" (.int (0 : Int32))) (P7 : ¬ (p2 < (1 : Int32))) :
    MM l mn18 prog_38_method_2_code 2 (some .boolean) (R4 3 0 0 43) #[(.ref a1), (.int p2)] Z h0 (fun v h L => v = some (.int (1 : Int32)) ∧ Fr n0 L ∧ h = h0) := by
  refine own_hN n0 rfl pn_4 ?_
  intro p e s m below meth c s₁ hx b hml hret hZ hown hnm X0 e0 N0
  refine own_ct (mkF m 0 #[.val (.ref a1), .val (.int p2)] []) rfl ?_
  refine g_aloadN X0 hx (b d6_0) rfl rfl ?_
  refine Go.st (fun t k => XS.ifnullNo X0.here hx rfl (b d6_1) rfl k) ?_
  refine g_aloadN X0 hx (b d6_4) rfl rfl ?_
  refine own_cV X0 hx hZ hown (w37 hw) (w38 hw) (notFace_of_selects (args := #[]) (mvT hZ (w40 hw))) (w40 hw) (w39 hw) (w13 hw) (w41 hw) (rm7_3 hw a1 a3 kz4 p5 O0 P2 P3) e0 0 (by decide) (by decide) (by rw [hml]; rfl) P1 [] [] (lenOf pd_12 rfl) rfl rfl (Nat.le_of_eq rfl) (b d6_5) ?_
  rintro T1 _ L1 X1 ⟨rfl, M1, eh1⟩
  have N1 := Fr.app N0 M1
  refine g_ifNo X1 hx (b d6_8) (XT.i0_ne_f (by decide : (0 : Int32) = (0 : Int32))) ?_
  refine g_aloadN X1 hx (b d6_11) rfl rfl ?_
  refine g_iconst X1 hx (0) (b d6_12) rfl ?_
  refine g_aloadN X1 hx (b d6_13) rfl rfl ?_
  refine own_cV X1 hx hZ hown (w72 hw) (w73 hw) (notFace_of_selects (args := #[]) (mvT hZ (w75 hw))) (w75 hw) (w74 hw) (w13 hw) (w76 hw) (rm16_2 hw a1 a3 kz4 p5 p6 O0 P2 P3 P1 P4 P5 P6) eh1 2 (by decide) (by decide) (by rw [hml]; rfl) P1 [] [(.int (0 : Int32)), (.ref a1)] (lenOf pd_16 rfl) rfl rfl (Nat.le_of_eq rfl) (b d6_14) ?_
  rintro T2 _ L2 X2 ⟨rfl, M2, eh2⟩
  have N2 := Fr.app N1 M2
  refine own_cV X2 hx hZ hown (w82 hw) (w83 hw) (notFace_of_selects (args := #[]) (mvT hZ (w85 hw))) (w85 hw) (w84 hw) (w13 hw) (w86 hw) (rm18_2 hw a1 a3 kz4 p5 p6 O0 P1 P2 P3 P4 P5 P6) eh2 0 (by decide) (by decide) (by rw [hml]; rfl) P1 [(.int (0 : Int32)), (.int (1 : Int32))] [] (lenOf pd_21 rfl) rfl rfl (Nat.le_of_eq rfl) (b d6_17) ?_
  rintro T3 _ L3 X3 ⟨rfl, M3, eh3⟩
  have N3 := Fr.app N2 M3
  refine g_iloadN X3 hx (b d6_20) rfl ?_
  refine g_icmpNo X3 hx (b d6_21) (XT.ii_gt_f P7) ?_
  refine g_iconst X3 hx (1) (b d6_24) rfl ?_
  refine g_goto X3 hx (pc := 25) 29 (b d6_25) (by decide) ?_
  exact own_eB X3 hx hret (by simp) rfl (b d6_29) eh3 (by decide) ⟨rfl, N3, rfl⟩
theorem rm15_3 (hw : HW Z a0) (a1 : Addr) (kz2 : ClassId) (p3 p4 : Int32) (O0 : Old Z n0 h0) (P1 : Arv Z h0 a1 kz2 .byte (4 : Int32) [(.int (own_b0 (own_c p3))), (.int (own_b8 (own_c p3))), (.int (own_b0 (own_c p4))), (.int (own_b8 (own_c p4)))] (.int (0 : Int32))) :
    MM l mn19 jdk_52_method_15_code 2 (some .byte) (R4 0 0 0 0) #[(.ref a1), (.int (2 : Int32))] Z h0 (fun v h L => v = some (.int (1 : Int32)) ∧ Fr n0 L ∧ h = h0) := by
  refine own_hN n0 rfl pn_2 ?_
  intro p e s m below meth c s₁ hx b hml hret hZ hown hnm X0 e0 N0
  refine own_ct (mkF m 0 #[.val (.ref a1), .val (.int (2 : Int32))] []) rfl ?_
  refine g_iloadN X0 hx (b d15_0) rfl ?_
  refine g_aloadN X0 hx (b d15_1) rfl rfl ?_
  obtain ⟨cl1, Ar1, -, S1, M1, -, -⟩ := id P1
  refine Go.st (fun t k => X0.arraylength hx (by rw [e0]; exact Ar1.1) (State.isArrayOf_alike hZ.alike Ar1.2.1) (g := (mkF m 2 #[.val (.ref a1), .val (.int (2 : Int32))] [(.ref a1), (.int (2 : Int32))])) rfl rfl (b d15_2) t k) ?_
  rw [len_of S1 M1]
  refine g_isubZ X0 hx (-2 : Int32) (b d15_3) rfl ?_
  refine g_bipush X0 hx (31) (b d15_4) rfl ?_
  refine Go.st (fun t k => XS.iushr X0.here hx rfl (b d15_6) rfl k) ?_
  show Go p e below _ (s₁.setTop (mkF m 7 #[.val (.ref a1), .val (.int (2 : Int32))] [(.int (1 : Int32))]))
  refine g_i2bZ X0 hx (1 : Int32) (b d15_7) rfl ?_
  exact own_eB X0 hx hret (by simp) rfl (b d15_8) e0 (by decide) ⟨rfl, N0, rfl⟩
theorem rm4_4 (hw : HW Z a0) (a1 a2 : Addr) (p3 : Int32) (kz4 : ClassId) (p5 p6 : Int32) (O0 : Old Z n0 h0) (P1 : Sta Z Z.heap "java/lang/String" "COMPACT_STRINGS" "Z" (.int p3)) (P2 : ¬ (p3 = (0 : Int32))) (P3 : Arv Z h0 a2 kz4 .char (2 : Int32) [(.int (own_c p5)), (.int (own_c p6))] (.int (0 : Int32))) (P4 : ¬ ((own_c p5) < (0 : Int32))) (P5 : ¬ ((65535 : Int32) < (own_c p5))) (P6 : ¬ ((own_c p6) < (0 : Int32))) (P7 : ¬ ((65535 : Int32) < (own_c p6))) (P8 : (255 : Int32) < (own_mx (own_c p5) (own_c p6))) (P9 : Sta Z Z.heap "java/lang/StringUTF16" "$assertionsDisabled" "Z" (.int (1 : Int32))) (P10 : Sta Z Z.heap "java/lang/StringUTF16" "HI_BYTE_SHIFT" "I" (.int (0 : Int32))) (P11 : Sta Z Z.heap "java/lang/StringUTF16" "LO_BYTE_SHIFT" "I" (.int (8 : Int32))) (P12 : Exa Z h0 a1 "java/lang/String") (P13 : Fld Z h0 a1 "java/lang/String" "coder" "B" (.int (0 : Int32))) (P14 : n0 ≤ a1) (P15 : Fld Z h0 a1 "java/lang/String" "value" "[B" .null) :
    MM l mn14 jdk_42_method_149_code 6 none (R4 4 2 6 57) #[(.ref a1), (.ref a2), (.int (0 : Int32)), (.int (2 : Int32)), .null] Z h0 (fun v h L => ∃ (bo_3 : Addr) (ko_3 : ClassId), v = none ∧ Fr n0 L ∧ Keep h0 h [a1] ∧ h0.size ≤ bo_3 ∧ Fld Z h a1 "java/lang/String" "coder" "B" (.int (1 : Int32)) ∧ Fld Z h a1 "java/lang/String" "value" "[B" (.ref bo_3) ∧ Arv Z h bo_3 ko_3 .byte (4 : Int32) [(.int (own_b0 (own_c p5))), (.int (own_b8 (own_c p5))), (.int (own_b0 (own_c p6))), (.int (own_b8 (own_c p6)))] (.int (0 : Int32))) := by
  refine own_hN n0 rfl pn_3 ?_
  intro p e s m below meth c s₁ hx b hml hret hZ hown hnm X0 e0 N0
  refine own_ct (mkF m 0 #[.val (.ref a1), .val (.ref a2), .val (.int (0 : Int32)), .val (.int (2 : Int32)), .val .null, .unset] []) rfl ?_
  refine g_aloadN X0 hx (b d4_0) rfl rfl ?_
  obtain ⟨T1, X1, e1, st1⟩ := initO X0 hx hZ hown (w22 hw) (w23 hw) (w24 hw) e0 (g := (mkF m 1 #[.val (.ref a1), .val (.ref a2), .val (.int (0 : Int32)), .val (.int (2 : Int32)), .val .null, .unset] [(.ref a1)])) rfl (by rw [hml]; rfl) rfl (b d4_1) (by decide) (W := 0) (by show 2 * 0 + _ ≤ _; exact Nat.le_of_eq rfl) (by decide)
  refine Go.st st1 ?_
  show Go p e below _ (T1.setTop (mkF m 4 #[.val (.ref a1), .val (.ref a2), .val (.int (0 : Int32)), .val (.int (2 : Int32)), .val .null, .unset] []))
  refine g_iloadN X1 hx (b d4_4) rfl ?_
  refine g_ifYes X1 hx (pc := 5) 27 (b d4_5) (XT.i0_ne_t (by decide : ¬ ((2 : Int32) = (0 : Int32)))) (by decide) ?_
  obtain ⟨T2, X2, e2, st2⟩ := getS2 X1 hx hZ hown (host := "") (Or.inl (w42 hw)) Via.refl e1 (P1.ext O0.2) (g := (mkF m 27 #[.val (.ref a1), .val (.ref a2), .val (.int (0 : Int32)), .val (.int (2 : Int32)), .val .null, .unset] [])) rfl (b d4_27)
  refine Go.st st2 ?_
  refine g_ifNo X2 hx (b d4_30) (XT.i0_eq_f P2) ?_
  refine g_aloadN X2 hx (b d4_33) rfl rfl ?_
  refine g_iloadN X2 hx (b d4_34) rfl ?_
  refine g_iloadN X2 hx (b d4_35) rfl ?_
  refine own_cS X2 hx hZ hown (w43 hw) (w44 hw) (w45 hw) (w46 hw) (rmU2 hw a2 kz4 (own_c p5) (own_c p6) O0 P3 P4 P5 P6 P7 P8 P9 P10 P11) e2 0 (by decide) (by decide) (by rw [hml]; rfl) [(.ref a2), (.int (0 : Int32)), (.int (2 : Int32))] [] (lenOf pd_6 rfl) rfl rfl (Nat.le_of_eq rfl) (b d4_36) ?_
  rintro T3 _ L3 X3 ⟨bo_3, ko_3, rfl, M3, K3c, r3_0, r3_1⟩
  have N3 := Fr.app N0 M3
  have g_bo_3 : n0 ≤ bo_3 := Nat.le_trans (own_n0 O0) r3_0
  have s_bo_3 : h0.size ≤ bo_3 := Nat.le_trans (Keep.refl h0 [a1]).1 r3_0
  have O3 : Old Z n0 T3.heap := O0.keep K3c all0
  have K3 : Keep h0 T3.heap [a1] := (Keep.refl h0 [a1]).trans K3c all0
  refine g_astore X3 hx (b d4_39) rfl (l' := #[.val (.ref a1), .val (.ref a2), .val (.int (0 : Int32)), .val (.int (2 : Int32)), .val .null, .val (.ref bo_3)]) rfl ?_
  refine g_aloadN X3 hx (b d4_41) rfl rfl ?_
  refine g_aload X3 hx (b d4_42) rfl rfl ?_
  refine g_iloadN X3 hx (b d4_44) rfl ?_
  refine own_cS X3 hx hZ hown (w69 hw) (w70 hw) (w45 hw) (w71 hw) (rm15_3 hw bo_3 ko_3 p5 p6 O3 r3_1) rfl 1 (by decide) (by decide) (by rw [hml]; rfl) [(.ref bo_3), (.int (2 : Int32))] [(.ref a1)] (lenOf pd_14 rfl) rfl rfl (Nat.le_of_eq rfl) (b d4_45) ?_
  rintro T4 _ L4 X4 ⟨rfl, M4, eh4⟩
  have N4 := Fr.app N3 M4
  obtain ⟨T5, h5, X5, e5, W5, st5⟩ := putFN X4 hx hZ hown (w32 hw) Via.refl eh4 (P13.keep K3c nin0) (P12.keep K3c) (Or.inr ⟨(w28 hw), rfl, hnm⟩) (w12 hw) (ty := .byte) (v' := (.int (1 : Int32))) (by decide) rfl (by decide) (g := (mkF m 48 #[.val (.ref a1), .val (.ref a2), .val (.int (0 : Int32)), .val (.int (2 : Int32)), .val .null, .val (.ref bo_3)] [(.int (1 : Int32)), (.ref a1)])) rfl rfl (b d4_48)
  have F5 : Fld Z h5 a1 "java/lang/String" "coder" "B" (.int (1 : Int32)) := (P13.keep K3c nin0).same W5
  have N5 := Fr.snoc X5 N4 P14
  have O5 : Old Z n0 h5 := O3.wr W5 P14
  have K5 : Keep h0 h5 [a1] := K3.wr W5 (Or.inl (List.mem_of_getElem? (i := 0) rfl))
  refine Go.st st5 ?_
  refine g_aloadN X5 hx (b d4_51) rfl rfl ?_
  refine g_aload X5 hx (b d4_52) rfl rfl ?_
  have c6 := ((P15.keep K3c nin0).other W5 (Or.inr (slot_ne (Or.inr (w27 hw)) (Or.inr (w28 hw)) (by decide) (t := (.array .byte)) (t' := .byte) (by decide) (by decide))))
  obtain ⟨T7, h7, X7, e7, W7, st7⟩ := putF X5 hx hZ hown (host := "") (Or.inl (w31 hw)) Via.refl e5 c6 ((P12.keep K3c).wr W5) (Or.inr ⟨(w27 hw), rfl, hnm⟩) (w12 hw) (ty := (.array .byte)) (by decide) rfl rfl (g := (mkF m 54 #[.val (.ref a1), .val (.ref a2), .val (.int (0 : Int32)), .val (.int (2 : Int32)), .val .null, .val (.ref bo_3)] [(.ref bo_3), (.ref a1)])) rfl rfl (b d4_54)
  have F7 : Fld Z h7 a1 "java/lang/String" "value" "[B" (.ref bo_3) := c6.same W7
  have N7 := Fr.snoc X7 N5 P14
  have O7 : Old Z n0 h7 := O5.wr W7 P14
  have K7 : Keep h0 h7 [a1] := K5.wr W7 (Or.inl (List.mem_of_getElem? (i := 0) rfl))
  refine Go.st st7 ?_
  have c8 := (F5.other W7 (Or.inr (slot_ne (Or.inr (w28 hw)) (Or.inr (w27 hw)) (by decide) (t := .byte) (t' := (.array .byte)) (by decide) (by decide))))
  have c9 := ((r3_1.other W5 (Ne.symm (Nat.ne_of_lt (Nat.lt_of_lt_of_le P12.lt r3_0)))).other W7 (Ne.symm (Nat.ne_of_lt (Nat.lt_of_lt_of_le P12.lt r3_0))))
  exact own_eV X7 hx hret (b d4_57) e7 (by decide) ⟨bo_3, ko_3, rfl, N7, K7, s_bo_3, c8, F7, c9⟩
theorem rm3_4 (hw : HW Z a0) (a1 a2 : Addr) (kz3 : ClassId) (p4 p5 p6 : Int32) (O0 : Old Z n0 h0) (P1 : Arv Z h0 a2 kz3 .char (2 : Int32) [(.int (own_c p4)), (.int (own_c p5))] (.int (0 : Int32))) (P2 : Sta Z Z.heap "java/lang/String" "COMPACT_STRINGS" "Z" (.int p6)) (P3 : ¬ (p6 = (0 : Int32))) (P4 : ¬ ((own_c p4) < (0 : Int32))) (P5 : ¬ ((65535 : Int32) < (own_c p4))) (P6 : ¬ ((own_c p5) < (0 : Int32))) (P7 : ¬ ((65535 : Int32) < (own_c p5))) (P8 : (255 : Int32) < (own_mx (own_c p4) (own_c p5))) (P9 : Sta Z Z.heap "java/lang/StringUTF16" "$assertionsDisabled" "Z" (.int (1 : Int32))) (P10 : Sta Z Z.heap "java/lang/StringUTF16" "HI_BYTE_SHIFT" "I" (.int (0 : Int32))) (P11 : Sta Z Z.heap "java/lang/StringUTF16" "LO_BYTE_SHIFT" "I" (.int (8 : Int32))) (P12 : Exa Z h0 a1 "java/lang/String") (P13 : Fld Z h0 a1 "java/lang/String" "coder" "B" (.int (0 : Int32))) (P14 : n0 ≤ a1) (P15 : Fld Z h0 a1 "java/lang/String" "value" "[B" .null) :
    MM l mn15 jdk_42_method_3_code 2 none (R4 5 2 6 74) #[(.ref a1), (.ref a2)] Z h0 (fun v h L => ∃ (bo_3_2 : Addr) (ko_3_2 : ClassId), v = none ∧ Fr n0 L ∧ Keep h0 h [a1] ∧ h0.size ≤ bo_3_2 ∧ Fld Z h a1 "java/lang/String" "coder" "B" (.int (1 : Int32)) ∧ Fld Z h a1 "java/lang/String" "value" "[B" (.ref bo_3_2) ∧ Arv Z h bo_3_2 ko_3_2 .byte (4 : Int32) [(.int (own_b0 (own_c p4))), (.int (own_b8 (own_c p4))), (.int (own_b0 (own_c p5))), (.int (own_b8 (own_c p5)))] (.int (0 : Int32))) := by
  refine own_hN n0 rfl pn_3 ?_
  intro p e s m below meth c s₁ hx b hml hret hZ hown hnm X0 e0 N0
  refine own_ct (mkF m 0 #[.val (.ref a1), .val (.ref a2)] []) rfl ?_
  refine g_aloadN X0 hx (b d3_0) rfl rfl ?_
  refine g_aloadN X0 hx (b d3_1) rfl rfl ?_
  refine g_iconst X0 hx (0) (b d3_2) rfl ?_
  refine g_aloadN X0 hx (b d3_3) rfl rfl ?_
  obtain ⟨cl1, Ar1, -, S1, M1, -, -⟩ := id P1
  refine Go.st (fun t k => X0.arraylength hx (by rw [e0]; exact Ar1.1) (State.isArrayOf_alike hZ.alike Ar1.2.1) (g := (mkF m 4 #[.val (.ref a1), .val (.ref a2)] [(.ref a2), (.int (0 : Int32)), (.ref a2), (.ref a1)])) rfl rfl (b d3_4) t k) ?_
  rw [len_of S1 M1]
  refine g_aconstNull X0 hx (b d3_5) ?_
  refine own_cI X0 hx hZ hown (w18 hw) rfl (w19 hw) (w13 hw) (w21 hw) (rm4_4 hw a1 a2 p6 kz3 p4 p5 O0 P2 P3 P1 P4 P5 P6 P7 P8 P9 P10 P11 P12 P13 P14 P15) e0 0 (by decide) (by decide) (by rw [hml]; rfl) a1 [(.ref a2), (.int (0 : Int32)), (.int (2 : Int32)), .null] [] (lenOf pd_9 rfl) rfl rfl (Nat.le_of_eq rfl) (b d3_6) ?_
  rintro T2 _ L2 X2 ⟨bo_3_2, ko_3_2, rfl, M2, K2c, r2_0, r2_1, r2_2, r2_3⟩
  have N2 := Fr.app N0 M2
  have g_bo_3_2 : n0 ≤ bo_3_2 := Nat.le_trans (own_n0 O0) r2_0
  have s_bo_3_2 : h0.size ≤ bo_3_2 := Nat.le_trans (Keep.refl h0 [a1]).1 r2_0
  have O2 : Old Z n0 T2.heap := O0.keep K2c (allS P14 all0)
  have K2 : Keep h0 T2.heap [a1] := (Keep.refl h0 [a1]).trans K2c (allS (Or.inl (List.mem_of_getElem? (i := 0) rfl)) all0)
  exact own_eV X2 hx hret (b d3_9) rfl (by decide) ⟨bo_3_2, ko_3_2, rfl, N2, K2, s_bo_3_2, r2_1, r2_2, r2_3⟩
theorem rm2_4 (hw : HW Z a0) (p1 p2 p3 p4 p5 : Int32) (O0 : Old Z n0 h0) (P1 : Sta Z Z.heap "java/lang/String" "COMPACT_STRINGS" "Z" (.int p5)) (P2 : ¬ (p5 = (0 : Int32))) (P3 : ¬ ((own_c p1) < (0 : Int32))) (P4 : ¬ ((65535 : Int32) < (own_c p1))) (P5 : ¬ ((own_c p2) < (0 : Int32))) (P6 : ¬ ((65535 : Int32) < (own_c p2))) (P7 : (255 : Int32) < (own_mx (own_c p1) (own_c p2))) (P8 : Sta Z Z.heap "java/lang/StringUTF16" "$assertionsDisabled" "Z" (.int (1 : Int32))) (P9 : Sta Z Z.heap "java/lang/StringUTF16" "HI_BYTE_SHIFT" "I" (.int (0 : Int32))) (P10 : Sta Z Z.heap "java/lang/StringUTF16" "LO_BYTE_SHIFT" "I" (.int (8 : Int32))) :
    MM l mn16 method_6_code 6 (some (.object "java/lang/String")) (R4 6 4 12 88) #[(.int (2 : Int32)), (.int p1), (.int p2), (.int p3), (.int p4)] Z h0 (fun v h L => ∃ (b4 bo_3_2_5 : Addr) (ko_3_2_5 : ClassId), v = some (.ref b4) ∧ Fr n0 L ∧ Keep h0 h [] ∧ h0.size ≤ b4 ∧ h0.size ≤ bo_3_2_5 ∧ b4 ≠ bo_3_2_5 ∧ Exa Z h b4 "java/lang/String" ∧ Fld Z h b4 "java/lang/String" "value" "[B" (.ref bo_3_2_5) ∧ Fld Z h b4 "java/lang/String" "coder" "B" (.int (1 : Int32)) ∧ Arv Z h bo_3_2_5 ko_3_2_5 .byte (4 : Int32) [(.int (own_b0 (own_c p1))), (.int (own_b8 (own_c p1))), (.int (own_b0 (own_c p2))), (.int (own_b8 (own_c p2)))] (.int (0 : Int32))) := by
  refine own_hN n0 rfl pn_0 ?_
  intro p e s m below meth c s₁ hx b hml hret hZ hown hnm X0 e0 N0
  refine own_ct (mkF m 0 #[.val (.int (2 : Int32)), .val (.int p1), .val (.int p2), .val (.int p3), .val (.int p4), .unset] []) rfl ?_
  refine g_iloadN X0 hx (b d2_0) rfl ?_
  refine g_ifYes X0 hx (pc := 1) 15 (b d2_1) (XT.i0_ne_t (by decide : ¬ ((2 : Int32) = (0 : Int32)))) (by decide) ?_
  refine g_iloadN X0 hx (b d2_15) rfl ?_
  refine g_iconst X0 hx (1) (b d2_16) rfl ?_
  refine g_icmpYes X0 hx (pc := 17) 40 (b d2_17) (XT.ii_ne_t (by decide : ¬ ((2 : Int32) = (1 : Int32)))) (by decide) ?_
  refine g_iloadN X0 hx (b d2_40) rfl ?_
  refine g_iconst X0 hx (2) (b d2_41) rfl ?_
  refine g_icmpNo X0 hx (b d2_42) (XT.ii_ne_f (by decide : (2 : Int32) = (2 : Int32))) ?_
  refine g_iconst X0 hx (2) (b d2_45) rfl ?_
  obtain ⟨T1, h1, k1, X1, e1, E1, A1, st1⟩ := newP X0 hx hZ (aty := .char) (w14 hw) e0 (g := (mkF m 46 #[.val (.int (2 : Int32)), .val (.int p1), .val (.int p2), .val (.int p3), .val (.int p4), .unset] [(.int (2 : Int32))])) rfl (b d2_46) rfl (by decide) (cap := 2) (by decide) (by decide) (by decide) (by decide)
  obtain ⟨b1, z1⟩ : ∃ z, z = h0.size := ⟨_, rfl⟩
  rw [← z1] at A1 st1
  have g_b1 : n0 ≤ b1 := Nat.le_trans (own_n0 O0) (Nat.le_of_eq z1.symm)
  have s_b1 : h0.size ≤ b1 := Nat.le_trans (Keep.refl h0 []).1 (Nat.le_of_eq z1.symm)
  have V1 : Arv Z h1 b1 k1 .char (2 : Int32) [(.int (0 : Int32)), (.int (0 : Int32))] (.int (0 : Int32)) := (Arv.new A1 (by decide)).pad (pad_rep [] (.int (0 : Int32)) 2)
  have O1 : Old Z n0 h1 := O0.ext E1
  have K1 : Keep h0 h1 [] := (Keep.refl h0 []).ext E1
  refine Go.st st1 ?_
  refine g_astore X1 hx (b d2_48) rfl (l' := #[.val (.int (2 : Int32)), .val (.int p1), .val (.int p2), .val (.int p3), .val (.int p4), .val (.ref b1)]) rfl ?_
  refine g_aload X1 hx (b d2_50) rfl rfl ?_
  refine g_iconst X1 hx (0) (b d2_52) rfl ?_
  refine g_iloadN X1 hx (b d2_53) rfl ?_
  obtain ⟨cl2, Ar2, q2, S2, M2, H2, G2⟩ := id V1
  have hin2 : ¬ ((0 : Int32) < 0 ∨ cl2.slots.size ≤ ((0 : Int32)).toNatClampNeg) := inb_of S2 ⟨by decide, by decide⟩
  obtain ⟨T2, h2, X2, e2, W2, st2⟩ := stC X1 hx hZ e1 Ar2 (j := (0 : Int32)) hin2 (g := (mkF m 54 #[.val (.int (2 : Int32)), .val (.int p1), .val (.int p2), .val (.int p3), .val (.int p4), .val (.ref b1)] [(.int p1), (.int (0 : Int32)), (.ref b1)])) rfl rfl (b d2_54)
  have V2 : Arv Z h2 b1 k1 .char (2 : Int32) [(.int (own_c p1)), (.int (0 : Int32))] (.int (0 : Int32)) := Arv.set Ar2 q2 S2 M2 H2 G2 (fits_nar_char _) W2 0 rfl (Nat.le_of_ble_eq_true rfl)
  have N2 := Fr.snoc X2 N0 g_b1
  have O2 : Old Z n0 h2 := O1.wr W2 g_b1
  have K2 : Keep h0 h2 [] := K1.wr W2 (Or.inr s_b1)
  refine Go.st st2 ?_
  refine g_aload X2 hx (b d2_55) rfl rfl ?_
  refine g_iconst X2 hx (1) (b d2_57) rfl ?_
  refine g_iloadN X2 hx (b d2_58) rfl ?_
  obtain ⟨cl3, Ar3, q3, S3, M3, H3, G3⟩ := id V2
  have hin3 : ¬ ((1 : Int32) < 0 ∨ cl3.slots.size ≤ ((1 : Int32)).toNatClampNeg) := inb_of S3 ⟨by decide, by decide⟩
  obtain ⟨T3, h3, X3, e3, W3, st3⟩ := stC X2 hx hZ e2 Ar3 (j := (1 : Int32)) hin3 (g := (mkF m 59 #[.val (.int (2 : Int32)), .val (.int p1), .val (.int p2), .val (.int p3), .val (.int p4), .val (.ref b1)] [(.int p2), (.int (1 : Int32)), (.ref b1)])) rfl rfl (b d2_59)
  have V3 : Arv Z h3 b1 k1 .char (2 : Int32) [(.int (own_c p1)), (.int (own_c p2))] (.int (0 : Int32)) := Arv.set Ar3 q3 S3 M3 H3 G3 (fits_nar_char _) W3 1 rfl (Nat.le_of_ble_eq_true rfl)
  have N3 := Fr.snoc X3 N2 g_b1
  have O3 : Old Z n0 h3 := O2.wr W3 g_b1
  have K3 : Keep h0 h3 [] := K2.wr W3 (Or.inr s_b1)
  refine Go.st st3 ?_
  obtain ⟨T4, h4, X4, e4, E4, A4, D4, -, st4⟩ := newO X3 hx hZ hown (w11 hw) (w12 hw) (w13 hw) e3 (g := (mkF m 60 #[.val (.int (2 : Int32)), .val (.int p1), .val (.int p2), .val (.int p3), .val (.int p4), .val (.ref b1)] [])) rfl (b d2_60) (by decide) (by decide)
  obtain ⟨b4, z4⟩ : ∃ z, z = h3.size := ⟨_, rfl⟩
  rw [← z4] at A4 D4 st4
  have g_b4 : n0 ≤ b4 := Nat.le_trans (own_n0 O3) (Nat.le_of_eq z4.symm)
  have s_b4 : h0.size ≤ b4 := Nat.le_trans K3.1 (Nat.le_of_eq z4.symm)
  have O4 : Old Z n0 h4 := O3.ext E4
  have K4 : Keep h0 h4 [] := K3.ext E4
  have f4_27 : Fld Z h4 b4 "java/lang/String" "value" "[B" .null := D4 (Or.inr (w27 hw)) (ty := (.array .byte)) (by decide)
  have f4_28 : Fld Z h4 b4 "java/lang/String" "coder" "B" (.int (0 : Int32)) := D4 (Or.inr (w28 hw)) (ty := .byte) (by decide)
  refine Go.st st4 ?_
  refine Go.st (fun t k => XS.dup X4.here hx rfl (b d2_63) rfl rfl k) ?_
  refine g_aload X4 hx (b d2_64) rfl rfl ?_
  refine own_cI X4 hx hZ hown (w15 hw) rfl (w16 hw) (w13 hw) (w17 hw) (rm3_4 hw b4 b1 k1 p1 p2 p5 O4 (V3.ext E4) P1 P2 P3 P4 P5 P6 P7 P8 P9 P10 A4 f4_28 g_b4 f4_27) e4 1 (by decide) (by decide) (by rw [hml]; rfl) b4 [(.ref b1)] [(.ref b4)] (lenOf pd_10 rfl) rfl rfl (Nat.le_of_eq rfl) (b d2_66) ?_
  rintro T5 _ L5 X5 ⟨bo_3_2_5, ko_3_2_5, rfl, M5, K5c, r5_0, r5_1, r5_2, r5_3⟩
  have N5 := Fr.app N3 M5
  have g_bo_3_2_5 : n0 ≤ bo_3_2_5 := Nat.le_trans (own_n0 O4) r5_0
  have s_bo_3_2_5 : h0.size ≤ bo_3_2_5 := Nat.le_trans K4.1 r5_0
  have O5 : Old Z n0 T5.heap := O4.keep K5c (allS g_b4 all0)
  have K5 : Keep h0 T5.heap [] := K4.trans K5c (allS (Or.inr s_b4) all0)
  exact own_eA X5 hx hret rfl rfl (b d2_69) rfl (by decide) ⟨b4, bo_3_2_5, ko_3_2_5, rfl, N5, K5, s_b4, s_bo_3_2_5, (Nat.ne_of_lt (Nat.lt_of_lt_of_le A4.lt r5_0)), (A4.keep K5c), r5_2, r5_1, r5_3⟩
theorem rm7_4 (hw : HW Z a0) (a1 a2 : Addr) (kz3 : ClassId) (p4 p5 : Int32) (O0 : Old Z n0 h0) (P1 : Fld Z h0 a1 "java/lang/String" "value" "[B" (.ref a2)) (P2 : Arv Z h0 a2 kz3 .byte (4 : Int32) [(.int (own_b0 (own_c p4))), (.int (own_b8 (own_c p4))), (.int (own_b0 (own_c p5))), (.int (own_b8 (own_c p5)))] (.int (0 : Int32))) :
    MM l mn17 jdk_42_method_55_code 1 (some .boolean) (R4 0 0 0 0) #[(.ref a1)] Z h0 (fun v h L => v = some (.int (0 : Int32)) ∧ Fr n0 L ∧ h = h0) := by
  refine own_hN n0 rfl pn_3 ?_
  intro p e s m below meth c s₁ hx b hml hret hZ hown hnm X0 e0 N0
  refine own_ct (mkF m 0 #[.val (.ref a1)] []) rfl ?_
  refine g_aloadN X0 hx (b d7_0) rfl rfl ?_
  obtain ⟨T1, X1, e1, st1⟩ := getF X0 hx hZ hown (host := "") (Or.inl (w31 hw)) Via.refl e0 P1 (g := (mkF m 1 #[.val (.ref a1)] [(.ref a1)])) rfl rfl (b d7_1)
  refine Go.st st1 ?_
  obtain ⟨cl2, Ar2, -, S2, M2, -, -⟩ := id P2
  refine Go.st (fun t k => X1.arraylength hx (by rw [e1]; exact Ar2.1) (State.isArrayOf_alike hZ.alike Ar2.2.1) (g := (mkF m 4 #[.val (.ref a1)] [(.ref a2)])) rfl rfl (b d7_4) t k) ?_
  rw [len_of S2 M2]
  refine g_ifYes X1 hx (pc := 5) 12 (b d7_5) (XT.i0_ne_t (by decide : ¬ ((4 : Int32) = (0 : Int32)))) (by decide) ?_
  refine g_iconst X1 hx (0) (b d7_12) rfl ?_
  exact own_eB X1 hx hret (by simp) rfl (b d7_13) e1 (by decide) ⟨rfl, N0, rfl⟩
theorem rm16_3 (hw : HW Z a0) (a1 a2 : Addr) (kz3 : ClassId) (p4 p5 p6 : Int32) (O0 : Old Z n0 h0) (P1 : Fld Z h0 a1 "java/lang/String" "value" "[B" (.ref a2)) (P2 : Arv Z h0 a2 kz3 .byte (4 : Int32) [(.int (own_b0 (own_c p4))), (.int (own_b8 (own_c p4))), (.int (own_b0 (own_c p5))), (.int (own_b8 (own_c p5)))] (.int (0 : Int32))) (P3 : Exa Z h0 a1 "java/lang/String") (P4 : Sta Z Z.heap "java/lang/String" "COMPACT_STRINGS" "Z" (.int p6)) (P5 : ¬ (p6 = (0 : Int32))) (P6 : Fld Z h0 a1 "java/lang/String" "coder" "B" (.int (1 : Int32))) :
    MM l mn21 jdk_42_method_54_code 1 (some .int) (R4 1 0 0 13) #[(.ref a1)] Z h0 (fun v h L => v = some (.int (2 : Int32)) ∧ Fr n0 L ∧ h = h0) := by
  refine own_hN n0 rfl pn_3 ?_
  intro p e s m below meth c s₁ hx b hml hret hZ hown hnm X0 e0 N0
  refine own_ct (mkF m 0 #[.val (.ref a1)] []) rfl ?_
  refine g_aloadN X0 hx (b d16_0) rfl rfl ?_
  obtain ⟨T1, X1, e1, st1⟩ := getF X0 hx hZ hown (host := "") (Or.inl (w31 hw)) Via.refl e0 P1 (g := (mkF m 1 #[.val (.ref a1)] [(.ref a1)])) rfl rfl (b d16_1)
  refine Go.st st1 ?_
  obtain ⟨cl2, Ar2, -, S2, M2, -, -⟩ := id P2
  refine Go.st (fun t k => X1.arraylength hx (by rw [e1]; exact Ar2.1) (State.isArrayOf_alike hZ.alike Ar2.2.1) (g := (mkF m 4 #[.val (.ref a1)] [(.ref a2)])) rfl rfl (b d16_4) t k) ?_
  rw [len_of S2 M2]
  refine g_aloadN X1 hx (b d16_5) rfl rfl ?_
  refine own_cV X1 hx hZ hown (w77 hw) (w78 hw) (notFace_of_selects (args := #[]) (mvT hZ (w80 hw))) (w80 hw) (w79 hw) (w13 hw) (w81 hw) (rm17_1 hw a1 p6 O0 P4 P5 P6) e1 1 (by decide) (by decide) (by rw [hml]; rfl) P3 [] [(.int (4 : Int32))] (lenOf pd_15 rfl) rfl rfl (Nat.le_of_eq rfl) (b d16_6) ?_
  rintro T3 _ L3 X3 ⟨rfl, M3, eh3⟩
  have N3 := Fr.app N0 M3
  refine g_ishrZ X3 hx (2 : Int32) (b d16_9) rfl ?_
  exact own_eI X3 hx hret (b d16_10) eh3 (by decide) ⟨rfl, N3, rfl⟩
theorem rm20_2 (hw : HW Z a0)  (O0 : Old Z n0 h0) :
    MM l mn22 jdk_41_method_12_code 4 (some .int) (R4 0 0 0 0) #[(.int (0 : Int32)), (.int (2 : Int32)), (.int (2 : Int32)), .null] Z h0 (fun v h L => v = some (.int (0 : Int32)) ∧ Fr n0 L ∧ h = h0) := by
  refine own_hN n0 rfl pn_5 ?_
  intro p e s m below meth c s₁ hx b hml hret hZ hown hnm X0 e0 N0
  refine own_ct (mkF m 0 #[.val (.int (0 : Int32)), .val (.int (2 : Int32)), .val (.int (2 : Int32)), .val .null] []) rfl ?_
  refine g_iloadN X0 hx (b d20_0) rfl ?_
  refine g_ifNo X0 hx (b d20_1) (XT.i0_lt_f (by decide : ¬ ((0 : Int32) < (0 : Int32)))) ?_
  refine g_iloadN X0 hx (b d20_4) rfl ?_
  refine g_iloadN X0 hx (b d20_5) rfl ?_
  refine g_icmpNo X0 hx (b d20_6) (XT.ii_gt_f (by decide : ¬ ((2 : Int32) < (0 : Int32)))) ?_
  refine g_iloadN X0 hx (b d20_9) rfl ?_
  refine g_iloadN X0 hx (b d20_10) rfl ?_
  refine g_icmpYes X0 hx (pc := 11) 22 (b d20_11) (XT.ii_le_t (by decide : ¬ ((2 : Int32) < (2 : Int32)))) (by decide) ?_
  refine g_iloadN X0 hx (b d20_22) rfl ?_
  exact own_eI X0 hx hret (b d20_23) e0 (by decide) ⟨rfl, N0, rfl⟩
theorem rm19_2 (hw : HW Z a0)  (O0 : Old Z n0 h0) :
    MM l mn23 jdk_31_method_18_code 3 (some .int) (R4 1 0 0 15) #[(.int (0 : Int32)), (.int (2 : Int32)), (.int (2 : Int32))] Z h0 (fun v h L => v = some (.int (0 : Int32)) ∧ Fr n0 L ∧ h = h0) := by
  refine own_hN n0 rfl pn_6 ?_
  intro p e s m below meth c s₁ hx b hml hret hZ hown hnm X0 e0 N0
  refine own_ct (mkF m 0 #[.val (.int (0 : Int32)), .val (.int (2 : Int32)), .val (.int (2 : Int32))] []) rfl ?_
  refine g_iloadN X0 hx (b d19_0) rfl ?_
  refine g_iloadN X0 hx (b d19_1) rfl ?_
  refine g_iloadN X0 hx (b d19_2) rfl ?_
  refine g_aconstNull X0 hx (b d19_3) ?_
  refine own_cS X0 hx hZ hown (w92 hw) (w93 hw) (w94 hw) (w95 hw) (rm20_2 hw O0) e0 0 (by decide) (by decide) (by rw [hml]; rfl) [(.int (0 : Int32)), (.int (2 : Int32)), (.int (2 : Int32)), .null] [] (lenOf pd_17 rfl) rfl rfl (Nat.le_of_eq rfl) (b d19_4) ?_
  rintro T1 _ L1 X1 ⟨rfl, M1, eh1⟩
  have N1 := Fr.app N0 M1
  exact own_eI X1 hx hret (b d19_7) eh1 (by decide) ⟨rfl, N1, rfl⟩
theorem rm22_2 (hw : HW Z a0) (a1 : Addr) (kz2 : ClassId) (p3 p4 : Int32) (O0 : Old Z n0 h0) (P1 : Arv Z h0 a1 kz2 .byte (4 : Int32) [(.int (own_b0 (own_c p3))), (.int (own_b8 (own_c p3))), (.int (own_b0 (own_c p4))), (.int (own_b8 (own_c p4)))] (.int (0 : Int32))) (P2 : ¬ ((own_c p3) < (0 : Int32))) (P3 : ¬ ((65535 : Int32) < (own_c p3))) (P4 : ¬ ((own_c p4) < (0 : Int32))) (P5 : ¬ ((65535 : Int32) < (own_c p4))) (P6 : Sta Z Z.heap "java/lang/StringUTF16" "$assertionsDisabled" "Z" (.int (1 : Int32))) (P7 : Sta Z Z.heap "java/lang/StringUTF16" "HI_BYTE_SHIFT" "I" (.int (0 : Int32))) (P8 : Sta Z Z.heap "java/lang/StringUTF16" "LO_BYTE_SHIFT" "I" (.int (8 : Int32))) :
    MM l mn25 jdk_52_method_12_code 3 (some .int) (R4 2 0 0 30) #[(.ref a1), (.int (0 : Int32)), (.int (2 : Int32))] Z h0 (fun v h L => v = some (.int ((2 : Int32) - (own_pr (own_c p3) (own_c p4)))) ∧ Fr n0 L ∧ h = h0) := by
  refine own_hN n0 rfl pn_2 ?_
  intro p e s m below meth c s₁ hx b hml hret hZ hown hnm X0 e0 N0
  refine own_ct (mkF m 0 #[.val (.ref a1), .val (.int (0 : Int32)), .val (.int (2 : Int32))] []) rfl ?_
  refine g_aloadN X0 hx (b d22_0) rfl rfl ?_
  refine g_iloadN X0 hx (b d22_1) rfl ?_
  refine g_iloadN X0 hx (b d22_2) rfl ?_
  refine g_iconst X0 hx (0) (b d22_3) rfl ?_
  refine own_cS X0 hx hZ hown (w104 hw) (w105 hw) (w45 hw) (w106 hw) (rmC2 hw a1 kz2 (own_c p3) (own_c p4) O0 P1 P2 P3 P4 P5 P6 P7 P8) e0 0 (by decide) (by decide) (by rw [hml]; rfl) [(.ref a1), (.int (0 : Int32)), (.int (2 : Int32)), (.int (0 : Int32))] [] (lenOf pd_19 rfl) rfl rfl (Nat.le_of_eq rfl) (b d22_4) ?_
  rintro T1 _ L1 X1 ⟨rfl, M1, eh1⟩
  have N1 := Fr.app N0 M1
  exact own_eI X1 hx hret (b d22_7) eh1 (by decide) ⟨rfl, N1, rfl⟩
theorem rm18_3 (hw : HW Z a0) (a1 a2 : Addr) (kz3 : ClassId) (p4 p5 p6 : Int32) (O0 : Old Z n0 h0) (P1 : Exa Z h0 a1 "java/lang/String") (P2 : Fld Z h0 a1 "java/lang/String" "value" "[B" (.ref a2)) (P3 : Arv Z h0 a2 kz3 .byte (4 : Int32) [(.int (own_b0 (own_c p4))), (.int (own_b8 (own_c p4))), (.int (own_b0 (own_c p5))), (.int (own_b8 (own_c p5)))] (.int (0 : Int32))) (P4 : Sta Z Z.heap "java/lang/String" "COMPACT_STRINGS" "Z" (.int p6)) (P5 : ¬ (p6 = (0 : Int32))) (P6 : Fld Z h0 a1 "java/lang/String" "coder" "B" (.int (1 : Int32))) (P7 : ¬ ((own_c p4) < (0 : Int32))) (P8 : ¬ ((65535 : Int32) < (own_c p4))) (P9 : ¬ ((own_c p5) < (0 : Int32))) (P10 : ¬ ((65535 : Int32) < (own_c p5))) (P11 : Sta Z Z.heap "java/lang/StringUTF16" "$assertionsDisabled" "Z" (.int (1 : Int32))) (P12 : Sta Z Z.heap "java/lang/StringUTF16" "HI_BYTE_SHIFT" "I" (.int (0 : Int32))) (P13 : Sta Z Z.heap "java/lang/StringUTF16" "LO_BYTE_SHIFT" "I" (.int (8 : Int32))) :
    MM l mn26 jdk_42_method_59_code 3 (some .int) (R4 3 0 0 44) #[(.ref a1), (.int (0 : Int32)), (.int (2 : Int32))] Z h0 (fun v h L => v = some (.int ((2 : Int32) - (own_pr (own_c p4) (own_c p5)))) ∧ Fr n0 L ∧ h = h0) := by
  refine own_hN n0 rfl pn_3 ?_
  intro p e s m below meth c s₁ hx b hml hret hZ hown hnm X0 e0 N0
  refine own_ct (mkF m 0 #[.val (.ref a1), .val (.int (0 : Int32)), .val (.int (2 : Int32))] []) rfl ?_
  refine g_iloadN X0 hx (b d18_0) rfl ?_
  refine g_iloadN X0 hx (b d18_1) rfl ?_
  refine g_aloadN X0 hx (b d18_2) rfl rfl ?_
  refine own_cV X0 hx hZ hown (w87 hw) (w73 hw) (notFace_of_selects (args := #[]) (mvT hZ (w75 hw))) (w75 hw) (w74 hw) (w13 hw) (w76 hw) (rm16_3 hw a1 a2 kz3 p4 p5 p6 O0 P2 P3 P1 P4 P5 P6) e0 2 (by decide) (by decide) (by rw [hml]; rfl) P1 [] [(.int (2 : Int32)), (.int (0 : Int32))] (lenOf pd_16 rfl) rfl rfl (Nat.le_of_eq rfl) (b d18_3) ?_
  rintro T1 _ L1 X1 ⟨rfl, M1, eh1⟩
  have N1 := Fr.app N0 M1
  refine own_cS X1 hx hZ hown (w88 hw) (w89 hw) (w90 hw) (w91 hw) (rm19_2 hw O0) eh1 0 (by decide) (by decide) (by rw [hml]; rfl) [(.int (0 : Int32)), (.int (2 : Int32)), (.int (2 : Int32))] [] (lenOf pd_18 rfl) rfl rfl (Nat.le_of_eq rfl) (b d18_6) ?_
  rintro T2 _ L2 X2 ⟨rfl, M2, eh2⟩
  have N2 := Fr.app N1 M2
  refine Go.st (fun t k => XS.pop X2.here hx rfl (b d18_9) rfl rfl k) ?_
  refine g_aloadN X2 hx (b d18_10) rfl rfl ?_
  refine own_cV X2 hx hZ hown (w96 hw) (w97 hw) (notFace_of_selects (args := #[]) (mvT hZ (w99 hw))) (w99 hw) (w98 hw) (w13 hw) (w100 hw) (rm21_1 hw a1 p6 O0 P4 P5 P6) eh2 0 (by decide) (by decide) (by rw [hml]; rfl) P1 [] [] (lenOf pd_12 rfl) rfl rfl (Nat.le_of_eq rfl) (b d18_11) ?_
  rintro T3 _ L3 X3 ⟨rfl, M3, eh3⟩
  have N3 := Fr.app N2 M3
  refine g_ifYes X3 hx (pc := 14) 21 (b d18_14) (XT.i0_eq_t (by decide : (0 : Int32) = (0 : Int32))) (by decide) ?_
  refine g_aloadN X3 hx (b d18_21) rfl rfl ?_
  obtain ⟨T4, X4, e4, st4⟩ := getF X3 hx hZ hown (host := "") (Or.inl (w31 hw)) Via.refl eh3 P2 (g := (mkF m 22 #[.val (.ref a1), .val (.int (0 : Int32)), .val (.int (2 : Int32))] [(.ref a1)])) rfl rfl (b d18_22)
  refine Go.st st4 ?_
  refine g_iloadN X4 hx (b d18_25) rfl ?_
  refine g_iloadN X4 hx (b d18_26) rfl ?_
  refine own_cS X4 hx hZ hown (w101 hw) (w102 hw) (w45 hw) (w103 hw) (rm22_2 hw a2 kz3 p4 p5 O0 P3 P7 P8 P9 P10 P11 P12 P13) e4 0 (by decide) (by decide) (by rw [hml]; rfl) [(.ref a2), (.int (0 : Int32)), (.int (2 : Int32))] [] (lenOf pd_20 rfl) rfl rfl (Nat.le_of_eq rfl) (b d18_27) ?_
  rintro T5 _ L5 X5 ⟨rfl, M5, eh5⟩
  have N5 := Fr.app N3 M5
  exact own_eI X5 hx hret (b d18_30) eh5 (by decide) ⟨rfl, N5, rfl⟩
theorem rm6_6 (hw : HW Z a0) (a1 : Addr) (p2 : Int32) (a3 : Addr) (kz4 : ClassId) (p5 p6 p7 : Int32) (O0 : Old Z n0 h0) (P1 : Exa Z h0 a1 "java/lang/String") (P2 : Fld Z h0 a1 "java/lang/String" "value" "[B" (.ref a3)) (P3 : Arv Z h0 a3 kz4 .byte (4 : Int32) [(.int (own_b0 (own_c p5))), (.int (own_b8 (own_c p5))), (.int (own_b0 (own_c p6))), (.int (own_b8 (own_c p6)))] (.int (0 : Int32))) (P4 : Sta Z Z.heap "java/lang/String" "COMPACT_STRINGS" "Z" (.int p7)) (P5 : ¬ (p7 = (0 : Int32))) (P6 : Fld Z h0 a1 "java/lang/String" "coder" "B" (.int (1 : Int32))) (P7 : ¬ ((own_c p5) < (0 : Int32))) (P8 : ¬ ((65535 : Int32) < (own_c p5))) (P9 : ¬ ((own_c p6) < (0 : Int32))) (P10 : ¬ ((65535 : Int32) < (own_c p6))) (P11 : Sta Z Z.heap "java/lang/StringUTF16" "$assertionsDisabled" "Z" (.int (1 : Int32))) (P12 : Sta Z Z.heap "java/lang/StringUTF16" "HI_BYTE_SHIFT" "I" (.int (0 : Int32))) (P13 : Sta Z Z.heap "java/lang/StringUTF16" "LO_BYTE_SHIFT" "I" (.int (8 : Int32))) (P14 : p2 < ((2 : Int32) - (own_pr (own_c p5) (own_c p6)))) :
    MM l mn18 prog_38_method_2_code 2 (some .boolean) (R4 4 0 0 58) #[(.ref a1), (.int p2)] Z h0 (fun v h L => v = some (.int (0 : Int32)) ∧ Fr n0 L ∧ h = h0) := by
  refine own_hN n0 rfl pn_4 ?_
  intro p e s m below meth c s₁ hx b hml hret hZ hown hnm X0 e0 N0
  refine own_ct (mkF m 0 #[.val (.ref a1), .val (.int p2)] []) rfl ?_
  refine g_aloadN X0 hx (b d6_0) rfl rfl ?_
  refine Go.st (fun t k => XS.ifnullNo X0.here hx rfl (b d6_1) rfl k) ?_
  refine g_aloadN X0 hx (b d6_4) rfl rfl ?_
  refine own_cV X0 hx hZ hown (w37 hw) (w38 hw) (notFace_of_selects (args := #[]) (mvT hZ (w40 hw))) (w40 hw) (w39 hw) (w13 hw) (w41 hw) (rm7_4 hw a1 a3 kz4 p5 p6 O0 P2 P3) e0 0 (by decide) (by decide) (by rw [hml]; rfl) P1 [] [] (lenOf pd_12 rfl) rfl rfl (Nat.le_of_eq rfl) (b d6_5) ?_
  rintro T1 _ L1 X1 ⟨rfl, M1, eh1⟩
  have N1 := Fr.app N0 M1
  refine g_ifNo X1 hx (b d6_8) (XT.i0_ne_f (by decide : (0 : Int32) = (0 : Int32))) ?_
  refine g_aloadN X1 hx (b d6_11) rfl rfl ?_
  refine g_iconst X1 hx (0) (b d6_12) rfl ?_
  refine g_aloadN X1 hx (b d6_13) rfl rfl ?_
  refine own_cV X1 hx hZ hown (w72 hw) (w73 hw) (notFace_of_selects (args := #[]) (mvT hZ (w75 hw))) (w75 hw) (w74 hw) (w13 hw) (w76 hw) (rm16_3 hw a1 a3 kz4 p5 p6 p7 O0 P2 P3 P1 P4 P5 P6) eh1 2 (by decide) (by decide) (by rw [hml]; rfl) P1 [] [(.int (0 : Int32)), (.ref a1)] (lenOf pd_16 rfl) rfl rfl (Nat.le_of_eq rfl) (b d6_14) ?_
  rintro T2 _ L2 X2 ⟨rfl, M2, eh2⟩
  have N2 := Fr.app N1 M2
  refine own_cV X2 hx hZ hown (w82 hw) (w83 hw) (notFace_of_selects (args := #[]) (mvT hZ (w85 hw))) (w85 hw) (w84 hw) (w13 hw) (w86 hw) (rm18_3 hw a1 a3 kz4 p5 p6 p7 O0 P1 P2 P3 P4 P5 P6 P7 P8 P9 P10 P11 P12 P13) eh2 0 (by decide) (by decide) (by rw [hml]; rfl) P1 [(.int (0 : Int32)), (.int (2 : Int32))] [] (lenOf pd_21 rfl) rfl rfl (Nat.le_of_eq rfl) (b d6_17) ?_
  rintro T3 _ L3 X3 ⟨rfl, M3, eh3⟩
  have N3 := Fr.app N2 M3
  refine g_iloadN X3 hx (b d6_20) rfl ?_
  refine g_icmpYes X3 hx (pc := 21) 28 (b d6_21) (XT.ii_gt_t P14) (by decide) ?_
  refine g_iconst X3 hx (0) (b d6_28) rfl ?_
  exact own_eB X3 hx hret (by simp) rfl (b d6_29) eh3 (by decide) ⟨rfl, N3, rfl⟩
theorem rm6_7 (hw : HW Z a0) (a1 : Addr) (p2 : Int32) (a3 : Addr) (kz4 : ClassId) (p5 p6 p7 : Int32) (O0 : Old Z n0 h0) (P1 : Exa Z h0 a1 "java/lang/String") (P2 : Fld Z h0 a1 "java/lang/String" "value" "[B" (.ref a3)) (P3 : Arv Z h0 a3 kz4 .byte (4 : Int32) [(.int (own_b0 (own_c p5))), (.int (own_b8 (own_c p5))), (.int (own_b0 (own_c p6))), (.int (own_b8 (own_c p6)))] (.int (0 : Int32))) (P4 : Sta Z Z.heap "java/lang/String" "COMPACT_STRINGS" "Z" (.int p7)) (P5 : ¬ (p7 = (0 : Int32))) (P6 : Fld Z h0 a1 "java/lang/String" "coder" "B" (.int (1 : Int32))) (P7 : ¬ ((own_c p5) < (0 : Int32))) (P8 : ¬ ((65535 : Int32) < (own_c p5))) (P9 : ¬ ((own_c p6) < (0 : Int32))) (P10 : ¬ ((65535 : Int32) < (own_c p6))) (P11 : Sta Z Z.heap "java/lang/StringUTF16" "$assertionsDisabled" "Z" (.int (1 : Int32))) (P12 : Sta Z Z.heap "java/lang/StringUTF16" "HI_BYTE_SHIFT" "I" (.int (0 : Int32))) (P13 : Sta Z Z.heap "java/lang/StringUTF16" "LO_BYTE_SHIFT" "I" (.int (8 : Int32))) (P14 : ¬ (p2 < ((2 : Int32) - (own_pr (own_c p5) (own_c p6))))) :
    MM l mn18 prog_38_method_2_code 2 (some .boolean) (R4 4 0 0 58) #[(.ref a1), (.int p2)] Z h0 (fun v h L => v = some (.int (1 : Int32)) ∧ Fr n0 L ∧ h = h0) := by
  refine own_hN n0 rfl pn_4 ?_
  intro p e s m below meth c s₁ hx b hml hret hZ hown hnm X0 e0 N0
  refine own_ct (mkF m 0 #[.val (.ref a1), .val (.int p2)] []) rfl ?_
  refine g_aloadN X0 hx (b d6_0) rfl rfl ?_
  refine Go.st (fun t k => XS.ifnullNo X0.here hx rfl (b d6_1) rfl k) ?_
  refine g_aloadN X0 hx (b d6_4) rfl rfl ?_
  refine own_cV X0 hx hZ hown (w37 hw) (w38 hw) (notFace_of_selects (args := #[]) (mvT hZ (w40 hw))) (w40 hw) (w39 hw) (w13 hw) (w41 hw) (rm7_4 hw a1 a3 kz4 p5 p6 O0 P2 P3) e0 0 (by decide) (by decide) (by rw [hml]; rfl) P1 [] [] (lenOf pd_12 rfl) rfl rfl (Nat.le_of_eq rfl) (b d6_5) ?_
  rintro T1 _ L1 X1 ⟨rfl, M1, eh1⟩
  have N1 := Fr.app N0 M1
  refine g_ifNo X1 hx (b d6_8) (XT.i0_ne_f (by decide : (0 : Int32) = (0 : Int32))) ?_
  refine g_aloadN X1 hx (b d6_11) rfl rfl ?_
  refine g_iconst X1 hx (0) (b d6_12) rfl ?_
  refine g_aloadN X1 hx (b d6_13) rfl rfl ?_
  refine own_cV X1 hx hZ hown (w72 hw) (w73 hw) (notFace_of_selects (args := #[]) (mvT hZ (w75 hw))) (w75 hw) (w74 hw) (w13 hw) (w76 hw) (rm16_3 hw a1 a3 kz4 p5 p6 p7 O0 P2 P3 P1 P4 P5 P6) eh1 2 (by decide) (by decide) (by rw [hml]; rfl) P1 [] [(.int (0 : Int32)), (.ref a1)] (lenOf pd_16 rfl) rfl rfl (Nat.le_of_eq rfl) (b d6_14) ?_
  rintro T2 _ L2 X2 ⟨rfl, M2, eh2⟩
  have N2 := Fr.app N1 M2
  refine own_cV X2 hx hZ hown (w82 hw) (w83 hw) (notFace_of_selects (args := #[]) (mvT hZ (w85 hw))) (w85 hw) (w84 hw) (w13 hw) (w86 hw) (rm18_3 hw a1 a3 kz4 p5 p6 p7 O0 P1 P2 P3 P4 P5 P6 P7 P8 P9 P10 P11 P12 P13) eh2 0 (by decide) (by decide) (by rw [hml]; rfl) P1 [(.int (0 : Int32)), (.int (2 : Int32))] [] (lenOf pd_21 rfl) rfl rfl (Nat.le_of_eq rfl) (b d6_17) ?_
  rintro T3 _ L3 X3 ⟨rfl, M3, eh3⟩
  have N3 := Fr.app N2 M3
  refine g_iloadN X3 hx (b d6_20) rfl ?_
  refine g_icmpNo X3 hx (b d6_21) (XT.ii_gt_f P14) ?_
  refine g_iconst X3 hx (1) (b d6_24) rfl ?_
  refine g_goto X3 hx (pc := 25) 29 (b d6_25) (by decide) ?_
  exact own_eB X3 hx hret (by simp) rfl (b d6_29) eh3 (by decide) ⟨rfl, N3, rfl⟩
theorem rm9_12 (hw : HW Z a0) (a1 a2 : Addr) (kz3 : ClassId) (p4 p5 : Int32) (kz6 : ClassId) (O0 : Old Z n0 h0) (P1 : Arv Z h0 a1 kz3 .char (2 : Int32) [(.int (own_c p4)), (.int (own_c p5))] (.int (0 : Int32))) (P2 : ¬ ((255 : Int32) < (own_c p4))) (P3 : Arv Z h0 a2 kz6 .byte (2 : Int32) [(.int (0 : Int32)), (.int (0 : Int32))] (.int (0 : Int32))) (P4 : n0 ≤ a2) (P5 : a1 ≠ a2) (P6 : ¬ ((255 : Int32) < (own_c p5))) :
    MM l mn8 jdk_52_method_21_code 7 (some .int) (R4 0 0 0 0) #[(.ref a1), (.int (0 : Int32)), (.ref a2), (.int (0 : Int32)), (.int (2 : Int32))] Z h0 (fun v h L => v = some (.int (2 : Int32)) ∧ Fr n0 L ∧ Keep h0 h [a2] ∧ Arv Z h a2 kz6 .byte (2 : Int32) [(.int (((own_c p4).toInt8.toInt32).toInt8.toInt32)), (.int (((own_c p5).toInt8.toInt32).toInt8.toInt32))] (.int (0 : Int32))) := by
  refine own_hN n0 rfl pn_2 ?_
  intro p e s m below meth c s₁ hx b hml hret hZ hown hnm X0 e0 N0
  refine own_ct (mkF m 0 #[.val (.ref a1), .val (.int (0 : Int32)), .val (.ref a2), .val (.int (0 : Int32)), .val (.int (2 : Int32)), .unset, .unset] []) rfl ?_
  refine g_iconst X0 hx (0) (b d9_0) rfl ?_
  refine g_istore X0 hx (b d9_1) (l' := #[.val (.ref a1), .val (.int (0 : Int32)), .val (.ref a2), .val (.int (0 : Int32)), .val (.int (2 : Int32)), .val (.int (0 : Int32)), .unset]) rfl ?_
  refine g_iload X0 hx (b d9_3) rfl ?_
  refine g_iload X0 hx (b d9_5) rfl ?_
  refine g_icmpNo X0 hx (b d9_7) (XT.ii_ge_f (by decide : (0 : Int32) < (2 : Int32))) ?_
  refine g_aloadN X0 hx (b d9_10) rfl rfl ?_
  refine g_iloadN X0 hx (b d9_11) rfl ?_
  obtain ⟨cl1, Ar1, q1, S1, M1, H1, G1⟩ := id P1
  have hin1 : ¬ ((0 : Int32) < 0 ∨ cl1.slots.size ≤ ((0 : Int32)).toNatClampNeg) := inb_of S1 ⟨by decide, by decide⟩
  have hat1 : cl1.slots[((0 : Int32)).toNatClampNeg]? = some (.int (own_c p4)) := H1.at hin1 rfl
  refine Go.st (fun t k => X0.caload hx (j := (0 : Int32)) (v := (.int (own_c p4))) (by rw [e0]; exact Ar1.1) (State.isArrayOf_alike hZ.alike Ar1.2.1) Ar1.2.2 hin1 hat1 (g := (mkF m 12 #[.val (.ref a1), .val (.int (0 : Int32)), .val (.ref a2), .val (.int (0 : Int32)), .val (.int (2 : Int32)), .val (.int (0 : Int32)), .unset] [(.int (0 : Int32)), (.ref a1)])) rfl rfl (b d9_12) t k) ?_
  refine g_istore X0 hx (b d9_13) (l' := #[.val (.ref a1), .val (.int (0 : Int32)), .val (.ref a2), .val (.int (0 : Int32)), .val (.int (2 : Int32)), .val (.int (0 : Int32)), .val (.int (own_c p4))]) rfl ?_
  refine g_iload X0 hx (b d9_15) rfl ?_
  refine g_sipush X0 hx (255) (b d9_17) rfl ?_
  refine g_icmpYes X0 hx (pc := 20) 26 (b d9_20) (XT.ii_le_t P2) (by decide) ?_
  refine g_aloadN X0 hx (b d9_26) rfl rfl ?_
  refine g_iloadN X0 hx (b d9_27) rfl ?_
  refine g_iload X0 hx (b d9_28) rfl ?_
  refine g_i2bZ X0 hx ((own_c p4).toInt8.toInt32) (b d9_30) rfl ?_
  obtain ⟨cl2, Ar2, q2, S2, M2, H2, G2⟩ := id P3
  have hin2 : ¬ ((0 : Int32) < 0 ∨ cl2.slots.size ≤ ((0 : Int32)).toNatClampNeg) := inb_of S2 ⟨by decide, by decide⟩
  obtain ⟨T2, h2, X2, e2, W2, st2⟩ := stB X0 hx hZ e0 Ar2 (j := (0 : Int32)) hin2 (g := (mkF m 31 #[.val (.ref a1), .val (.int (0 : Int32)), .val (.ref a2), .val (.int (0 : Int32)), .val (.int (2 : Int32)), .val (.int (0 : Int32)), .val (.int (own_c p4))] [(.int ((own_c p4).toInt8.toInt32)), (.int (0 : Int32)), (.ref a2)])) rfl rfl (b d9_31)
  have V2 : Arv Z h2 a2 kz6 .byte (2 : Int32) [(.int (((own_c p4).toInt8.toInt32).toInt8.toInt32)), (.int (0 : Int32))] (.int (0 : Int32)) := Arv.set Ar2 q2 S2 M2 H2 G2 (fits_nar_byte _) W2 0 rfl (Nat.le_of_ble_eq_true rfl)
  have N2 := Fr.snoc X2 N0 P4
  have O2 : Old Z n0 h2 := O0.wr W2 P4
  have K2 : Keep h0 h2 [a2] := (Keep.refl h0 [a2]).wr W2 (Or.inl (List.mem_of_getElem? (i := 0) rfl))
  refine Go.st st2 ?_
  refine g_iinc X2 hx (b d9_32) rfl (l' := #[.val (.ref a1), .val (.int (1 : Int32)), .val (.ref a2), .val (.int (0 : Int32)), .val (.int (2 : Int32)), .val (.int (0 : Int32)), .val (.int (own_c p4))]) rfl ?_
  refine g_iinc X2 hx (b d9_35) rfl (l' := #[.val (.ref a1), .val (.int (1 : Int32)), .val (.ref a2), .val (.int (1 : Int32)), .val (.int (2 : Int32)), .val (.int (0 : Int32)), .val (.int (own_c p4))]) rfl ?_
  refine g_iinc X2 hx (b d9_38) rfl (l' := #[.val (.ref a1), .val (.int (1 : Int32)), .val (.ref a2), .val (.int (1 : Int32)), .val (.int (2 : Int32)), .val (.int (1 : Int32)), .val (.int (own_c p4))]) rfl ?_
  refine g_goto X2 hx (pc := 41) 3 (b d9_41) (by decide) ?_
  refine g_iload X2 hx (b d9_3) rfl ?_
  refine g_iload X2 hx (b d9_5) rfl ?_
  refine g_icmpNo X2 hx (b d9_7) (XT.ii_ge_f (by decide : (1 : Int32) < (2 : Int32))) ?_
  refine g_aloadN X2 hx (b d9_10) rfl rfl ?_
  refine g_iloadN X2 hx (b d9_11) rfl ?_
  obtain ⟨cl3, Ar3, q3, S3, M3, H3, G3⟩ := id (P1.other W2 P5)
  have hin3 : ¬ ((1 : Int32) < 0 ∨ cl3.slots.size ≤ ((1 : Int32)).toNatClampNeg) := inb_of S3 ⟨by decide, by decide⟩
  have hat3 : cl3.slots[((1 : Int32)).toNatClampNeg]? = some (.int (own_c p5)) := H3.at hin3 rfl
  refine Go.st (fun t k => X2.caload hx (j := (1 : Int32)) (v := (.int (own_c p5))) (by rw [e2]; exact Ar3.1) (State.isArrayOf_alike hZ.alike Ar3.2.1) Ar3.2.2 hin3 hat3 (g := (mkF m 12 #[.val (.ref a1), .val (.int (1 : Int32)), .val (.ref a2), .val (.int (1 : Int32)), .val (.int (2 : Int32)), .val (.int (1 : Int32)), .val (.int (own_c p4))] [(.int (1 : Int32)), (.ref a1)])) rfl rfl (b d9_12) t k) ?_
  refine g_istore X2 hx (b d9_13) (l' := #[.val (.ref a1), .val (.int (1 : Int32)), .val (.ref a2), .val (.int (1 : Int32)), .val (.int (2 : Int32)), .val (.int (1 : Int32)), .val (.int (own_c p5))]) rfl ?_
  refine g_iload X2 hx (b d9_15) rfl ?_
  refine g_sipush X2 hx (255) (b d9_17) rfl ?_
  refine g_icmpYes X2 hx (pc := 20) 26 (b d9_20) (XT.ii_le_t P6) (by decide) ?_
  refine g_aloadN X2 hx (b d9_26) rfl rfl ?_
  refine g_iloadN X2 hx (b d9_27) rfl ?_
  refine g_iload X2 hx (b d9_28) rfl ?_
  refine g_i2bZ X2 hx ((own_c p5).toInt8.toInt32) (b d9_30) rfl ?_
  obtain ⟨cl4, Ar4, q4, S4, M4, H4, G4⟩ := id V2
  have hin4 : ¬ ((1 : Int32) < 0 ∨ cl4.slots.size ≤ ((1 : Int32)).toNatClampNeg) := inb_of S4 ⟨by decide, by decide⟩
  obtain ⟨T4, h4, X4, e4, W4, st4⟩ := stB X2 hx hZ e2 Ar4 (j := (1 : Int32)) hin4 (g := (mkF m 31 #[.val (.ref a1), .val (.int (1 : Int32)), .val (.ref a2), .val (.int (1 : Int32)), .val (.int (2 : Int32)), .val (.int (1 : Int32)), .val (.int (own_c p5))] [(.int ((own_c p5).toInt8.toInt32)), (.int (1 : Int32)), (.ref a2)])) rfl rfl (b d9_31)
  have V4 : Arv Z h4 a2 kz6 .byte (2 : Int32) [(.int (((own_c p4).toInt8.toInt32).toInt8.toInt32)), (.int (((own_c p5).toInt8.toInt32).toInt8.toInt32))] (.int (0 : Int32)) := Arv.set Ar4 q4 S4 M4 H4 G4 (fits_nar_byte _) W4 1 rfl (Nat.le_of_ble_eq_true rfl)
  have N4 := Fr.snoc X4 N2 P4
  have O4 : Old Z n0 h4 := O2.wr W4 P4
  have K4 : Keep h0 h4 [a2] := K2.wr W4 (Or.inl (List.mem_of_getElem? (i := 0) rfl))
  refine Go.st st4 ?_
  refine g_iinc X4 hx (b d9_32) rfl (l' := #[.val (.ref a1), .val (.int (2 : Int32)), .val (.ref a2), .val (.int (1 : Int32)), .val (.int (2 : Int32)), .val (.int (1 : Int32)), .val (.int (own_c p5))]) rfl ?_
  refine g_iinc X4 hx (b d9_35) rfl (l' := #[.val (.ref a1), .val (.int (2 : Int32)), .val (.ref a2), .val (.int (2 : Int32)), .val (.int (2 : Int32)), .val (.int (1 : Int32)), .val (.int (own_c p5))]) rfl ?_
  refine g_iinc X4 hx (b d9_38) rfl (l' := #[.val (.ref a1), .val (.int (2 : Int32)), .val (.ref a2), .val (.int (2 : Int32)), .val (.int (2 : Int32)), .val (.int (2 : Int32)), .val (.int (own_c p5))]) rfl ?_
  refine g_goto X4 hx (pc := 41) 3 (b d9_41) (by decide) ?_
  refine g_iload X4 hx (b d9_3) rfl ?_
  refine g_iload X4 hx (b d9_5) rfl ?_
  refine g_icmpYes X4 hx (pc := 7) 44 (b d9_7) (XT.ii_ge_t (by decide : ¬ ((2 : Int32) < (2 : Int32)))) (by decide) ?_
  refine g_iload X4 hx (b d9_44) rfl ?_
  exact own_eI X4 hx hret (b d9_46) e4 (by decide) ⟨rfl, N4, K4, V4⟩
theorem rm8_6 (hw : HW Z a0) (a1 : Addr) (kz2 : ClassId) (p3 p4 : Int32) (O0 : Old Z n0 h0) (P1 : Arv Z h0 a1 kz2 .char (2 : Int32) [(.int (own_c p3)), (.int (own_c p4))] (.int (0 : Int32))) (P2 : ¬ ((255 : Int32) < (own_c p3))) (P3 : ¬ ((255 : Int32) < (own_c p4))) :
    MM l mn13 jdk_52_method_16_code 6 (some (.array .byte)) (R4 1 1 2 18) #[(.ref a1), (.int (0 : Int32)), (.int (2 : Int32))] Z h0 (fun v h L => ∃ (b1 : Addr) (k1 : ClassId), v = some (.ref b1) ∧ Fr n0 L ∧ Keep h0 h [] ∧ h0.size ≤ b1 ∧ Arv Z h b1 k1 .byte (2 : Int32) [(.int (((own_c p3).toInt8.toInt32).toInt8.toInt32)), (.int (((own_c p4).toInt8.toInt32).toInt8.toInt32))] (.int (0 : Int32))) := by
  refine own_hN n0 rfl pn_2 ?_
  intro p e s m below meth c s₁ hx b hml hret hZ hown hnm X0 e0 N0
  refine own_ct (mkF m 0 #[.val (.ref a1), .val (.int (0 : Int32)), .val (.int (2 : Int32)), .unset, .unset, .unset] []) rfl ?_
  refine g_iloadN X0 hx (b d8_0) rfl ?_
  obtain ⟨T1, h1, k1, X1, e1, E1, A1, st1⟩ := newP X0 hx hZ (aty := .byte) (w26 hw) e0 (g := (mkF m 1 #[.val (.ref a1), .val (.int (0 : Int32)), .val (.int (2 : Int32)), .unset, .unset, .unset] [(.int (2 : Int32))])) rfl (b d8_1) rfl (by decide) (cap := 2) (by decide) (by decide) (by decide) (by decide)
  obtain ⟨b1, z1⟩ : ∃ z, z = h0.size := ⟨_, rfl⟩
  rw [← z1] at A1 st1
  have g_b1 : n0 ≤ b1 := Nat.le_trans (own_n0 O0) (Nat.le_of_eq z1.symm)
  have s_b1 : h0.size ≤ b1 := Nat.le_trans (Keep.refl h0 []).1 (Nat.le_of_eq z1.symm)
  have V1 : Arv Z h1 b1 k1 .byte (2 : Int32) [(.int (0 : Int32)), (.int (0 : Int32))] (.int (0 : Int32)) := (Arv.new A1 (by decide)).pad (pad_rep [] (.int (0 : Int32)) 2)
  have O1 : Old Z n0 h1 := O0.ext E1
  have K1 : Keep h0 h1 [] := (Keep.refl h0 []).ext E1
  refine Go.st st1 ?_
  refine g_astoreN X1 hx (b d8_3) rfl (l' := #[.val (.ref a1), .val (.int (0 : Int32)), .val (.int (2 : Int32)), .val (.ref b1), .unset, .unset]) rfl ?_
  refine g_aloadN X1 hx (b d8_4) rfl rfl ?_
  refine g_iloadN X1 hx (b d8_5) rfl ?_
  refine g_aloadN X1 hx (b d8_6) rfl rfl ?_
  refine g_iconst X1 hx (0) (b d8_7) rfl ?_
  refine g_iloadN X1 hx (b d8_8) rfl ?_
  refine own_cS X1 hx hZ hown (w47 hw) (w48 hw) (w45 hw) (w49 hw) (rm9_12 hw a1 b1 kz2 p3 p4 k1 O1 (P1.ext E1) P2 V1 g_b1 (Nat.ne_of_lt (Nat.lt_of_lt_of_le P1.lt (Nat.le_of_eq z1.symm))) P3) e1 0 (by decide) (by decide) (by rw [hml]; rfl) [(.ref a1), (.int (0 : Int32)), (.ref b1), (.int (0 : Int32)), (.int (2 : Int32))] [] (lenOf pd_2 rfl) rfl rfl (Nat.le_of_eq rfl) (b d8_9) ?_
  rintro T2 _ L2 X2 ⟨rfl, M2, K2c, r2_0⟩
  have N2 := Fr.app N0 M2
  have O2 : Old Z n0 T2.heap := O1.keep K2c (allS g_b1 all0)
  have K2 : Keep h0 T2.heap [] := K1.trans K2c (allS (Or.inr s_b1) all0)
  refine g_istore X2 hx (b d8_12) (l' := #[.val (.ref a1), .val (.int (0 : Int32)), .val (.int (2 : Int32)), .val (.ref b1), .val (.int (2 : Int32)), .unset]) rfl ?_
  refine g_iload X2 hx (b d8_14) rfl ?_
  refine g_iloadN X2 hx (b d8_16) rfl ?_
  refine g_icmpYes X2 hx (pc := 17) 57 (b d8_17) (XT.ii_eq_t (by decide : (2 : Int32) = (2 : Int32))) (by decide) ?_
  refine g_aloadN X2 hx (b d8_57) rfl rfl ?_
  exact own_eA X2 hx hret rfl rfl (b d8_58) rfl (by decide) ⟨b1, k1, rfl, N2, K2, s_b1, r2_0⟩
theorem rm15_4 (hw : HW Z a0) (a1 : Addr) (kz2 : ClassId) (p3 p4 : Int32) (O0 : Old Z n0 h0) (P1 : Arv Z h0 a1 kz2 .byte (2 : Int32) [(.int (((own_c p3).toInt8.toInt32).toInt8.toInt32)), (.int (((own_c p4).toInt8.toInt32).toInt8.toInt32))] (.int (0 : Int32))) :
    MM l mn19 jdk_52_method_15_code 2 (some .byte) (R4 0 0 0 0) #[(.ref a1), (.int (2 : Int32))] Z h0 (fun v h L => v = some (.int (0 : Int32)) ∧ Fr n0 L ∧ h = h0) := by
  refine own_hN n0 rfl pn_2 ?_
  intro p e s m below meth c s₁ hx b hml hret hZ hown hnm X0 e0 N0
  refine own_ct (mkF m 0 #[.val (.ref a1), .val (.int (2 : Int32))] []) rfl ?_
  refine g_iloadN X0 hx (b d15_0) rfl ?_
  refine g_aloadN X0 hx (b d15_1) rfl rfl ?_
  obtain ⟨cl1, Ar1, -, S1, M1, -, -⟩ := id P1
  refine Go.st (fun t k => X0.arraylength hx (by rw [e0]; exact Ar1.1) (State.isArrayOf_alike hZ.alike Ar1.2.1) (g := (mkF m 2 #[.val (.ref a1), .val (.int (2 : Int32))] [(.ref a1), (.int (2 : Int32))])) rfl rfl (b d15_2) t k) ?_
  rw [len_of S1 M1]
  refine g_isubZ X0 hx (0 : Int32) (b d15_3) rfl ?_
  refine g_bipush X0 hx (31) (b d15_4) rfl ?_
  refine Go.st (fun t k => XS.iushr X0.here hx rfl (b d15_6) rfl k) ?_
  show Go p e below _ (s₁.setTop (mkF m 7 #[.val (.ref a1), .val (.int (2 : Int32))] [(.int (0 : Int32))]))
  refine g_i2bZ X0 hx (0 : Int32) (b d15_7) rfl ?_
  exact own_eB X0 hx hret (by simp) rfl (b d15_8) e0 (by decide) ⟨rfl, N0, rfl⟩
theorem rm4_5 (hw : HW Z a0) (a1 a2 : Addr) (p3 : Int32) (kz4 : ClassId) (p5 p6 : Int32) (O0 : Old Z n0 h0) (P1 : Sta Z Z.heap "java/lang/String" "COMPACT_STRINGS" "Z" (.int p3)) (P2 : ¬ (p3 = (0 : Int32))) (P3 : Arv Z h0 a2 kz4 .char (2 : Int32) [(.int (own_c p5)), (.int (own_c p6))] (.int (0 : Int32))) (P4 : ¬ ((own_c p5) < (0 : Int32))) (P5 : ¬ ((65535 : Int32) < (own_c p5))) (P6 : ¬ ((own_c p6) < (0 : Int32))) (P7 : ¬ ((65535 : Int32) < (own_c p6))) (P8 : ¬ ((255 : Int32) < (own_mx (own_c p5) (own_c p6)))) (P9 : ¬ ((255 : Int32) < (own_c p5))) (P10 : ¬ ((255 : Int32) < (own_c p6))) (P11 : Exa Z h0 a1 "java/lang/String") (P12 : Fld Z h0 a1 "java/lang/String" "coder" "B" (.int (0 : Int32))) (P13 : n0 ≤ a1) (P14 : Fld Z h0 a1 "java/lang/String" "value" "[B" .null) :
    MM l mn14 jdk_42_method_149_code 6 none (R4 2 1 2 35) #[(.ref a1), (.ref a2), (.int (0 : Int32)), (.int (2 : Int32)), .null] Z h0 (fun v h L => ∃ (b1_3 : Addr) (k1_3 : ClassId), v = none ∧ Fr n0 L ∧ Keep h0 h [a1] ∧ h0.size ≤ b1_3 ∧ Fld Z h a1 "java/lang/String" "coder" "B" (.int (0 : Int32)) ∧ Fld Z h a1 "java/lang/String" "value" "[B" (.ref b1_3) ∧ Arv Z h b1_3 k1_3 .byte (2 : Int32) [(.int (((own_c p5).toInt8.toInt32).toInt8.toInt32)), (.int (((own_c p6).toInt8.toInt32).toInt8.toInt32))] (.int (0 : Int32))) := by
  refine own_hN n0 rfl pn_3 ?_
  intro p e s m below meth c s₁ hx b hml hret hZ hown hnm X0 e0 N0
  refine own_ct (mkF m 0 #[.val (.ref a1), .val (.ref a2), .val (.int (0 : Int32)), .val (.int (2 : Int32)), .val .null, .unset] []) rfl ?_
  refine g_aloadN X0 hx (b d4_0) rfl rfl ?_
  obtain ⟨T1, X1, e1, st1⟩ := initO X0 hx hZ hown (w22 hw) (w23 hw) (w24 hw) e0 (g := (mkF m 1 #[.val (.ref a1), .val (.ref a2), .val (.int (0 : Int32)), .val (.int (2 : Int32)), .val .null, .unset] [(.ref a1)])) rfl (by rw [hml]; rfl) rfl (b d4_1) (by decide) (W := 0) (by show 2 * 0 + _ ≤ _; exact Nat.le_of_eq rfl) (by decide)
  refine Go.st st1 ?_
  show Go p e below _ (T1.setTop (mkF m 4 #[.val (.ref a1), .val (.ref a2), .val (.int (0 : Int32)), .val (.int (2 : Int32)), .val .null, .unset] []))
  refine g_iloadN X1 hx (b d4_4) rfl ?_
  refine g_ifYes X1 hx (pc := 5) 27 (b d4_5) (XT.i0_ne_t (by decide : ¬ ((2 : Int32) = (0 : Int32)))) (by decide) ?_
  obtain ⟨T2, X2, e2, st2⟩ := getS2 X1 hx hZ hown (host := "") (Or.inl (w42 hw)) Via.refl e1 (P1.ext O0.2) (g := (mkF m 27 #[.val (.ref a1), .val (.ref a2), .val (.int (0 : Int32)), .val (.int (2 : Int32)), .val .null, .unset] [])) rfl (b d4_27)
  refine Go.st st2 ?_
  refine g_ifNo X2 hx (b d4_30) (XT.i0_eq_f P2) ?_
  refine g_aloadN X2 hx (b d4_33) rfl rfl ?_
  refine g_iloadN X2 hx (b d4_34) rfl ?_
  refine g_iloadN X2 hx (b d4_35) rfl ?_
  refine own_cS X2 hx hZ hown (w43 hw) (w44 hw) (w45 hw) (w46 hw) (rm8_6 hw a2 kz4 p5 p6 O0 P3 P9 P10) e2 0 (by decide) (by decide) (by rw [hml]; rfl) [(.ref a2), (.int (0 : Int32)), (.int (2 : Int32))] [] (lenOf pd_6 rfl) rfl rfl (Nat.le_of_eq rfl) (b d4_36) ?_
  rintro T3 _ L3 X3 ⟨b1_3, k1_3, rfl, M3, K3c, r3_0, r3_1⟩
  have N3 := Fr.app N0 M3
  have g_b1_3 : n0 ≤ b1_3 := Nat.le_trans (own_n0 O0) r3_0
  have s_b1_3 : h0.size ≤ b1_3 := Nat.le_trans (Keep.refl h0 [a1]).1 r3_0
  have O3 : Old Z n0 T3.heap := O0.keep K3c all0
  have K3 : Keep h0 T3.heap [a1] := (Keep.refl h0 [a1]).trans K3c all0
  refine g_astore X3 hx (b d4_39) rfl (l' := #[.val (.ref a1), .val (.ref a2), .val (.int (0 : Int32)), .val (.int (2 : Int32)), .val .null, .val (.ref b1_3)]) rfl ?_
  refine g_aloadN X3 hx (b d4_41) rfl rfl ?_
  refine g_aload X3 hx (b d4_42) rfl rfl ?_
  refine g_iloadN X3 hx (b d4_44) rfl ?_
  refine own_cS X3 hx hZ hown (w69 hw) (w70 hw) (w45 hw) (w71 hw) (rm15_4 hw b1_3 k1_3 p5 p6 O3 r3_1) rfl 1 (by decide) (by decide) (by rw [hml]; rfl) [(.ref b1_3), (.int (2 : Int32))] [(.ref a1)] (lenOf pd_14 rfl) rfl rfl (Nat.le_of_eq rfl) (b d4_45) ?_
  rintro T4 _ L4 X4 ⟨rfl, M4, eh4⟩
  have N4 := Fr.app N3 M4
  obtain ⟨T5, h5, X5, e5, W5, st5⟩ := putFN X4 hx hZ hown (w32 hw) Via.refl eh4 (P12.keep K3c nin0) (P11.keep K3c) (Or.inr ⟨(w28 hw), rfl, hnm⟩) (w12 hw) (ty := .byte) (v' := (.int (0 : Int32))) (by decide) rfl (by decide) (g := (mkF m 48 #[.val (.ref a1), .val (.ref a2), .val (.int (0 : Int32)), .val (.int (2 : Int32)), .val .null, .val (.ref b1_3)] [(.int (0 : Int32)), (.ref a1)])) rfl rfl (b d4_48)
  have F5 : Fld Z h5 a1 "java/lang/String" "coder" "B" (.int (0 : Int32)) := (P12.keep K3c nin0).same W5
  have N5 := Fr.snoc X5 N4 P13
  have O5 : Old Z n0 h5 := O3.wr W5 P13
  have K5 : Keep h0 h5 [a1] := K3.wr W5 (Or.inl (List.mem_of_getElem? (i := 0) rfl))
  refine Go.st st5 ?_
  refine g_aloadN X5 hx (b d4_51) rfl rfl ?_
  refine g_aload X5 hx (b d4_52) rfl rfl ?_
  have c6 := ((P14.keep K3c nin0).other W5 (Or.inr (slot_ne (Or.inr (w27 hw)) (Or.inr (w28 hw)) (by decide) (t := (.array .byte)) (t' := .byte) (by decide) (by decide))))
  obtain ⟨T7, h7, X7, e7, W7, st7⟩ := putF X5 hx hZ hown (host := "") (Or.inl (w31 hw)) Via.refl e5 c6 ((P11.keep K3c).wr W5) (Or.inr ⟨(w27 hw), rfl, hnm⟩) (w12 hw) (ty := (.array .byte)) (by decide) rfl rfl (g := (mkF m 54 #[.val (.ref a1), .val (.ref a2), .val (.int (0 : Int32)), .val (.int (2 : Int32)), .val .null, .val (.ref b1_3)] [(.ref b1_3), (.ref a1)])) rfl rfl (b d4_54)
  have F7 : Fld Z h7 a1 "java/lang/String" "value" "[B" (.ref b1_3) := c6.same W7
  have N7 := Fr.snoc X7 N5 P13
  have O7 : Old Z n0 h7 := O5.wr W7 P13
  have K7 : Keep h0 h7 [a1] := K5.wr W7 (Or.inl (List.mem_of_getElem? (i := 0) rfl))
  refine Go.st st7 ?_
  have c8 := (F5.other W7 (Or.inr (slot_ne (Or.inr (w28 hw)) (Or.inr (w27 hw)) (by decide) (t := .byte) (t' := (.array .byte)) (by decide) (by decide))))
  have c9 := ((r3_1.other W5 (Ne.symm (Nat.ne_of_lt (Nat.lt_of_lt_of_le P11.lt r3_0)))).other W7 (Ne.symm (Nat.ne_of_lt (Nat.lt_of_lt_of_le P11.lt r3_0))))
  exact own_eV X7 hx hret (b d4_57) e7 (by decide) ⟨b1_3, k1_3, rfl, N7, K7, s_b1_3, c8, F7, c9⟩
theorem rm3_5 (hw : HW Z a0) (a1 a2 : Addr) (kz3 : ClassId) (p4 p5 p6 : Int32) (O0 : Old Z n0 h0) (P1 : Arv Z h0 a2 kz3 .char (2 : Int32) [(.int (own_c p4)), (.int (own_c p5))] (.int (0 : Int32))) (P2 : Sta Z Z.heap "java/lang/String" "COMPACT_STRINGS" "Z" (.int p6)) (P3 : ¬ (p6 = (0 : Int32))) (P4 : ¬ ((own_c p4) < (0 : Int32))) (P5 : ¬ ((65535 : Int32) < (own_c p4))) (P6 : ¬ ((own_c p5) < (0 : Int32))) (P7 : ¬ ((65535 : Int32) < (own_c p5))) (P8 : ¬ ((255 : Int32) < (own_mx (own_c p4) (own_c p5)))) (P9 : ¬ ((255 : Int32) < (own_c p4))) (P10 : ¬ ((255 : Int32) < (own_c p5))) (P11 : Exa Z h0 a1 "java/lang/String") (P12 : Fld Z h0 a1 "java/lang/String" "coder" "B" (.int (0 : Int32))) (P13 : n0 ≤ a1) (P14 : Fld Z h0 a1 "java/lang/String" "value" "[B" .null) :
    MM l mn15 jdk_42_method_3_code 2 none (R4 3 1 2 52) #[(.ref a1), (.ref a2)] Z h0 (fun v h L => ∃ (b1_3_2 : Addr) (k1_3_2 : ClassId), v = none ∧ Fr n0 L ∧ Keep h0 h [a1] ∧ h0.size ≤ b1_3_2 ∧ Fld Z h a1 "java/lang/String" "coder" "B" (.int (0 : Int32)) ∧ Fld Z h a1 "java/lang/String" "value" "[B" (.ref b1_3_2) ∧ Arv Z h b1_3_2 k1_3_2 .byte (2 : Int32) [(.int (((own_c p4).toInt8.toInt32).toInt8.toInt32)), (.int (((own_c p5).toInt8.toInt32).toInt8.toInt32))] (.int (0 : Int32))) := by
  refine own_hN n0 rfl pn_3 ?_
  intro p e s m below meth c s₁ hx b hml hret hZ hown hnm X0 e0 N0
  refine own_ct (mkF m 0 #[.val (.ref a1), .val (.ref a2)] []) rfl ?_
  refine g_aloadN X0 hx (b d3_0) rfl rfl ?_
  refine g_aloadN X0 hx (b d3_1) rfl rfl ?_
  refine g_iconst X0 hx (0) (b d3_2) rfl ?_
  refine g_aloadN X0 hx (b d3_3) rfl rfl ?_
  obtain ⟨cl1, Ar1, -, S1, M1, -, -⟩ := id P1
  refine Go.st (fun t k => X0.arraylength hx (by rw [e0]; exact Ar1.1) (State.isArrayOf_alike hZ.alike Ar1.2.1) (g := (mkF m 4 #[.val (.ref a1), .val (.ref a2)] [(.ref a2), (.int (0 : Int32)), (.ref a2), (.ref a1)])) rfl rfl (b d3_4) t k) ?_
  rw [len_of S1 M1]
  refine g_aconstNull X0 hx (b d3_5) ?_
  refine own_cI X0 hx hZ hown (w18 hw) rfl (w19 hw) (w13 hw) (w21 hw) (rm4_5 hw a1 a2 p6 kz3 p4 p5 O0 P2 P3 P1 P4 P5 P6 P7 P8 P9 P10 P11 P12 P13 P14) e0 0 (by decide) (by decide) (by rw [hml]; rfl) a1 [(.ref a2), (.int (0 : Int32)), (.int (2 : Int32)), .null] [] (lenOf pd_9 rfl) rfl rfl (Nat.le_of_eq rfl) (b d3_6) ?_
  rintro T2 _ L2 X2 ⟨b1_3_2, k1_3_2, rfl, M2, K2c, r2_0, r2_1, r2_2, r2_3⟩
  have N2 := Fr.app N0 M2
  have g_b1_3_2 : n0 ≤ b1_3_2 := Nat.le_trans (own_n0 O0) r2_0
  have s_b1_3_2 : h0.size ≤ b1_3_2 := Nat.le_trans (Keep.refl h0 [a1]).1 r2_0
  have O2 : Old Z n0 T2.heap := O0.keep K2c (allS P13 all0)
  have K2 : Keep h0 T2.heap [a1] := (Keep.refl h0 [a1]).trans K2c (allS (Or.inl (List.mem_of_getElem? (i := 0) rfl)) all0)
  exact own_eV X2 hx hret (b d3_9) rfl (by decide) ⟨b1_3_2, k1_3_2, rfl, N2, K2, s_b1_3_2, r2_1, r2_2, r2_3⟩
theorem rm2_5 (hw : HW Z a0) (p1 p2 p3 p4 p5 : Int32) (O0 : Old Z n0 h0) (P1 : Sta Z Z.heap "java/lang/String" "COMPACT_STRINGS" "Z" (.int p5)) (P2 : ¬ (p5 = (0 : Int32))) (P3 : ¬ ((own_c p1) < (0 : Int32))) (P4 : ¬ ((65535 : Int32) < (own_c p1))) (P5 : ¬ ((own_c p2) < (0 : Int32))) (P6 : ¬ ((65535 : Int32) < (own_c p2))) (P7 : ¬ ((255 : Int32) < (own_mx (own_c p1) (own_c p2)))) (P8 : ¬ ((255 : Int32) < (own_c p1))) (P9 : ¬ ((255 : Int32) < (own_c p2))) :
    MM l mn16 method_6_code 6 (some (.object "java/lang/String")) (R4 4 3 8 66) #[(.int (2 : Int32)), (.int p1), (.int p2), (.int p3), (.int p4)] Z h0 (fun v h L => ∃ (b4 b1_3_2_5 : Addr) (k1_3_2_5 : ClassId), v = some (.ref b4) ∧ Fr n0 L ∧ Keep h0 h [] ∧ h0.size ≤ b4 ∧ h0.size ≤ b1_3_2_5 ∧ b4 ≠ b1_3_2_5 ∧ Exa Z h b4 "java/lang/String" ∧ Fld Z h b4 "java/lang/String" "value" "[B" (.ref b1_3_2_5) ∧ Fld Z h b4 "java/lang/String" "coder" "B" (.int (0 : Int32)) ∧ Arv Z h b1_3_2_5 k1_3_2_5 .byte (2 : Int32) [(.int (((own_c p1).toInt8.toInt32).toInt8.toInt32)), (.int (((own_c p2).toInt8.toInt32).toInt8.toInt32))] (.int (0 : Int32))) := by
  refine own_hN n0 rfl pn_0 ?_
  intro p e s m below meth c s₁ hx b hml hret hZ hown hnm X0 e0 N0
  refine own_ct (mkF m 0 #[.val (.int (2 : Int32)), .val (.int p1), .val (.int p2), .val (.int p3), .val (.int p4), .unset] []) rfl ?_
  refine g_iloadN X0 hx (b d2_0) rfl ?_
  refine g_ifYes X0 hx (pc := 1) 15 (b d2_1) (XT.i0_ne_t (by decide : ¬ ((2 : Int32) = (0 : Int32)))) (by decide) ?_
  refine g_iloadN X0 hx (b d2_15) rfl ?_
  refine g_iconst X0 hx (1) (b d2_16) rfl ?_
  refine g_icmpYes X0 hx (pc := 17) 40 (b d2_17) (XT.ii_ne_t (by decide : ¬ ((2 : Int32) = (1 : Int32)))) (by decide) ?_
  refine g_iloadN X0 hx (b d2_40) rfl ?_
  refine g_iconst X0 hx (2) (b d2_41) rfl ?_
  refine g_icmpNo X0 hx (b d2_42) (XT.ii_ne_f (by decide : (2 : Int32) = (2 : Int32))) ?_
  refine g_iconst X0 hx (2) (b d2_45) rfl ?_
  obtain ⟨T1, h1, k1, X1, e1, E1, A1, st1⟩ := newP X0 hx hZ (aty := .char) (w14 hw) e0 (g := (mkF m 46 #[.val (.int (2 : Int32)), .val (.int p1), .val (.int p2), .val (.int p3), .val (.int p4), .unset] [(.int (2 : Int32))])) rfl (b d2_46) rfl (by decide) (cap := 2) (by decide) (by decide) (by decide) (by decide)
  obtain ⟨b1, z1⟩ : ∃ z, z = h0.size := ⟨_, rfl⟩
  rw [← z1] at A1 st1
  have g_b1 : n0 ≤ b1 := Nat.le_trans (own_n0 O0) (Nat.le_of_eq z1.symm)
  have s_b1 : h0.size ≤ b1 := Nat.le_trans (Keep.refl h0 []).1 (Nat.le_of_eq z1.symm)
  have V1 : Arv Z h1 b1 k1 .char (2 : Int32) [(.int (0 : Int32)), (.int (0 : Int32))] (.int (0 : Int32)) := (Arv.new A1 (by decide)).pad (pad_rep [] (.int (0 : Int32)) 2)
  have O1 : Old Z n0 h1 := O0.ext E1
  have K1 : Keep h0 h1 [] := (Keep.refl h0 []).ext E1
  refine Go.st st1 ?_
  refine g_astore X1 hx (b d2_48) rfl (l' := #[.val (.int (2 : Int32)), .val (.int p1), .val (.int p2), .val (.int p3), .val (.int p4), .val (.ref b1)]) rfl ?_
  refine g_aload X1 hx (b d2_50) rfl rfl ?_
  refine g_iconst X1 hx (0) (b d2_52) rfl ?_
  refine g_iloadN X1 hx (b d2_53) rfl ?_
  obtain ⟨cl2, Ar2, q2, S2, M2, H2, G2⟩ := id V1
  have hin2 : ¬ ((0 : Int32) < 0 ∨ cl2.slots.size ≤ ((0 : Int32)).toNatClampNeg) := inb_of S2 ⟨by decide, by decide⟩
  obtain ⟨T2, h2, X2, e2, W2, st2⟩ := stC X1 hx hZ e1 Ar2 (j := (0 : Int32)) hin2 (g := (mkF m 54 #[.val (.int (2 : Int32)), .val (.int p1), .val (.int p2), .val (.int p3), .val (.int p4), .val (.ref b1)] [(.int p1), (.int (0 : Int32)), (.ref b1)])) rfl rfl (b d2_54)
  have V2 : Arv Z h2 b1 k1 .char (2 : Int32) [(.int (own_c p1)), (.int (0 : Int32))] (.int (0 : Int32)) := Arv.set Ar2 q2 S2 M2 H2 G2 (fits_nar_char _) W2 0 rfl (Nat.le_of_ble_eq_true rfl)
  have N2 := Fr.snoc X2 N0 g_b1
  have O2 : Old Z n0 h2 := O1.wr W2 g_b1
  have K2 : Keep h0 h2 [] := K1.wr W2 (Or.inr s_b1)
  refine Go.st st2 ?_
  refine g_aload X2 hx (b d2_55) rfl rfl ?_
  refine g_iconst X2 hx (1) (b d2_57) rfl ?_
  refine g_iloadN X2 hx (b d2_58) rfl ?_
  obtain ⟨cl3, Ar3, q3, S3, M3, H3, G3⟩ := id V2
  have hin3 : ¬ ((1 : Int32) < 0 ∨ cl3.slots.size ≤ ((1 : Int32)).toNatClampNeg) := inb_of S3 ⟨by decide, by decide⟩
  obtain ⟨T3, h3, X3, e3, W3, st3⟩ := stC X2 hx hZ e2 Ar3 (j := (1 : Int32)) hin3 (g := (mkF m 59 #[.val (.int (2 : Int32)), .val (.int p1), .val (.int p2), .val (.int p3), .val (.int p4), .val (.ref b1)] [(.int p2), (.int (1 : Int32)), (.ref b1)])) rfl rfl (b d2_59)
  have V3 : Arv Z h3 b1 k1 .char (2 : Int32) [(.int (own_c p1)), (.int (own_c p2))] (.int (0 : Int32)) := Arv.set Ar3 q3 S3 M3 H3 G3 (fits_nar_char _) W3 1 rfl (Nat.le_of_ble_eq_true rfl)
  have N3 := Fr.snoc X3 N2 g_b1
  have O3 : Old Z n0 h3 := O2.wr W3 g_b1
  have K3 : Keep h0 h3 [] := K2.wr W3 (Or.inr s_b1)
  refine Go.st st3 ?_
  obtain ⟨T4, h4, X4, e4, E4, A4, D4, -, st4⟩ := newO X3 hx hZ hown (w11 hw) (w12 hw) (w13 hw) e3 (g := (mkF m 60 #[.val (.int (2 : Int32)), .val (.int p1), .val (.int p2), .val (.int p3), .val (.int p4), .val (.ref b1)] [])) rfl (b d2_60) (by decide) (by decide)
  obtain ⟨b4, z4⟩ : ∃ z, z = h3.size := ⟨_, rfl⟩
  rw [← z4] at A4 D4 st4
  have g_b4 : n0 ≤ b4 := Nat.le_trans (own_n0 O3) (Nat.le_of_eq z4.symm)
  have s_b4 : h0.size ≤ b4 := Nat.le_trans K3.1 (Nat.le_of_eq z4.symm)
  have O4 : Old Z n0 h4 := O3.ext E4
  have K4 : Keep h0 h4 [] := K3.ext E4
  have f4_27 : Fld Z h4 b4 "java/lang/String" "value" "[B" .null := D4 (Or.inr (w27 hw)) (ty := (.array .byte)) (by decide)
  have f4_28 : Fld Z h4 b4 "java/lang/String" "coder" "B" (.int (0 : Int32)) := D4 (Or.inr (w28 hw)) (ty := .byte) (by decide)
  refine Go.st st4 ?_
  refine Go.st (fun t k => XS.dup X4.here hx rfl (b d2_63) rfl rfl k) ?_
  refine g_aload X4 hx (b d2_64) rfl rfl ?_
  refine own_cI X4 hx hZ hown (w15 hw) rfl (w16 hw) (w13 hw) (w17 hw) (rm3_5 hw b4 b1 k1 p1 p2 p5 O4 (V3.ext E4) P1 P2 P3 P4 P5 P6 P7 P8 P9 A4 f4_28 g_b4 f4_27) e4 1 (by decide) (by decide) (by rw [hml]; rfl) b4 [(.ref b1)] [(.ref b4)] (lenOf pd_10 rfl) rfl rfl (Nat.le_of_eq rfl) (b d2_66) ?_
  rintro T5 _ L5 X5 ⟨b1_3_2_5, k1_3_2_5, rfl, M5, K5c, r5_0, r5_1, r5_2, r5_3⟩
  have N5 := Fr.app N3 M5
  have g_b1_3_2_5 : n0 ≤ b1_3_2_5 := Nat.le_trans (own_n0 O4) r5_0
  have s_b1_3_2_5 : h0.size ≤ b1_3_2_5 := Nat.le_trans K4.1 r5_0
  have O5 : Old Z n0 T5.heap := O4.keep K5c (allS g_b4 all0)
  have K5 : Keep h0 T5.heap [] := K4.trans K5c (allS (Or.inr s_b4) all0)
  exact own_eA X5 hx hret rfl rfl (b d2_69) rfl (by decide) ⟨b4, b1_3_2_5, k1_3_2_5, rfl, N5, K5, s_b4, s_b1_3_2_5, (Nat.ne_of_lt (Nat.lt_of_lt_of_le A4.lt r5_0)), (A4.keep K5c), r5_2, r5_1, r5_3⟩
theorem rm7_5 (hw : HW Z a0) (a1 a2 : Addr) (kz3 : ClassId) (p4 p5 : Int32) (O0 : Old Z n0 h0) (P1 : Fld Z h0 a1 "java/lang/String" "value" "[B" (.ref a2)) (P2 : Arv Z h0 a2 kz3 .byte (2 : Int32) [(.int (((own_c p4).toInt8.toInt32).toInt8.toInt32)), (.int (((own_c p5).toInt8.toInt32).toInt8.toInt32))] (.int (0 : Int32))) :
    MM l mn17 jdk_42_method_55_code 1 (some .boolean) (R4 0 0 0 0) #[(.ref a1)] Z h0 (fun v h L => v = some (.int (0 : Int32)) ∧ Fr n0 L ∧ h = h0) := by
  refine own_hN n0 rfl pn_3 ?_
  intro p e s m below meth c s₁ hx b hml hret hZ hown hnm X0 e0 N0
  refine own_ct (mkF m 0 #[.val (.ref a1)] []) rfl ?_
  refine g_aloadN X0 hx (b d7_0) rfl rfl ?_
  obtain ⟨T1, X1, e1, st1⟩ := getF X0 hx hZ hown (host := "") (Or.inl (w31 hw)) Via.refl e0 P1 (g := (mkF m 1 #[.val (.ref a1)] [(.ref a1)])) rfl rfl (b d7_1)
  refine Go.st st1 ?_
  obtain ⟨cl2, Ar2, -, S2, M2, -, -⟩ := id P2
  refine Go.st (fun t k => X1.arraylength hx (by rw [e1]; exact Ar2.1) (State.isArrayOf_alike hZ.alike Ar2.2.1) (g := (mkF m 4 #[.val (.ref a1)] [(.ref a2)])) rfl rfl (b d7_4) t k) ?_
  rw [len_of S2 M2]
  refine g_ifYes X1 hx (pc := 5) 12 (b d7_5) (XT.i0_ne_t (by decide : ¬ ((2 : Int32) = (0 : Int32)))) (by decide) ?_
  refine g_iconst X1 hx (0) (b d7_12) rfl ?_
  exact own_eB X1 hx hret (by simp) rfl (b d7_13) e1 (by decide) ⟨rfl, N0, rfl⟩
theorem rm16_4 (hw : HW Z a0) (a1 a2 : Addr) (kz3 : ClassId) (p4 p5 p6 : Int32) (O0 : Old Z n0 h0) (P1 : Fld Z h0 a1 "java/lang/String" "value" "[B" (.ref a2)) (P2 : Arv Z h0 a2 kz3 .byte (2 : Int32) [(.int (((own_c p4).toInt8.toInt32).toInt8.toInt32)), (.int (((own_c p5).toInt8.toInt32).toInt8.toInt32))] (.int (0 : Int32))) (P3 : Exa Z h0 a1 "java/lang/String") (P4 : Sta Z Z.heap "java/lang/String" "COMPACT_STRINGS" "Z" (.int p6)) (P5 : ¬ (p6 = (0 : Int32))) (P6 : Fld Z h0 a1 "java/lang/String" "coder" "B" (.int (0 : Int32))) :
    MM l mn21 jdk_42_method_54_code 1 (some .int) (R4 1 0 0 13) #[(.ref a1)] Z h0 (fun v h L => v = some (.int (2 : Int32)) ∧ Fr n0 L ∧ h = h0) := by
  refine own_hN n0 rfl pn_3 ?_
  intro p e s m below meth c s₁ hx b hml hret hZ hown hnm X0 e0 N0
  refine own_ct (mkF m 0 #[.val (.ref a1)] []) rfl ?_
  refine g_aloadN X0 hx (b d16_0) rfl rfl ?_
  obtain ⟨T1, X1, e1, st1⟩ := getF X0 hx hZ hown (host := "") (Or.inl (w31 hw)) Via.refl e0 P1 (g := (mkF m 1 #[.val (.ref a1)] [(.ref a1)])) rfl rfl (b d16_1)
  refine Go.st st1 ?_
  obtain ⟨cl2, Ar2, -, S2, M2, -, -⟩ := id P2
  refine Go.st (fun t k => X1.arraylength hx (by rw [e1]; exact Ar2.1) (State.isArrayOf_alike hZ.alike Ar2.2.1) (g := (mkF m 4 #[.val (.ref a1)] [(.ref a2)])) rfl rfl (b d16_4) t k) ?_
  rw [len_of S2 M2]
  refine g_aloadN X1 hx (b d16_5) rfl rfl ?_
  refine own_cV X1 hx hZ hown (w77 hw) (w78 hw) (notFace_of_selects (args := #[]) (mvT hZ (w80 hw))) (w80 hw) (w79 hw) (w13 hw) (w81 hw) (rm17_2 hw a1 p6 O0 P4 P5 P6) e1 1 (by decide) (by decide) (by rw [hml]; rfl) P3 [] [(.int (2 : Int32))] (lenOf pd_15 rfl) rfl rfl (Nat.le_of_eq rfl) (b d16_6) ?_
  rintro T3 _ L3 X3 ⟨rfl, M3, eh3⟩
  have N3 := Fr.app N0 M3
  refine g_ishrZ X3 hx (2 : Int32) (b d16_9) rfl ?_
  exact own_eI X3 hx hret (b d16_10) eh3 (by decide) ⟨rfl, N3, rfl⟩
theorem rm18_4 (hw : HW Z a0) (a1 a2 : Addr) (kz3 : ClassId) (p4 p5 p6 : Int32) (O0 : Old Z n0 h0) (P1 : Exa Z h0 a1 "java/lang/String") (P2 : Fld Z h0 a1 "java/lang/String" "value" "[B" (.ref a2)) (P3 : Arv Z h0 a2 kz3 .byte (2 : Int32) [(.int (((own_c p4).toInt8.toInt32).toInt8.toInt32)), (.int (((own_c p5).toInt8.toInt32).toInt8.toInt32))] (.int (0 : Int32))) (P4 : Sta Z Z.heap "java/lang/String" "COMPACT_STRINGS" "Z" (.int p6)) (P5 : ¬ (p6 = (0 : Int32))) (P6 : Fld Z h0 a1 "java/lang/String" "coder" "B" (.int (0 : Int32))) :
    MM l mn26 jdk_42_method_59_code 3 (some .int) (R4 2 0 0 29) #[(.ref a1), (.int (0 : Int32)), (.int (2 : Int32))] Z h0 (fun v h L => v = some (.int (2 : Int32)) ∧ Fr n0 L ∧ h = h0) := by
  refine own_hN n0 rfl pn_3 ?_
  intro p e s m below meth c s₁ hx b hml hret hZ hown hnm X0 e0 N0
  refine own_ct (mkF m 0 #[.val (.ref a1), .val (.int (0 : Int32)), .val (.int (2 : Int32))] []) rfl ?_
  refine g_iloadN X0 hx (b d18_0) rfl ?_
  refine g_iloadN X0 hx (b d18_1) rfl ?_
  refine g_aloadN X0 hx (b d18_2) rfl rfl ?_
  refine own_cV X0 hx hZ hown (w87 hw) (w73 hw) (notFace_of_selects (args := #[]) (mvT hZ (w75 hw))) (w75 hw) (w74 hw) (w13 hw) (w76 hw) (rm16_4 hw a1 a2 kz3 p4 p5 p6 O0 P2 P3 P1 P4 P5 P6) e0 2 (by decide) (by decide) (by rw [hml]; rfl) P1 [] [(.int (2 : Int32)), (.int (0 : Int32))] (lenOf pd_16 rfl) rfl rfl (Nat.le_of_eq rfl) (b d18_3) ?_
  rintro T1 _ L1 X1 ⟨rfl, M1, eh1⟩
  have N1 := Fr.app N0 M1
  refine own_cS X1 hx hZ hown (w88 hw) (w89 hw) (w90 hw) (w91 hw) (rm19_2 hw O0) eh1 0 (by decide) (by decide) (by rw [hml]; rfl) [(.int (0 : Int32)), (.int (2 : Int32)), (.int (2 : Int32))] [] (lenOf pd_18 rfl) rfl rfl (Nat.le_of_eq rfl) (b d18_6) ?_
  rintro T2 _ L2 X2 ⟨rfl, M2, eh2⟩
  have N2 := Fr.app N1 M2
  refine Go.st (fun t k => XS.pop X2.here hx rfl (b d18_9) rfl rfl k) ?_
  refine g_aloadN X2 hx (b d18_10) rfl rfl ?_
  refine own_cV X2 hx hZ hown (w96 hw) (w97 hw) (notFace_of_selects (args := #[]) (mvT hZ (w99 hw))) (w99 hw) (w98 hw) (w13 hw) (w100 hw) (rm21_2 hw a1 p6 O0 P4 P5 P6) eh2 0 (by decide) (by decide) (by rw [hml]; rfl) P1 [] [] (lenOf pd_12 rfl) rfl rfl (Nat.le_of_eq rfl) (b d18_11) ?_
  rintro T3 _ L3 X3 ⟨rfl, M3, eh3⟩
  have N3 := Fr.app N2 M3
  refine g_ifNo X3 hx (b d18_14) (XT.i0_eq_f (by decide : ¬ ((1 : Int32) = (0 : Int32)))) ?_
  refine g_iloadN X3 hx (b d18_17) rfl ?_
  refine g_iloadN X3 hx (b d18_18) rfl ?_
  refine g_isubZ X3 hx (2 : Int32) (b d18_19) rfl ?_
  exact own_eI X3 hx hret (b d18_20) eh3 (by decide) ⟨rfl, N3, rfl⟩
theorem rm6_8 (hw : HW Z a0) (a1 : Addr) (p2 : Int32) (a3 : Addr) (kz4 : ClassId) (p5 p6 p7 : Int32) (O0 : Old Z n0 h0) (P1 : Exa Z h0 a1 "java/lang/String") (P2 : Fld Z h0 a1 "java/lang/String" "value" "[B" (.ref a3)) (P3 : Arv Z h0 a3 kz4 .byte (2 : Int32) [(.int (((own_c p5).toInt8.toInt32).toInt8.toInt32)), (.int (((own_c p6).toInt8.toInt32).toInt8.toInt32))] (.int (0 : Int32))) (P4 : Sta Z Z.heap "java/lang/String" "COMPACT_STRINGS" "Z" (.int p7)) (P5 : ¬ (p7 = (0 : Int32))) (P6 : Fld Z h0 a1 "java/lang/String" "coder" "B" (.int (0 : Int32))) (P7 : p2 < (2 : Int32)) :
    MM l mn18 prog_38_method_2_code 2 (some .boolean) (R4 3 0 0 43) #[(.ref a1), (.int p2)] Z h0 (fun v h L => v = some (.int (0 : Int32)) ∧ Fr n0 L ∧ h = h0) := by
  refine own_hN n0 rfl pn_4 ?_
  intro p e s m below meth c s₁ hx b hml hret hZ hown hnm X0 e0 N0
  refine own_ct (mkF m 0 #[.val (.ref a1), .val (.int p2)] []) rfl ?_
  refine g_aloadN X0 hx (b d6_0) rfl rfl ?_
  refine Go.st (fun t k => XS.ifnullNo X0.here hx rfl (b d6_1) rfl k) ?_
  refine g_aloadN X0 hx (b d6_4) rfl rfl ?_
  refine own_cV X0 hx hZ hown (w37 hw) (w38 hw) (notFace_of_selects (args := #[]) (mvT hZ (w40 hw))) (w40 hw) (w39 hw) (w13 hw) (w41 hw) (rm7_5 hw a1 a3 kz4 p5 p6 O0 P2 P3) e0 0 (by decide) (by decide) (by rw [hml]; rfl) P1 [] [] (lenOf pd_12 rfl) rfl rfl (Nat.le_of_eq rfl) (b d6_5) ?_
  rintro T1 _ L1 X1 ⟨rfl, M1, eh1⟩
  have N1 := Fr.app N0 M1
  refine g_ifNo X1 hx (b d6_8) (XT.i0_ne_f (by decide : (0 : Int32) = (0 : Int32))) ?_
  refine g_aloadN X1 hx (b d6_11) rfl rfl ?_
  refine g_iconst X1 hx (0) (b d6_12) rfl ?_
  refine g_aloadN X1 hx (b d6_13) rfl rfl ?_
  refine own_cV X1 hx hZ hown (w72 hw) (w73 hw) (notFace_of_selects (args := #[]) (mvT hZ (w75 hw))) (w75 hw) (w74 hw) (w13 hw) (w76 hw) (rm16_4 hw a1 a3 kz4 p5 p6 p7 O0 P2 P3 P1 P4 P5 P6) eh1 2 (by decide) (by decide) (by rw [hml]; rfl) P1 [] [(.int (0 : Int32)), (.ref a1)] (lenOf pd_16 rfl) rfl rfl (Nat.le_of_eq rfl) (b d6_14) ?_
  rintro T2 _ L2 X2 ⟨rfl, M2, eh2⟩
  have N2 := Fr.app N1 M2
  refine own_cV X2 hx hZ hown (w82 hw) (w83 hw) (notFace_of_selects (args := #[]) (mvT hZ (w85 hw))) (w85 hw) (w84 hw) (w13 hw) (w86 hw) (rm18_4 hw a1 a3 kz4 p5 p6 p7 O0 P1 P2 P3 P4 P5 P6) eh2 0 (by decide) (by decide) (by rw [hml]; rfl) P1 [(.int (0 : Int32)), (.int (2 : Int32))] [] (lenOf pd_21 rfl) rfl rfl (Nat.le_of_eq rfl) (b d6_17) ?_
  rintro T3 _ L3 X3 ⟨rfl, M3, eh3⟩
  have N3 := Fr.app N2 M3
  refine g_iloadN X3 hx (b d6_20) rfl ?_
  refine g_icmpYes X3 hx (pc := 21) 28 (b d6_21) (XT.ii_gt_t P7) (by decide) ?_
  refine g_iconst X3 hx (0) (b d6_28) rfl ?_
  exact own_eB X3 hx hret (by simp) rfl (b d6_29) eh3 (by decide) ⟨rfl, N3, rfl⟩
theorem rm6_9 (hw : HW Z a0) (a1 : Addr) (p2 : Int32) (a3 : Addr) (kz4 : ClassId) (p5 p6 p7 : Int32) (O0 : Old Z n0 h0) (P1 : Exa Z h0 a1 "java/lang/String") (P2 : Fld Z h0 a1 "java/lang/String" "value" "[B" (.ref a3)) (P3 : Arv Z h0 a3 kz4 .byte (2 : Int32) [(.int (((own_c p5).toInt8.toInt32).toInt8.toInt32)), (.int (((own_c p6).toInt8.toInt32).toInt8.toInt32))] (.int (0 : Int32))) (P4 : Sta Z Z.heap "java/lang/String" "COMPACT_STRINGS" "Z" (.int p7)) (P5 : ¬ (p7 = (0 : Int32))) (P6 : Fld Z h0 a1 "java/lang/String" "coder" "B" (.int (0 : Int32))) (P7 : ¬ (p2 < (2 : Int32))) :
    MM l mn18 prog_38_method_2_code 2 (some .boolean) (R4 3 0 0 43) #[(.ref a1), (.int p2)] Z h0 (fun v h L => v = some (.int (1 : Int32)) ∧ Fr n0 L ∧ h = h0) := by
  refine own_hN n0 rfl pn_4 ?_
  intro p e s m below meth c s₁ hx b hml hret hZ hown hnm X0 e0 N0
  refine own_ct (mkF m 0 #[.val (.ref a1), .val (.int p2)] []) rfl ?_
  refine g_aloadN X0 hx (b d6_0) rfl rfl ?_
  refine Go.st (fun t k => XS.ifnullNo X0.here hx rfl (b d6_1) rfl k) ?_
  refine g_aloadN X0 hx (b d6_4) rfl rfl ?_
  refine own_cV X0 hx hZ hown (w37 hw) (w38 hw) (notFace_of_selects (args := #[]) (mvT hZ (w40 hw))) (w40 hw) (w39 hw) (w13 hw) (w41 hw) (rm7_5 hw a1 a3 kz4 p5 p6 O0 P2 P3) e0 0 (by decide) (by decide) (by rw [hml]; rfl) P1 [] [] (lenOf pd_12 rfl) rfl rfl (Nat.le_of_eq rfl) (b d6_5) ?_
  rintro T1 _ L1 X1 ⟨rfl, M1, eh1⟩
  have N1 := Fr.app N0 M1
  refine g_ifNo X1 hx (b d6_8) (XT.i0_ne_f (by decide : (0 : Int32) = (0 : Int32))) ?_
  refine g_aloadN X1 hx (b d6_11) rfl rfl ?_
  refine g_iconst X1 hx (0) (b d6_12) rfl ?_
  refine g_aloadN X1 hx (b d6_13) rfl rfl ?_
  refine own_cV X1 hx hZ hown (w72 hw) (w73 hw) (notFace_of_selects (args := #[]) (mvT hZ (w75 hw))) (w75 hw) (w74 hw) (w13 hw) (w76 hw) (rm16_4 hw a1 a3 kz4 p5 p6 p7 O0 P2 P3 P1 P4 P5 P6) eh1 2 (by decide) (by decide) (by rw [hml]; rfl) P1 [] [(.int (0 : Int32)), (.ref a1)] (lenOf pd_16 rfl) rfl rfl (Nat.le_of_eq rfl) (b d6_14) ?_
  rintro T2 _ L2 X2 ⟨rfl, M2, eh2⟩
  have N2 := Fr.app N1 M2
  refine own_cV X2 hx hZ hown (w82 hw) (w83 hw) (notFace_of_selects (args := #[]) (mvT hZ (w85 hw))) (w85 hw) (w84 hw) (w13 hw) (w86 hw) (rm18_4 hw a1 a3 kz4 p5 p6 p7 O0 P1 P2 P3 P4 P5 P6) eh2 0 (by decide) (by decide) (by rw [hml]; rfl) P1 [(.int (0 : Int32)), (.int (2 : Int32))] [] (lenOf pd_21 rfl) rfl rfl (Nat.le_of_eq rfl) (b d6_17) ?_
  rintro T3 _ L3 X3 ⟨rfl, M3, eh3⟩
  have N3 := Fr.app N2 M3
  refine g_iloadN X3 hx (b d6_20) rfl ?_
  refine g_icmpNo X3 hx (b d6_21) (XT.ii_gt_f P7) ?_
  refine g_iconst X3 hx (1) (b d6_24) rfl ?_
  refine g_goto X3 hx (pc := 25) 29 (b d6_25) (by decide) ?_
  exact own_eB X3 hx hret (by simp) rfl (b d6_29) eh3 (by decide) ⟨rfl, N3, rfl⟩
theorem rm15_5 (hw : HW Z a0) (a1 : Addr) (kz2 : ClassId) (p3 p4 p5 : Int32) (O0 : Old Z n0 h0) (P1 : Arv Z h0 a1 kz2 .byte (6 : Int32) [(.int (own_b0 (own_c p3))), (.int (own_b8 (own_c p3))), (.int (own_b0 (own_c p4))), (.int (own_b8 (own_c p4))), (.int (own_b0 (own_c p5))), (.int (own_b8 (own_c p5)))] (.int (0 : Int32))) :
    MM l mn19 jdk_52_method_15_code 2 (some .byte) (R4 0 0 0 0) #[(.ref a1), (.int (3 : Int32))] Z h0 (fun v h L => v = some (.int (1 : Int32)) ∧ Fr n0 L ∧ h = h0) := by
  refine own_hN n0 rfl pn_2 ?_
  intro p e s m below meth c s₁ hx b hml hret hZ hown hnm X0 e0 N0
  refine own_ct (mkF m 0 #[.val (.ref a1), .val (.int (3 : Int32))] []) rfl ?_
  refine g_iloadN X0 hx (b d15_0) rfl ?_
  refine g_aloadN X0 hx (b d15_1) rfl rfl ?_
  obtain ⟨cl1, Ar1, -, S1, M1, -, -⟩ := id P1
  refine Go.st (fun t k => X0.arraylength hx (by rw [e0]; exact Ar1.1) (State.isArrayOf_alike hZ.alike Ar1.2.1) (g := (mkF m 2 #[.val (.ref a1), .val (.int (3 : Int32))] [(.ref a1), (.int (3 : Int32))])) rfl rfl (b d15_2) t k) ?_
  rw [len_of S1 M1]
  refine g_isubZ X0 hx (-3 : Int32) (b d15_3) rfl ?_
  refine g_bipush X0 hx (31) (b d15_4) rfl ?_
  refine Go.st (fun t k => XS.iushr X0.here hx rfl (b d15_6) rfl k) ?_
  show Go p e below _ (s₁.setTop (mkF m 7 #[.val (.ref a1), .val (.int (3 : Int32))] [(.int (1 : Int32))]))
  refine g_i2bZ X0 hx (1 : Int32) (b d15_7) rfl ?_
  exact own_eB X0 hx hret (by simp) rfl (b d15_8) e0 (by decide) ⟨rfl, N0, rfl⟩
theorem rm4_6 (hw : HW Z a0) (a1 a2 : Addr) (p3 : Int32) (kz4 : ClassId) (p5 p6 p7 : Int32) (O0 : Old Z n0 h0) (P1 : Sta Z Z.heap "java/lang/String" "COMPACT_STRINGS" "Z" (.int p3)) (P2 : ¬ (p3 = (0 : Int32))) (P3 : Arv Z h0 a2 kz4 .char (3 : Int32) [(.int (own_c p5)), (.int (own_c p6)), (.int (own_c p7))] (.int (0 : Int32))) (P4 : ¬ ((own_c p5) < (0 : Int32))) (P5 : ¬ ((65535 : Int32) < (own_c p5))) (P6 : ¬ ((own_c p6) < (0 : Int32))) (P7 : ¬ ((65535 : Int32) < (own_c p6))) (P8 : ¬ ((own_c p7) < (0 : Int32))) (P9 : ¬ ((65535 : Int32) < (own_c p7))) (P10 : (255 : Int32) < (own_mx (own_mx (own_c p5) (own_c p6)) (own_c p7))) (P11 : Sta Z Z.heap "java/lang/StringUTF16" "$assertionsDisabled" "Z" (.int (1 : Int32))) (P12 : Sta Z Z.heap "java/lang/StringUTF16" "HI_BYTE_SHIFT" "I" (.int (0 : Int32))) (P13 : Sta Z Z.heap "java/lang/StringUTF16" "LO_BYTE_SHIFT" "I" (.int (8 : Int32))) (P14 : Exa Z h0 a1 "java/lang/String") (P15 : Fld Z h0 a1 "java/lang/String" "coder" "B" (.int (0 : Int32))) (P16 : n0 ≤ a1) (P17 : Fld Z h0 a1 "java/lang/String" "value" "[B" .null) :
    MM l mn14 jdk_42_method_149_code 6 none (R4 4 2 9 57) #[(.ref a1), (.ref a2), (.int (0 : Int32)), (.int (3 : Int32)), .null] Z h0 (fun v h L => ∃ (bo_3 : Addr) (ko_3 : ClassId), v = none ∧ Fr n0 L ∧ Keep h0 h [a1] ∧ h0.size ≤ bo_3 ∧ Fld Z h a1 "java/lang/String" "coder" "B" (.int (1 : Int32)) ∧ Fld Z h a1 "java/lang/String" "value" "[B" (.ref bo_3) ∧ Arv Z h bo_3 ko_3 .byte (6 : Int32) [(.int (own_b0 (own_c p5))), (.int (own_b8 (own_c p5))), (.int (own_b0 (own_c p6))), (.int (own_b8 (own_c p6))), (.int (own_b0 (own_c p7))), (.int (own_b8 (own_c p7)))] (.int (0 : Int32))) := by
  refine own_hN n0 rfl pn_3 ?_
  intro p e s m below meth c s₁ hx b hml hret hZ hown hnm X0 e0 N0
  refine own_ct (mkF m 0 #[.val (.ref a1), .val (.ref a2), .val (.int (0 : Int32)), .val (.int (3 : Int32)), .val .null, .unset] []) rfl ?_
  refine g_aloadN X0 hx (b d4_0) rfl rfl ?_
  obtain ⟨T1, X1, e1, st1⟩ := initO X0 hx hZ hown (w22 hw) (w23 hw) (w24 hw) e0 (g := (mkF m 1 #[.val (.ref a1), .val (.ref a2), .val (.int (0 : Int32)), .val (.int (3 : Int32)), .val .null, .unset] [(.ref a1)])) rfl (by rw [hml]; rfl) rfl (b d4_1) (by decide) (W := 0) (by show 2 * 0 + _ ≤ _; exact Nat.le_of_eq rfl) (by decide)
  refine Go.st st1 ?_
  show Go p e below _ (T1.setTop (mkF m 4 #[.val (.ref a1), .val (.ref a2), .val (.int (0 : Int32)), .val (.int (3 : Int32)), .val .null, .unset] []))
  refine g_iloadN X1 hx (b d4_4) rfl ?_
  refine g_ifYes X1 hx (pc := 5) 27 (b d4_5) (XT.i0_ne_t (by decide : ¬ ((3 : Int32) = (0 : Int32)))) (by decide) ?_
  obtain ⟨T2, X2, e2, st2⟩ := getS2 X1 hx hZ hown (host := "") (Or.inl (w42 hw)) Via.refl e1 (P1.ext O0.2) (g := (mkF m 27 #[.val (.ref a1), .val (.ref a2), .val (.int (0 : Int32)), .val (.int (3 : Int32)), .val .null, .unset] [])) rfl (b d4_27)
  refine Go.st st2 ?_
  refine g_ifNo X2 hx (b d4_30) (XT.i0_eq_f P2) ?_
  refine g_aloadN X2 hx (b d4_33) rfl rfl ?_
  refine g_iloadN X2 hx (b d4_34) rfl ?_
  refine g_iloadN X2 hx (b d4_35) rfl ?_
  refine own_cS X2 hx hZ hown (w43 hw) (w44 hw) (w45 hw) (w46 hw) (rmU3 hw a2 kz4 (own_c p5) (own_c p6) (own_c p7) O0 P3 P4 P5 P6 P7 P8 P9 P10 P11 P12 P13) e2 0 (by decide) (by decide) (by rw [hml]; rfl) [(.ref a2), (.int (0 : Int32)), (.int (3 : Int32))] [] (lenOf pd_6 rfl) rfl rfl (Nat.le_of_eq rfl) (b d4_36) ?_
  rintro T3 _ L3 X3 ⟨bo_3, ko_3, rfl, M3, K3c, r3_0, r3_1⟩
  have N3 := Fr.app N0 M3
  have g_bo_3 : n0 ≤ bo_3 := Nat.le_trans (own_n0 O0) r3_0
  have s_bo_3 : h0.size ≤ bo_3 := Nat.le_trans (Keep.refl h0 [a1]).1 r3_0
  have O3 : Old Z n0 T3.heap := O0.keep K3c all0
  have K3 : Keep h0 T3.heap [a1] := (Keep.refl h0 [a1]).trans K3c all0
  refine g_astore X3 hx (b d4_39) rfl (l' := #[.val (.ref a1), .val (.ref a2), .val (.int (0 : Int32)), .val (.int (3 : Int32)), .val .null, .val (.ref bo_3)]) rfl ?_
  refine g_aloadN X3 hx (b d4_41) rfl rfl ?_
  refine g_aload X3 hx (b d4_42) rfl rfl ?_
  refine g_iloadN X3 hx (b d4_44) rfl ?_
  refine own_cS X3 hx hZ hown (w69 hw) (w70 hw) (w45 hw) (w71 hw) (rm15_5 hw bo_3 ko_3 p5 p6 p7 O3 r3_1) rfl 1 (by decide) (by decide) (by rw [hml]; rfl) [(.ref bo_3), (.int (3 : Int32))] [(.ref a1)] (lenOf pd_14 rfl) rfl rfl (Nat.le_of_eq rfl) (b d4_45) ?_
  rintro T4 _ L4 X4 ⟨rfl, M4, eh4⟩
  have N4 := Fr.app N3 M4
  obtain ⟨T5, h5, X5, e5, W5, st5⟩ := putFN X4 hx hZ hown (w32 hw) Via.refl eh4 (P15.keep K3c nin0) (P14.keep K3c) (Or.inr ⟨(w28 hw), rfl, hnm⟩) (w12 hw) (ty := .byte) (v' := (.int (1 : Int32))) (by decide) rfl (by decide) (g := (mkF m 48 #[.val (.ref a1), .val (.ref a2), .val (.int (0 : Int32)), .val (.int (3 : Int32)), .val .null, .val (.ref bo_3)] [(.int (1 : Int32)), (.ref a1)])) rfl rfl (b d4_48)
  have F5 : Fld Z h5 a1 "java/lang/String" "coder" "B" (.int (1 : Int32)) := (P15.keep K3c nin0).same W5
  have N5 := Fr.snoc X5 N4 P16
  have O5 : Old Z n0 h5 := O3.wr W5 P16
  have K5 : Keep h0 h5 [a1] := K3.wr W5 (Or.inl (List.mem_of_getElem? (i := 0) rfl))
  refine Go.st st5 ?_
  refine g_aloadN X5 hx (b d4_51) rfl rfl ?_
  refine g_aload X5 hx (b d4_52) rfl rfl ?_
  have c6 := ((P17.keep K3c nin0).other W5 (Or.inr (slot_ne (Or.inr (w27 hw)) (Or.inr (w28 hw)) (by decide) (t := (.array .byte)) (t' := .byte) (by decide) (by decide))))
  obtain ⟨T7, h7, X7, e7, W7, st7⟩ := putF X5 hx hZ hown (host := "") (Or.inl (w31 hw)) Via.refl e5 c6 ((P14.keep K3c).wr W5) (Or.inr ⟨(w27 hw), rfl, hnm⟩) (w12 hw) (ty := (.array .byte)) (by decide) rfl rfl (g := (mkF m 54 #[.val (.ref a1), .val (.ref a2), .val (.int (0 : Int32)), .val (.int (3 : Int32)), .val .null, .val (.ref bo_3)] [(.ref bo_3), (.ref a1)])) rfl rfl (b d4_54)
  have F7 : Fld Z h7 a1 "java/lang/String" "value" "[B" (.ref bo_3) := c6.same W7
  have N7 := Fr.snoc X7 N5 P16
  have O7 : Old Z n0 h7 := O5.wr W7 P16
  have K7 : Keep h0 h7 [a1] := K5.wr W7 (Or.inl (List.mem_of_getElem? (i := 0) rfl))
  refine Go.st st7 ?_
  have c8 := (F5.other W7 (Or.inr (slot_ne (Or.inr (w28 hw)) (Or.inr (w27 hw)) (by decide) (t := .byte) (t' := (.array .byte)) (by decide) (by decide))))
  have c9 := ((r3_1.other W5 (Ne.symm (Nat.ne_of_lt (Nat.lt_of_lt_of_le P14.lt r3_0)))).other W7 (Ne.symm (Nat.ne_of_lt (Nat.lt_of_lt_of_le P14.lt r3_0))))
  exact own_eV X7 hx hret (b d4_57) e7 (by decide) ⟨bo_3, ko_3, rfl, N7, K7, s_bo_3, c8, F7, c9⟩
theorem rm3_6 (hw : HW Z a0) (a1 a2 : Addr) (kz3 : ClassId) (p4 p5 p6 p7 : Int32) (O0 : Old Z n0 h0) (P1 : Arv Z h0 a2 kz3 .char (3 : Int32) [(.int (own_c p4)), (.int (own_c p5)), (.int (own_c p6))] (.int (0 : Int32))) (P2 : Sta Z Z.heap "java/lang/String" "COMPACT_STRINGS" "Z" (.int p7)) (P3 : ¬ (p7 = (0 : Int32))) (P4 : ¬ ((own_c p4) < (0 : Int32))) (P5 : ¬ ((65535 : Int32) < (own_c p4))) (P6 : ¬ ((own_c p5) < (0 : Int32))) (P7 : ¬ ((65535 : Int32) < (own_c p5))) (P8 : ¬ ((own_c p6) < (0 : Int32))) (P9 : ¬ ((65535 : Int32) < (own_c p6))) (P10 : (255 : Int32) < (own_mx (own_mx (own_c p4) (own_c p5)) (own_c p6))) (P11 : Sta Z Z.heap "java/lang/StringUTF16" "$assertionsDisabled" "Z" (.int (1 : Int32))) (P12 : Sta Z Z.heap "java/lang/StringUTF16" "HI_BYTE_SHIFT" "I" (.int (0 : Int32))) (P13 : Sta Z Z.heap "java/lang/StringUTF16" "LO_BYTE_SHIFT" "I" (.int (8 : Int32))) (P14 : Exa Z h0 a1 "java/lang/String") (P15 : Fld Z h0 a1 "java/lang/String" "coder" "B" (.int (0 : Int32))) (P16 : n0 ≤ a1) (P17 : Fld Z h0 a1 "java/lang/String" "value" "[B" .null) :
    MM l mn15 jdk_42_method_3_code 2 none (R4 5 2 9 74) #[(.ref a1), (.ref a2)] Z h0 (fun v h L => ∃ (bo_3_2 : Addr) (ko_3_2 : ClassId), v = none ∧ Fr n0 L ∧ Keep h0 h [a1] ∧ h0.size ≤ bo_3_2 ∧ Fld Z h a1 "java/lang/String" "coder" "B" (.int (1 : Int32)) ∧ Fld Z h a1 "java/lang/String" "value" "[B" (.ref bo_3_2) ∧ Arv Z h bo_3_2 ko_3_2 .byte (6 : Int32) [(.int (own_b0 (own_c p4))), (.int (own_b8 (own_c p4))), (.int (own_b0 (own_c p5))), (.int (own_b8 (own_c p5))), (.int (own_b0 (own_c p6))), (.int (own_b8 (own_c p6)))] (.int (0 : Int32))) := by
  refine own_hN n0 rfl pn_3 ?_
  intro p e s m below meth c s₁ hx b hml hret hZ hown hnm X0 e0 N0
  refine own_ct (mkF m 0 #[.val (.ref a1), .val (.ref a2)] []) rfl ?_
  refine g_aloadN X0 hx (b d3_0) rfl rfl ?_
  refine g_aloadN X0 hx (b d3_1) rfl rfl ?_
  refine g_iconst X0 hx (0) (b d3_2) rfl ?_
  refine g_aloadN X0 hx (b d3_3) rfl rfl ?_
  obtain ⟨cl1, Ar1, -, S1, M1, -, -⟩ := id P1
  refine Go.st (fun t k => X0.arraylength hx (by rw [e0]; exact Ar1.1) (State.isArrayOf_alike hZ.alike Ar1.2.1) (g := (mkF m 4 #[.val (.ref a1), .val (.ref a2)] [(.ref a2), (.int (0 : Int32)), (.ref a2), (.ref a1)])) rfl rfl (b d3_4) t k) ?_
  rw [len_of S1 M1]
  refine g_aconstNull X0 hx (b d3_5) ?_
  refine own_cI X0 hx hZ hown (w18 hw) rfl (w19 hw) (w13 hw) (w21 hw) (rm4_6 hw a1 a2 p7 kz3 p4 p5 p6 O0 P2 P3 P1 P4 P5 P6 P7 P8 P9 P10 P11 P12 P13 P14 P15 P16 P17) e0 0 (by decide) (by decide) (by rw [hml]; rfl) a1 [(.ref a2), (.int (0 : Int32)), (.int (3 : Int32)), .null] [] (lenOf pd_9 rfl) rfl rfl (Nat.le_of_eq rfl) (b d3_6) ?_
  rintro T2 _ L2 X2 ⟨bo_3_2, ko_3_2, rfl, M2, K2c, r2_0, r2_1, r2_2, r2_3⟩
  have N2 := Fr.app N0 M2
  have g_bo_3_2 : n0 ≤ bo_3_2 := Nat.le_trans (own_n0 O0) r2_0
  have s_bo_3_2 : h0.size ≤ bo_3_2 := Nat.le_trans (Keep.refl h0 [a1]).1 r2_0
  have O2 : Old Z n0 T2.heap := O0.keep K2c (allS P16 all0)
  have K2 : Keep h0 T2.heap [a1] := (Keep.refl h0 [a1]).trans K2c (allS (Or.inl (List.mem_of_getElem? (i := 0) rfl)) all0)
  exact own_eV X2 hx hret (b d3_9) rfl (by decide) ⟨bo_3_2, ko_3_2, rfl, N2, K2, s_bo_3_2, r2_1, r2_2, r2_3⟩
theorem rm2_6 (hw : HW Z a0) (p1 p2 p3 p4 p5 : Int32) (O0 : Old Z n0 h0) (P1 : Sta Z Z.heap "java/lang/String" "COMPACT_STRINGS" "Z" (.int p5)) (P2 : ¬ (p5 = (0 : Int32))) (P3 : ¬ ((own_c p1) < (0 : Int32))) (P4 : ¬ ((65535 : Int32) < (own_c p1))) (P5 : ¬ ((own_c p2) < (0 : Int32))) (P6 : ¬ ((65535 : Int32) < (own_c p2))) (P7 : ¬ ((own_c p3) < (0 : Int32))) (P8 : ¬ ((65535 : Int32) < (own_c p3))) (P9 : (255 : Int32) < (own_mx (own_mx (own_c p1) (own_c p2)) (own_c p3))) (P10 : Sta Z Z.heap "java/lang/StringUTF16" "$assertionsDisabled" "Z" (.int (1 : Int32))) (P11 : Sta Z Z.heap "java/lang/StringUTF16" "HI_BYTE_SHIFT" "I" (.int (0 : Int32))) (P12 : Sta Z Z.heap "java/lang/StringUTF16" "LO_BYTE_SHIFT" "I" (.int (8 : Int32))) :
    MM l mn16 method_6_code 6 (some (.object "java/lang/String")) (R4 6 4 16 88) #[(.int (3 : Int32)), (.int p1), (.int p2), (.int p3), (.int p4)] Z h0 (fun v h L => ∃ (b5 bo_3_2_6 : Addr) (ko_3_2_6 : ClassId), v = some (.ref b5) ∧ Fr n0 L ∧ Keep h0 h [] ∧ h0.size ≤ b5 ∧ h0.size ≤ bo_3_2_6 ∧ b5 ≠ bo_3_2_6 ∧ Exa Z h b5 "java/lang/String" ∧ Fld Z h b5 "java/lang/String" "value" "[B" (.ref bo_3_2_6) ∧ Fld Z h b5 "java/lang/String" "coder" "B" (.int (1 : Int32)) ∧ Arv Z h bo_3_2_6 ko_3_2_6 .byte (6 : Int32) [(.int (own_b0 (own_c p1))), (.int (own_b8 (own_c p1))), (.int (own_b0 (own_c p2))), (.int (own_b8 (own_c p2))), (.int (own_b0 (own_c p3))), (.int (own_b8 (own_c p3)))] (.int (0 : Int32))) := by
  refine own_hN n0 rfl pn_0 ?_
  intro p e s m below meth c s₁ hx b hml hret hZ hown hnm X0 e0 N0
  refine own_ct (mkF m 0 #[.val (.int (3 : Int32)), .val (.int p1), .val (.int p2), .val (.int p3), .val (.int p4), .unset] []) rfl ?_
  refine g_iloadN X0 hx (b d2_0) rfl ?_
  refine g_ifYes X0 hx (pc := 1) 15 (b d2_1) (XT.i0_ne_t (by decide : ¬ ((3 : Int32) = (0 : Int32)))) (by decide) ?_
  refine g_iloadN X0 hx (b d2_15) rfl ?_
  refine g_iconst X0 hx (1) (b d2_16) rfl ?_
  refine g_icmpYes X0 hx (pc := 17) 40 (b d2_17) (XT.ii_ne_t (by decide : ¬ ((3 : Int32) = (1 : Int32)))) (by decide) ?_
  refine g_iloadN X0 hx (b d2_40) rfl ?_
  refine g_iconst X0 hx (2) (b d2_41) rfl ?_
  refine g_icmpYes X0 hx (pc := 42) 70 (b d2_42) (XT.ii_ne_t (by decide : ¬ ((3 : Int32) = (2 : Int32)))) (by decide) ?_
  refine g_iloadN X0 hx (b d2_70) rfl ?_
  refine g_iconst X0 hx (3) (b d2_71) rfl ?_
  refine g_icmpNo X0 hx (b d2_72) (XT.ii_ne_f (by decide : (3 : Int32) = (3 : Int32))) ?_
  refine g_iconst X0 hx (3) (b d2_75) rfl ?_
  obtain ⟨T1, h1, k1, X1, e1, E1, A1, st1⟩ := newP X0 hx hZ (aty := .char) (w14 hw) e0 (g := (mkF m 76 #[.val (.int (3 : Int32)), .val (.int p1), .val (.int p2), .val (.int p3), .val (.int p4), .unset] [(.int (3 : Int32))])) rfl (b d2_76) rfl (by decide) (cap := 3) (by decide) (by decide) (by decide) (by decide)
  obtain ⟨b1, z1⟩ : ∃ z, z = h0.size := ⟨_, rfl⟩
  rw [← z1] at A1 st1
  have g_b1 : n0 ≤ b1 := Nat.le_trans (own_n0 O0) (Nat.le_of_eq z1.symm)
  have s_b1 : h0.size ≤ b1 := Nat.le_trans (Keep.refl h0 []).1 (Nat.le_of_eq z1.symm)
  have V1 : Arv Z h1 b1 k1 .char (3 : Int32) [(.int (0 : Int32)), (.int (0 : Int32)), (.int (0 : Int32))] (.int (0 : Int32)) := (Arv.new A1 (by decide)).pad (pad_rep [] (.int (0 : Int32)) 3)
  have O1 : Old Z n0 h1 := O0.ext E1
  have K1 : Keep h0 h1 [] := (Keep.refl h0 []).ext E1
  refine Go.st st1 ?_
  refine g_astore X1 hx (b d2_78) rfl (l' := #[.val (.int (3 : Int32)), .val (.int p1), .val (.int p2), .val (.int p3), .val (.int p4), .val (.ref b1)]) rfl ?_
  refine g_aload X1 hx (b d2_80) rfl rfl ?_
  refine g_iconst X1 hx (0) (b d2_82) rfl ?_
  refine g_iloadN X1 hx (b d2_83) rfl ?_
  obtain ⟨cl2, Ar2, q2, S2, M2, H2, G2⟩ := id V1
  have hin2 : ¬ ((0 : Int32) < 0 ∨ cl2.slots.size ≤ ((0 : Int32)).toNatClampNeg) := inb_of S2 ⟨by decide, by decide⟩
  obtain ⟨T2, h2, X2, e2, W2, st2⟩ := stC X1 hx hZ e1 Ar2 (j := (0 : Int32)) hin2 (g := (mkF m 84 #[.val (.int (3 : Int32)), .val (.int p1), .val (.int p2), .val (.int p3), .val (.int p4), .val (.ref b1)] [(.int p1), (.int (0 : Int32)), (.ref b1)])) rfl rfl (b d2_84)
  have V2 : Arv Z h2 b1 k1 .char (3 : Int32) [(.int (own_c p1)), (.int (0 : Int32)), (.int (0 : Int32))] (.int (0 : Int32)) := Arv.set Ar2 q2 S2 M2 H2 G2 (fits_nar_char _) W2 0 rfl (Nat.le_of_ble_eq_true rfl)
  have N2 := Fr.snoc X2 N0 g_b1
  have O2 : Old Z n0 h2 := O1.wr W2 g_b1
  have K2 : Keep h0 h2 [] := K1.wr W2 (Or.inr s_b1)
  refine Go.st st2 ?_
  refine g_aload X2 hx (b d2_85) rfl rfl ?_
  refine g_iconst X2 hx (1) (b d2_87) rfl ?_
  refine g_iloadN X2 hx (b d2_88) rfl ?_
  obtain ⟨cl3, Ar3, q3, S3, M3, H3, G3⟩ := id V2
  have hin3 : ¬ ((1 : Int32) < 0 ∨ cl3.slots.size ≤ ((1 : Int32)).toNatClampNeg) := inb_of S3 ⟨by decide, by decide⟩
  obtain ⟨T3, h3, X3, e3, W3, st3⟩ := stC X2 hx hZ e2 Ar3 (j := (1 : Int32)) hin3 (g := (mkF m 89 #[.val (.int (3 : Int32)), .val (.int p1), .val (.int p2), .val (.int p3), .val (.int p4), .val (.ref b1)] [(.int p2), (.int (1 : Int32)), (.ref b1)])) rfl rfl (b d2_89)
  have V3 : Arv Z h3 b1 k1 .char (3 : Int32) [(.int (own_c p1)), (.int (own_c p2)), (.int (0 : Int32))] (.int (0 : Int32)) := Arv.set Ar3 q3 S3 M3 H3 G3 (fits_nar_char _) W3 1 rfl (Nat.le_of_ble_eq_true rfl)
  have N3 := Fr.snoc X3 N2 g_b1
  have O3 : Old Z n0 h3 := O2.wr W3 g_b1
  have K3 : Keep h0 h3 [] := K2.wr W3 (Or.inr s_b1)
  refine Go.st st3 ?_
  refine g_aload X3 hx (b d2_90) rfl rfl ?_
  refine g_iconst X3 hx (2) (b d2_92) rfl ?_
  refine g_iloadN X3 hx (b d2_93) rfl ?_
  obtain ⟨cl4, Ar4, q4, S4, M4, H4, G4⟩ := id V3
  have hin4 : ¬ ((2 : Int32) < 0 ∨ cl4.slots.size ≤ ((2 : Int32)).toNatClampNeg) := inb_of S4 ⟨by decide, by decide⟩
  obtain ⟨T4, h4, X4, e4, W4, st4⟩ := stC X3 hx hZ e3 Ar4 (j := (2 : Int32)) hin4 (g := (mkF m 94 #[.val (.int (3 : Int32)), .val (.int p1), .val (.int p2), .val (.int p3), .val (.int p4), .val (.ref b1)] [(.int p3), (.int (2 : Int32)), (.ref b1)])) rfl rfl (b d2_94)
  have V4 : Arv Z h4 b1 k1 .char (3 : Int32) [(.int (own_c p1)), (.int (own_c p2)), (.int (own_c p3))] (.int (0 : Int32)) := Arv.set Ar4 q4 S4 M4 H4 G4 (fits_nar_char _) W4 2 rfl (Nat.le_of_ble_eq_true rfl)
  have N4 := Fr.snoc X4 N3 g_b1
  have O4 : Old Z n0 h4 := O3.wr W4 g_b1
  have K4 : Keep h0 h4 [] := K3.wr W4 (Or.inr s_b1)
  refine Go.st st4 ?_
  obtain ⟨T5, h5, X5, e5, E5, A5, D5, -, st5⟩ := newO X4 hx hZ hown (w11 hw) (w12 hw) (w13 hw) e4 (g := (mkF m 95 #[.val (.int (3 : Int32)), .val (.int p1), .val (.int p2), .val (.int p3), .val (.int p4), .val (.ref b1)] [])) rfl (b d2_95) (by decide) (by decide)
  obtain ⟨b5, z5⟩ : ∃ z, z = h4.size := ⟨_, rfl⟩
  rw [← z5] at A5 D5 st5
  have g_b5 : n0 ≤ b5 := Nat.le_trans (own_n0 O4) (Nat.le_of_eq z5.symm)
  have s_b5 : h0.size ≤ b5 := Nat.le_trans K4.1 (Nat.le_of_eq z5.symm)
  have O5 : Old Z n0 h5 := O4.ext E5
  have K5 : Keep h0 h5 [] := K4.ext E5
  have f5_27 : Fld Z h5 b5 "java/lang/String" "value" "[B" .null := D5 (Or.inr (w27 hw)) (ty := (.array .byte)) (by decide)
  have f5_28 : Fld Z h5 b5 "java/lang/String" "coder" "B" (.int (0 : Int32)) := D5 (Or.inr (w28 hw)) (ty := .byte) (by decide)
  refine Go.st st5 ?_
  refine Go.st (fun t k => XS.dup X5.here hx rfl (b d2_98) rfl rfl k) ?_
  refine g_aload X5 hx (b d2_99) rfl rfl ?_
  refine own_cI X5 hx hZ hown (w15 hw) rfl (w16 hw) (w13 hw) (w17 hw) (rm3_6 hw b5 b1 k1 p1 p2 p3 p5 O5 (V4.ext E5) P1 P2 P3 P4 P5 P6 P7 P8 P9 P10 P11 P12 A5 f5_28 g_b5 f5_27) e5 1 (by decide) (by decide) (by rw [hml]; rfl) b5 [(.ref b1)] [(.ref b5)] (lenOf pd_10 rfl) rfl rfl (Nat.le_of_eq rfl) (b d2_101) ?_
  rintro T6 _ L6 X6 ⟨bo_3_2_6, ko_3_2_6, rfl, M6, K6c, r6_0, r6_1, r6_2, r6_3⟩
  have N6 := Fr.app N4 M6
  have g_bo_3_2_6 : n0 ≤ bo_3_2_6 := Nat.le_trans (own_n0 O5) r6_0
  have s_bo_3_2_6 : h0.size ≤ bo_3_2_6 := Nat.le_trans K5.1 r6_0
  have O6 : Old Z n0 T6.heap := O5.keep K6c (allS g_b5 all0)
  have K6 : Keep h0 T6.heap [] := K5.trans K6c (allS (Or.inr s_b5) all0)
  exact own_eA X6 hx hret rfl rfl (b d2_104) rfl (by decide) ⟨b5, bo_3_2_6, ko_3_2_6, rfl, N6, K6, s_b5, s_bo_3_2_6, (Nat.ne_of_lt (Nat.lt_of_lt_of_le A5.lt r6_0)), (A5.keep K6c), r6_2, r6_1, r6_3⟩
theorem rm7_6 (hw : HW Z a0) (a1 a2 : Addr) (kz3 : ClassId) (p4 p5 p6 : Int32) (O0 : Old Z n0 h0) (P1 : Fld Z h0 a1 "java/lang/String" "value" "[B" (.ref a2)) (P2 : Arv Z h0 a2 kz3 .byte (6 : Int32) [(.int (own_b0 (own_c p4))), (.int (own_b8 (own_c p4))), (.int (own_b0 (own_c p5))), (.int (own_b8 (own_c p5))), (.int (own_b0 (own_c p6))), (.int (own_b8 (own_c p6)))] (.int (0 : Int32))) :
    MM l mn17 jdk_42_method_55_code 1 (some .boolean) (R4 0 0 0 0) #[(.ref a1)] Z h0 (fun v h L => v = some (.int (0 : Int32)) ∧ Fr n0 L ∧ h = h0) := by
  refine own_hN n0 rfl pn_3 ?_
  intro p e s m below meth c s₁ hx b hml hret hZ hown hnm X0 e0 N0
  refine own_ct (mkF m 0 #[.val (.ref a1)] []) rfl ?_
  refine g_aloadN X0 hx (b d7_0) rfl rfl ?_
  obtain ⟨T1, X1, e1, st1⟩ := getF X0 hx hZ hown (host := "") (Or.inl (w31 hw)) Via.refl e0 P1 (g := (mkF m 1 #[.val (.ref a1)] [(.ref a1)])) rfl rfl (b d7_1)
  refine Go.st st1 ?_
  obtain ⟨cl2, Ar2, -, S2, M2, -, -⟩ := id P2
  refine Go.st (fun t k => X1.arraylength hx (by rw [e1]; exact Ar2.1) (State.isArrayOf_alike hZ.alike Ar2.2.1) (g := (mkF m 4 #[.val (.ref a1)] [(.ref a2)])) rfl rfl (b d7_4) t k) ?_
  rw [len_of S2 M2]
  refine g_ifYes X1 hx (pc := 5) 12 (b d7_5) (XT.i0_ne_t (by decide : ¬ ((6 : Int32) = (0 : Int32)))) (by decide) ?_
  refine g_iconst X1 hx (0) (b d7_12) rfl ?_
  exact own_eB X1 hx hret (by simp) rfl (b d7_13) e1 (by decide) ⟨rfl, N0, rfl⟩
theorem rm16_5 (hw : HW Z a0) (a1 a2 : Addr) (kz3 : ClassId) (p4 p5 p6 p7 : Int32) (O0 : Old Z n0 h0) (P1 : Fld Z h0 a1 "java/lang/String" "value" "[B" (.ref a2)) (P2 : Arv Z h0 a2 kz3 .byte (6 : Int32) [(.int (own_b0 (own_c p4))), (.int (own_b8 (own_c p4))), (.int (own_b0 (own_c p5))), (.int (own_b8 (own_c p5))), (.int (own_b0 (own_c p6))), (.int (own_b8 (own_c p6)))] (.int (0 : Int32))) (P3 : Exa Z h0 a1 "java/lang/String") (P4 : Sta Z Z.heap "java/lang/String" "COMPACT_STRINGS" "Z" (.int p7)) (P5 : ¬ (p7 = (0 : Int32))) (P6 : Fld Z h0 a1 "java/lang/String" "coder" "B" (.int (1 : Int32))) :
    MM l mn21 jdk_42_method_54_code 1 (some .int) (R4 1 0 0 13) #[(.ref a1)] Z h0 (fun v h L => v = some (.int (3 : Int32)) ∧ Fr n0 L ∧ h = h0) := by
  refine own_hN n0 rfl pn_3 ?_
  intro p e s m below meth c s₁ hx b hml hret hZ hown hnm X0 e0 N0
  refine own_ct (mkF m 0 #[.val (.ref a1)] []) rfl ?_
  refine g_aloadN X0 hx (b d16_0) rfl rfl ?_
  obtain ⟨T1, X1, e1, st1⟩ := getF X0 hx hZ hown (host := "") (Or.inl (w31 hw)) Via.refl e0 P1 (g := (mkF m 1 #[.val (.ref a1)] [(.ref a1)])) rfl rfl (b d16_1)
  refine Go.st st1 ?_
  obtain ⟨cl2, Ar2, -, S2, M2, -, -⟩ := id P2
  refine Go.st (fun t k => X1.arraylength hx (by rw [e1]; exact Ar2.1) (State.isArrayOf_alike hZ.alike Ar2.2.1) (g := (mkF m 4 #[.val (.ref a1)] [(.ref a2)])) rfl rfl (b d16_4) t k) ?_
  rw [len_of S2 M2]
  refine g_aloadN X1 hx (b d16_5) rfl rfl ?_
  refine own_cV X1 hx hZ hown (w77 hw) (w78 hw) (notFace_of_selects (args := #[]) (mvT hZ (w80 hw))) (w80 hw) (w79 hw) (w13 hw) (w81 hw) (rm17_1 hw a1 p7 O0 P4 P5 P6) e1 1 (by decide) (by decide) (by rw [hml]; rfl) P3 [] [(.int (6 : Int32))] (lenOf pd_15 rfl) rfl rfl (Nat.le_of_eq rfl) (b d16_6) ?_
  rintro T3 _ L3 X3 ⟨rfl, M3, eh3⟩
  have N3 := Fr.app N0 M3
  refine g_ishrZ X3 hx (3 : Int32) (b d16_9) rfl ?_
  exact own_eI X3 hx hret (b d16_10) eh3 (by decide) ⟨rfl, N3, rfl⟩
theorem rm20_3 (hw : HW Z a0)  (O0 : Old Z n0 h0) :
    MM l mn22 jdk_41_method_12_code 4 (some .int) (R4 0 0 0 0) #[(.int (0 : Int32)), (.int (3 : Int32)), (.int (3 : Int32)), .null] Z h0 (fun v h L => v = some (.int (0 : Int32)) ∧ Fr n0 L ∧ h = h0) := by
  refine own_hN n0 rfl pn_5 ?_
  intro p e s m below meth c s₁ hx b hml hret hZ hown hnm X0 e0 N0
  refine own_ct (mkF m 0 #[.val (.int (0 : Int32)), .val (.int (3 : Int32)), .val (.int (3 : Int32)), .val .null] []) rfl ?_
  refine g_iloadN X0 hx (b d20_0) rfl ?_
  refine g_ifNo X0 hx (b d20_1) (XT.i0_lt_f (by decide : ¬ ((0 : Int32) < (0 : Int32)))) ?_
  refine g_iloadN X0 hx (b d20_4) rfl ?_
  refine g_iloadN X0 hx (b d20_5) rfl ?_
  refine g_icmpNo X0 hx (b d20_6) (XT.ii_gt_f (by decide : ¬ ((3 : Int32) < (0 : Int32)))) ?_
  refine g_iloadN X0 hx (b d20_9) rfl ?_
  refine g_iloadN X0 hx (b d20_10) rfl ?_
  refine g_icmpYes X0 hx (pc := 11) 22 (b d20_11) (XT.ii_le_t (by decide : ¬ ((3 : Int32) < (3 : Int32)))) (by decide) ?_
  refine g_iloadN X0 hx (b d20_22) rfl ?_
  exact own_eI X0 hx hret (b d20_23) e0 (by decide) ⟨rfl, N0, rfl⟩
theorem rm19_3 (hw : HW Z a0)  (O0 : Old Z n0 h0) :
    MM l mn23 jdk_31_method_18_code 3 (some .int) (R4 1 0 0 15) #[(.int (0 : Int32)), (.int (3 : Int32)), (.int (3 : Int32))] Z h0 (fun v h L => v = some (.int (0 : Int32)) ∧ Fr n0 L ∧ h = h0) := by
  refine own_hN n0 rfl pn_6 ?_
  intro p e s m below meth c s₁ hx b hml hret hZ hown hnm X0 e0 N0
  refine own_ct (mkF m 0 #[.val (.int (0 : Int32)), .val (.int (3 : Int32)), .val (.int (3 : Int32))] []) rfl ?_
  refine g_iloadN X0 hx (b d19_0) rfl ?_
  refine g_iloadN X0 hx (b d19_1) rfl ?_
  refine g_iloadN X0 hx (b d19_2) rfl ?_
  refine g_aconstNull X0 hx (b d19_3) ?_
  refine own_cS X0 hx hZ hown (w92 hw) (w93 hw) (w94 hw) (w95 hw) (rm20_3 hw O0) e0 0 (by decide) (by decide) (by rw [hml]; rfl) [(.int (0 : Int32)), (.int (3 : Int32)), (.int (3 : Int32)), .null] [] (lenOf pd_17 rfl) rfl rfl (Nat.le_of_eq rfl) (b d19_4) ?_
  rintro T1 _ L1 X1 ⟨rfl, M1, eh1⟩
  have N1 := Fr.app N0 M1
  exact own_eI X1 hx hret (b d19_7) eh1 (by decide) ⟨rfl, N1, rfl⟩
theorem rm22_3 (hw : HW Z a0) (a1 : Addr) (kz2 : ClassId) (p3 p4 p5 : Int32) (O0 : Old Z n0 h0) (P1 : Arv Z h0 a1 kz2 .byte (6 : Int32) [(.int (own_b0 (own_c p3))), (.int (own_b8 (own_c p3))), (.int (own_b0 (own_c p4))), (.int (own_b8 (own_c p4))), (.int (own_b0 (own_c p5))), (.int (own_b8 (own_c p5)))] (.int (0 : Int32))) (P2 : ¬ ((own_c p3) < (0 : Int32))) (P3 : ¬ ((65535 : Int32) < (own_c p3))) (P4 : ¬ ((own_c p4) < (0 : Int32))) (P5 : ¬ ((65535 : Int32) < (own_c p4))) (P6 : ¬ ((own_c p5) < (0 : Int32))) (P7 : ¬ ((65535 : Int32) < (own_c p5))) (P8 : Sta Z Z.heap "java/lang/StringUTF16" "$assertionsDisabled" "Z" (.int (1 : Int32))) (P9 : Sta Z Z.heap "java/lang/StringUTF16" "HI_BYTE_SHIFT" "I" (.int (0 : Int32))) (P10 : Sta Z Z.heap "java/lang/StringUTF16" "LO_BYTE_SHIFT" "I" (.int (8 : Int32))) :
    MM l mn25 jdk_52_method_12_code 3 (some .int) (R4 2 0 0 30) #[(.ref a1), (.int (0 : Int32)), (.int (3 : Int32))] Z h0 (fun v h L => v = some (.int (((3 : Int32) - (own_pr (own_c p3) (own_c p4))) - (own_pr (own_c p4) (own_c p5)))) ∧ Fr n0 L ∧ h = h0) := by
  refine own_hN n0 rfl pn_2 ?_
  intro p e s m below meth c s₁ hx b hml hret hZ hown hnm X0 e0 N0
  refine own_ct (mkF m 0 #[.val (.ref a1), .val (.int (0 : Int32)), .val (.int (3 : Int32))] []) rfl ?_
  refine g_aloadN X0 hx (b d22_0) rfl rfl ?_
  refine g_iloadN X0 hx (b d22_1) rfl ?_
  refine g_iloadN X0 hx (b d22_2) rfl ?_
  refine g_iconst X0 hx (0) (b d22_3) rfl ?_
  refine own_cS X0 hx hZ hown (w104 hw) (w105 hw) (w45 hw) (w106 hw) (rmC3 hw a1 kz2 (own_c p3) (own_c p4) (own_c p5) O0 P1 P2 P3 P4 P5 P6 P7 P8 P9 P10) e0 0 (by decide) (by decide) (by rw [hml]; rfl) [(.ref a1), (.int (0 : Int32)), (.int (3 : Int32)), (.int (0 : Int32))] [] (lenOf pd_19 rfl) rfl rfl (Nat.le_of_eq rfl) (b d22_4) ?_
  rintro T1 _ L1 X1 ⟨rfl, M1, eh1⟩
  have N1 := Fr.app N0 M1
  exact own_eI X1 hx hret (b d22_7) eh1 (by decide) ⟨rfl, N1, rfl⟩
theorem rm18_5 (hw : HW Z a0) (a1 a2 : Addr) (kz3 : ClassId) (p4 p5 p6 p7 : Int32) (O0 : Old Z n0 h0) (P1 : Exa Z h0 a1 "java/lang/String") (P2 : Fld Z h0 a1 "java/lang/String" "value" "[B" (.ref a2)) (P3 : Arv Z h0 a2 kz3 .byte (6 : Int32) [(.int (own_b0 (own_c p4))), (.int (own_b8 (own_c p4))), (.int (own_b0 (own_c p5))), (.int (own_b8 (own_c p5))), (.int (own_b0 (own_c p6))), (.int (own_b8 (own_c p6)))] (.int (0 : Int32))) (P4 : Sta Z Z.heap "java/lang/String" "COMPACT_STRINGS" "Z" (.int p7)) (P5 : ¬ (p7 = (0 : Int32))) (P6 : Fld Z h0 a1 "java/lang/String" "coder" "B" (.int (1 : Int32))) (P7 : ¬ ((own_c p4) < (0 : Int32))) (P8 : ¬ ((65535 : Int32) < (own_c p4))) (P9 : ¬ ((own_c p5) < (0 : Int32))) (P10 : ¬ ((65535 : Int32) < (own_c p5))) (P11 : ¬ ((own_c p6) < (0 : Int32))) (P12 : ¬ ((65535 : Int32) < (own_c p6))) (P13 : Sta Z Z.heap "java/lang/StringUTF16" "$assertionsDisabled" "Z" (.int (1 : Int32))) (P14 : Sta Z Z.heap "java/lang/StringUTF16" "HI_BYTE_SHIFT" "I" (.int (0 : Int32))) (P15 : Sta Z Z.heap "java/lang/StringUTF16" "LO_BYTE_SHIFT" "I" (.int (8 : Int32))) :
    MM l mn26 jdk_42_method_59_code 3 (some .int) (R4 3 0 0 44) #[(.ref a1), (.int (0 : Int32)), (.int (3 : Int32))] Z h0 (fun v h L => v = some (.int (((3 : Int32) - (own_pr (own_c p4) (own_c p5))) - (own_pr (own_c p5) (own_c p6)))) ∧ Fr n0 L ∧ h = h0) := by
  refine own_hN n0 rfl pn_3 ?_
  intro p e s m below meth c s₁ hx b hml hret hZ hown hnm X0 e0 N0
  refine own_ct (mkF m 0 #[.val (.ref a1), .val (.int (0 : Int32)), .val (.int (3 : Int32))] []) rfl ?_
  refine g_iloadN X0 hx (b d18_0) rfl ?_
  refine g_iloadN X0 hx (b d18_1) rfl ?_
  refine g_aloadN X0 hx (b d18_2) rfl rfl ?_
  refine own_cV X0 hx hZ hown (w87 hw) (w73 hw) (notFace_of_selects (args := #[]) (mvT hZ (w75 hw))) (w75 hw) (w74 hw) (w13 hw) (w76 hw) (rm16_5 hw a1 a2 kz3 p4 p5 p6 p7 O0 P2 P3 P1 P4 P5 P6) e0 2 (by decide) (by decide) (by rw [hml]; rfl) P1 [] [(.int (3 : Int32)), (.int (0 : Int32))] (lenOf pd_16 rfl) rfl rfl (Nat.le_of_eq rfl) (b d18_3) ?_
  rintro T1 _ L1 X1 ⟨rfl, M1, eh1⟩
  have N1 := Fr.app N0 M1
  refine own_cS X1 hx hZ hown (w88 hw) (w89 hw) (w90 hw) (w91 hw) (rm19_3 hw O0) eh1 0 (by decide) (by decide) (by rw [hml]; rfl) [(.int (0 : Int32)), (.int (3 : Int32)), (.int (3 : Int32))] [] (lenOf pd_18 rfl) rfl rfl (Nat.le_of_eq rfl) (b d18_6) ?_
  rintro T2 _ L2 X2 ⟨rfl, M2, eh2⟩
  have N2 := Fr.app N1 M2
  refine Go.st (fun t k => XS.pop X2.here hx rfl (b d18_9) rfl rfl k) ?_
  refine g_aloadN X2 hx (b d18_10) rfl rfl ?_
  refine own_cV X2 hx hZ hown (w96 hw) (w97 hw) (notFace_of_selects (args := #[]) (mvT hZ (w99 hw))) (w99 hw) (w98 hw) (w13 hw) (w100 hw) (rm21_1 hw a1 p7 O0 P4 P5 P6) eh2 0 (by decide) (by decide) (by rw [hml]; rfl) P1 [] [] (lenOf pd_12 rfl) rfl rfl (Nat.le_of_eq rfl) (b d18_11) ?_
  rintro T3 _ L3 X3 ⟨rfl, M3, eh3⟩
  have N3 := Fr.app N2 M3
  refine g_ifYes X3 hx (pc := 14) 21 (b d18_14) (XT.i0_eq_t (by decide : (0 : Int32) = (0 : Int32))) (by decide) ?_
  refine g_aloadN X3 hx (b d18_21) rfl rfl ?_
  obtain ⟨T4, X4, e4, st4⟩ := getF X3 hx hZ hown (host := "") (Or.inl (w31 hw)) Via.refl eh3 P2 (g := (mkF m 22 #[.val (.ref a1), .val (.int (0 : Int32)), .val (.int (3 : Int32))] [(.ref a1)])) rfl rfl (b d18_22)
  refine Go.st st4 ?_
  refine g_iloadN X4 hx (b d18_25) rfl ?_
  refine g_iloadN X4 hx (b d18_26) rfl ?_
  refine own_cS X4 hx hZ hown (w101 hw) (w102 hw) (w45 hw) (w103 hw) (rm22_3 hw a2 kz3 p4 p5 p6 O0 P3 P7 P8 P9 P10 P11 P12 P13 P14 P15) e4 0 (by decide) (by decide) (by rw [hml]; rfl) [(.ref a2), (.int (0 : Int32)), (.int (3 : Int32))] [] (lenOf pd_20 rfl) rfl rfl (Nat.le_of_eq rfl) (b d18_27) ?_
  rintro T5 _ L5 X5 ⟨rfl, M5, eh5⟩
  have N5 := Fr.app N3 M5
  exact own_eI X5 hx hret (b d18_30) eh5 (by decide) ⟨rfl, N5, rfl⟩
theorem rm6_10 (hw : HW Z a0) (a1 : Addr) (p2 : Int32) (a3 : Addr) (kz4 : ClassId) (p5 p6 p7 p8 : Int32) (O0 : Old Z n0 h0) (P1 : Exa Z h0 a1 "java/lang/String") (P2 : Fld Z h0 a1 "java/lang/String" "value" "[B" (.ref a3)) (P3 : Arv Z h0 a3 kz4 .byte (6 : Int32) [(.int (own_b0 (own_c p5))), (.int (own_b8 (own_c p5))), (.int (own_b0 (own_c p6))), (.int (own_b8 (own_c p6))), (.int (own_b0 (own_c p7))), (.int (own_b8 (own_c p7)))] (.int (0 : Int32))) (P4 : Sta Z Z.heap "java/lang/String" "COMPACT_STRINGS" "Z" (.int p8)) (P5 : ¬ (p8 = (0 : Int32))) (P6 : Fld Z h0 a1 "java/lang/String" "coder" "B" (.int (1 : Int32))) (P7 : ¬ ((own_c p5) < (0 : Int32))) (P8 : ¬ ((65535 : Int32) < (own_c p5))) (P9 : ¬ ((own_c p6) < (0 : Int32))) (P10 : ¬ ((65535 : Int32) < (own_c p6))) (P11 : ¬ ((own_c p7) < (0 : Int32))) (P12 : ¬ ((65535 : Int32) < (own_c p7))) (P13 : Sta Z Z.heap "java/lang/StringUTF16" "$assertionsDisabled" "Z" (.int (1 : Int32))) (P14 : Sta Z Z.heap "java/lang/StringUTF16" "HI_BYTE_SHIFT" "I" (.int (0 : Int32))) (P15 : Sta Z Z.heap "java/lang/StringUTF16" "LO_BYTE_SHIFT" "I" (.int (8 : Int32))) (P16 : p2 < (((3 : Int32) - (own_pr (own_c p5) (own_c p6))) - (own_pr (own_c p6) (own_c p7)))) :
    MM l mn18 prog_38_method_2_code 2 (some .boolean) (R4 4 0 0 58) #[(.ref a1), (.int p2)] Z h0 (fun v h L => v = some (.int (0 : Int32)) ∧ Fr n0 L ∧ h = h0) := by
  refine own_hN n0 rfl pn_4 ?_
  intro p e s m below meth c s₁ hx b hml hret hZ hown hnm X0 e0 N0
  refine own_ct (mkF m 0 #[.val (.ref a1), .val (.int p2)] []) rfl ?_
  refine g_aloadN X0 hx (b d6_0) rfl rfl ?_
  refine Go.st (fun t k => XS.ifnullNo X0.here hx rfl (b d6_1) rfl k) ?_
  refine g_aloadN X0 hx (b d6_4) rfl rfl ?_
  refine own_cV X0 hx hZ hown (w37 hw) (w38 hw) (notFace_of_selects (args := #[]) (mvT hZ (w40 hw))) (w40 hw) (w39 hw) (w13 hw) (w41 hw) (rm7_6 hw a1 a3 kz4 p5 p6 p7 O0 P2 P3) e0 0 (by decide) (by decide) (by rw [hml]; rfl) P1 [] [] (lenOf pd_12 rfl) rfl rfl (Nat.le_of_eq rfl) (b d6_5) ?_
  rintro T1 _ L1 X1 ⟨rfl, M1, eh1⟩
  have N1 := Fr.app N0 M1
  refine g_ifNo X1 hx (b d6_8) (XT.i0_ne_f (by decide : (0 : Int32) = (0 : Int32))) ?_
  refine g_aloadN X1 hx (b d6_11) rfl rfl ?_
  refine g_iconst X1 hx (0) (b d6_12) rfl ?_
  refine g_aloadN X1 hx (b d6_13) rfl rfl ?_
  refine own_cV X1 hx hZ hown (w72 hw) (w73 hw) (notFace_of_selects (args := #[]) (mvT hZ (w75 hw))) (w75 hw) (w74 hw) (w13 hw) (w76 hw) (rm16_5 hw a1 a3 kz4 p5 p6 p7 p8 O0 P2 P3 P1 P4 P5 P6) eh1 2 (by decide) (by decide) (by rw [hml]; rfl) P1 [] [(.int (0 : Int32)), (.ref a1)] (lenOf pd_16 rfl) rfl rfl (Nat.le_of_eq rfl) (b d6_14) ?_
  rintro T2 _ L2 X2 ⟨rfl, M2, eh2⟩
  have N2 := Fr.app N1 M2
  refine own_cV X2 hx hZ hown (w82 hw) (w83 hw) (notFace_of_selects (args := #[]) (mvT hZ (w85 hw))) (w85 hw) (w84 hw) (w13 hw) (w86 hw) (rm18_5 hw a1 a3 kz4 p5 p6 p7 p8 O0 P1 P2 P3 P4 P5 P6 P7 P8 P9 P10 P11 P12 P13 P14 P15) eh2 0 (by decide) (by decide) (by rw [hml]; rfl) P1 [(.int (0 : Int32)), (.int (3 : Int32))] [] (lenOf pd_21 rfl) rfl rfl (Nat.le_of_eq rfl) (b d6_17) ?_
  rintro T3 _ L3 X3 ⟨rfl, M3, eh3⟩
  have N3 := Fr.app N2 M3
  refine g_iloadN X3 hx (b d6_20) rfl ?_
  refine g_icmpYes X3 hx (pc := 21) 28 (b d6_21) (XT.ii_gt_t P16) (by decide) ?_
  refine g_iconst X3 hx (0) (b d6_28) rfl ?_
  exact own_eB X3 hx hret (by simp) rfl (b d6_29) eh3 (by decide) ⟨rfl, N3, rfl⟩
theorem rm6_11 (hw : HW Z a0) (a1 : Addr) (p2 : Int32) (a3 : Addr) (kz4 : ClassId) (p5 p6 p7 p8 : Int32) (O0 : Old Z n0 h0) (P1 : Exa Z h0 a1 "java/lang/String") (P2 : Fld Z h0 a1 "java/lang/String" "value" "[B" (.ref a3)) (P3 : Arv Z h0 a3 kz4 .byte (6 : Int32) [(.int (own_b0 (own_c p5))), (.int (own_b8 (own_c p5))), (.int (own_b0 (own_c p6))), (.int (own_b8 (own_c p6))), (.int (own_b0 (own_c p7))), (.int (own_b8 (own_c p7)))] (.int (0 : Int32))) (P4 : Sta Z Z.heap "java/lang/String" "COMPACT_STRINGS" "Z" (.int p8)) (P5 : ¬ (p8 = (0 : Int32))) (P6 : Fld Z h0 a1 "java/lang/String" "coder" "B" (.int (1 : Int32))) (P7 : ¬ ((own_c p5) < (0 : Int32))) (P8 : ¬ ((65535 : Int32) < (own_c p5))) (P9 : ¬ ((own_c p6) < (0 : Int32))) (P10 : ¬ ((65535 : Int32) < (own_c p6))) (P11 : ¬ ((own_c p7) < (0 : Int32))) (P12 : ¬ ((65535 : Int32) < (own_c p7))) (P13 : Sta Z Z.heap "java/lang/StringUTF16" "$assertionsDisabled" "Z" (.int (1 : Int32))) (P14 : Sta Z Z.heap "java/lang/StringUTF16" "HI_BYTE_SHIFT" "I" (.int (0 : Int32))) (P15 : Sta Z Z.heap "java/lang/StringUTF16" "LO_BYTE_SHIFT" "I" (.int (8 : Int32))) (P16 : ¬ (p2 < (((3 : Int32) - (own_pr (own_c p5) (own_c p6))) - (own_pr (own_c p6) (own_c p7))))) :
    MM l mn18 prog_38_method_2_code 2 (some .boolean) (R4 4 0 0 58) #[(.ref a1), (.int p2)] Z h0 (fun v h L => v = some (.int (1 : Int32)) ∧ Fr n0 L ∧ h = h0) := by
  refine own_hN n0 rfl pn_4 ?_
  intro p e s m below meth c s₁ hx b hml hret hZ hown hnm X0 e0 N0
  refine own_ct (mkF m 0 #[.val (.ref a1), .val (.int p2)] []) rfl ?_
  refine g_aloadN X0 hx (b d6_0) rfl rfl ?_
  refine Go.st (fun t k => XS.ifnullNo X0.here hx rfl (b d6_1) rfl k) ?_
  refine g_aloadN X0 hx (b d6_4) rfl rfl ?_
  refine own_cV X0 hx hZ hown (w37 hw) (w38 hw) (notFace_of_selects (args := #[]) (mvT hZ (w40 hw))) (w40 hw) (w39 hw) (w13 hw) (w41 hw) (rm7_6 hw a1 a3 kz4 p5 p6 p7 O0 P2 P3) e0 0 (by decide) (by decide) (by rw [hml]; rfl) P1 [] [] (lenOf pd_12 rfl) rfl rfl (Nat.le_of_eq rfl) (b d6_5) ?_
  rintro T1 _ L1 X1 ⟨rfl, M1, eh1⟩
  have N1 := Fr.app N0 M1
  refine g_ifNo X1 hx (b d6_8) (XT.i0_ne_f (by decide : (0 : Int32) = (0 : Int32))) ?_
  refine g_aloadN X1 hx (b d6_11) rfl rfl ?_
  refine g_iconst X1 hx (0) (b d6_12) rfl ?_
  refine g_aloadN X1 hx (b d6_13) rfl rfl ?_
  refine own_cV X1 hx hZ hown (w72 hw) (w73 hw) (notFace_of_selects (args := #[]) (mvT hZ (w75 hw))) (w75 hw) (w74 hw) (w13 hw) (w76 hw) (rm16_5 hw a1 a3 kz4 p5 p6 p7 p8 O0 P2 P3 P1 P4 P5 P6) eh1 2 (by decide) (by decide) (by rw [hml]; rfl) P1 [] [(.int (0 : Int32)), (.ref a1)] (lenOf pd_16 rfl) rfl rfl (Nat.le_of_eq rfl) (b d6_14) ?_
  rintro T2 _ L2 X2 ⟨rfl, M2, eh2⟩
  have N2 := Fr.app N1 M2
  refine own_cV X2 hx hZ hown (w82 hw) (w83 hw) (notFace_of_selects (args := #[]) (mvT hZ (w85 hw))) (w85 hw) (w84 hw) (w13 hw) (w86 hw) (rm18_5 hw a1 a3 kz4 p5 p6 p7 p8 O0 P1 P2 P3 P4 P5 P6 P7 P8 P9 P10 P11 P12 P13 P14 P15) eh2 0 (by decide) (by decide) (by rw [hml]; rfl) P1 [(.int (0 : Int32)), (.int (3 : Int32))] [] (lenOf pd_21 rfl) rfl rfl (Nat.le_of_eq rfl) (b d6_17) ?_
  rintro T3 _ L3 X3 ⟨rfl, M3, eh3⟩
  have N3 := Fr.app N2 M3
  refine g_iloadN X3 hx (b d6_20) rfl ?_
  refine g_icmpNo X3 hx (b d6_21) (XT.ii_gt_f P16) ?_
  refine g_iconst X3 hx (1) (b d6_24) rfl ?_
  refine g_goto X3 hx (pc := 25) 29 (b d6_25) (by decide) ?_
  exact own_eB X3 hx hret (by simp) rfl (b d6_29) eh3 (by decide) ⟨rfl, N3, rfl⟩
theorem rm9_13 (hw : HW Z a0) (a1 a2 : Addr) (kz3 : ClassId) (p4 p5 p6 : Int32) (kz7 : ClassId) (O0 : Old Z n0 h0) (P1 : Arv Z h0 a1 kz3 .char (3 : Int32) [(.int (own_c p4)), (.int (own_c p5)), (.int (own_c p6))] (.int (0 : Int32))) (P2 : ¬ ((255 : Int32) < (own_c p4))) (P3 : Arv Z h0 a2 kz7 .byte (3 : Int32) [(.int (0 : Int32)), (.int (0 : Int32)), (.int (0 : Int32))] (.int (0 : Int32))) (P4 : n0 ≤ a2) (P5 : a1 ≠ a2) (P6 : ¬ ((255 : Int32) < (own_c p5))) (P7 : ¬ ((255 : Int32) < (own_c p6))) :
    MM l mn8 jdk_52_method_21_code 7 (some .int) (R4 0 0 0 0) #[(.ref a1), (.int (0 : Int32)), (.ref a2), (.int (0 : Int32)), (.int (3 : Int32))] Z h0 (fun v h L => v = some (.int (3 : Int32)) ∧ Fr n0 L ∧ Keep h0 h [a2] ∧ Arv Z h a2 kz7 .byte (3 : Int32) [(.int (((own_c p4).toInt8.toInt32).toInt8.toInt32)), (.int (((own_c p5).toInt8.toInt32).toInt8.toInt32)), (.int (((own_c p6).toInt8.toInt32).toInt8.toInt32))] (.int (0 : Int32))) := by
  refine own_hN n0 rfl pn_2 ?_
  intro p e s m below meth c s₁ hx b hml hret hZ hown hnm X0 e0 N0
  refine own_ct (mkF m 0 #[.val (.ref a1), .val (.int (0 : Int32)), .val (.ref a2), .val (.int (0 : Int32)), .val (.int (3 : Int32)), .unset, .unset] []) rfl ?_
  refine g_iconst X0 hx (0) (b d9_0) rfl ?_
  refine g_istore X0 hx (b d9_1) (l' := #[.val (.ref a1), .val (.int (0 : Int32)), .val (.ref a2), .val (.int (0 : Int32)), .val (.int (3 : Int32)), .val (.int (0 : Int32)), .unset]) rfl ?_
  refine g_iload X0 hx (b d9_3) rfl ?_
  refine g_iload X0 hx (b d9_5) rfl ?_
  refine g_icmpNo X0 hx (b d9_7) (XT.ii_ge_f (by decide : (0 : Int32) < (3 : Int32))) ?_
  refine g_aloadN X0 hx (b d9_10) rfl rfl ?_
  refine g_iloadN X0 hx (b d9_11) rfl ?_
  obtain ⟨cl1, Ar1, q1, S1, M1, H1, G1⟩ := id P1
  have hin1 : ¬ ((0 : Int32) < 0 ∨ cl1.slots.size ≤ ((0 : Int32)).toNatClampNeg) := inb_of S1 ⟨by decide, by decide⟩
  have hat1 : cl1.slots[((0 : Int32)).toNatClampNeg]? = some (.int (own_c p4)) := H1.at hin1 rfl
  refine Go.st (fun t k => X0.caload hx (j := (0 : Int32)) (v := (.int (own_c p4))) (by rw [e0]; exact Ar1.1) (State.isArrayOf_alike hZ.alike Ar1.2.1) Ar1.2.2 hin1 hat1 (g := (mkF m 12 #[.val (.ref a1), .val (.int (0 : Int32)), .val (.ref a2), .val (.int (0 : Int32)), .val (.int (3 : Int32)), .val (.int (0 : Int32)), .unset] [(.int (0 : Int32)), (.ref a1)])) rfl rfl (b d9_12) t k) ?_
  refine g_istore X0 hx (b d9_13) (l' := #[.val (.ref a1), .val (.int (0 : Int32)), .val (.ref a2), .val (.int (0 : Int32)), .val (.int (3 : Int32)), .val (.int (0 : Int32)), .val (.int (own_c p4))]) rfl ?_
  refine g_iload X0 hx (b d9_15) rfl ?_
  refine g_sipush X0 hx (255) (b d9_17) rfl ?_
  refine g_icmpYes X0 hx (pc := 20) 26 (b d9_20) (XT.ii_le_t P2) (by decide) ?_
  refine g_aloadN X0 hx (b d9_26) rfl rfl ?_
  refine g_iloadN X0 hx (b d9_27) rfl ?_
  refine g_iload X0 hx (b d9_28) rfl ?_
  refine g_i2bZ X0 hx ((own_c p4).toInt8.toInt32) (b d9_30) rfl ?_
  obtain ⟨cl2, Ar2, q2, S2, M2, H2, G2⟩ := id P3
  have hin2 : ¬ ((0 : Int32) < 0 ∨ cl2.slots.size ≤ ((0 : Int32)).toNatClampNeg) := inb_of S2 ⟨by decide, by decide⟩
  obtain ⟨T2, h2, X2, e2, W2, st2⟩ := stB X0 hx hZ e0 Ar2 (j := (0 : Int32)) hin2 (g := (mkF m 31 #[.val (.ref a1), .val (.int (0 : Int32)), .val (.ref a2), .val (.int (0 : Int32)), .val (.int (3 : Int32)), .val (.int (0 : Int32)), .val (.int (own_c p4))] [(.int ((own_c p4).toInt8.toInt32)), (.int (0 : Int32)), (.ref a2)])) rfl rfl (b d9_31)
  have V2 : Arv Z h2 a2 kz7 .byte (3 : Int32) [(.int (((own_c p4).toInt8.toInt32).toInt8.toInt32)), (.int (0 : Int32)), (.int (0 : Int32))] (.int (0 : Int32)) := Arv.set Ar2 q2 S2 M2 H2 G2 (fits_nar_byte _) W2 0 rfl (Nat.le_of_ble_eq_true rfl)
  have N2 := Fr.snoc X2 N0 P4
  have O2 : Old Z n0 h2 := O0.wr W2 P4
  have K2 : Keep h0 h2 [a2] := (Keep.refl h0 [a2]).wr W2 (Or.inl (List.mem_of_getElem? (i := 0) rfl))
  refine Go.st st2 ?_
  refine g_iinc X2 hx (b d9_32) rfl (l' := #[.val (.ref a1), .val (.int (1 : Int32)), .val (.ref a2), .val (.int (0 : Int32)), .val (.int (3 : Int32)), .val (.int (0 : Int32)), .val (.int (own_c p4))]) rfl ?_
  refine g_iinc X2 hx (b d9_35) rfl (l' := #[.val (.ref a1), .val (.int (1 : Int32)), .val (.ref a2), .val (.int (1 : Int32)), .val (.int (3 : Int32)), .val (.int (0 : Int32)), .val (.int (own_c p4))]) rfl ?_
  refine g_iinc X2 hx (b d9_38) rfl (l' := #[.val (.ref a1), .val (.int (1 : Int32)), .val (.ref a2), .val (.int (1 : Int32)), .val (.int (3 : Int32)), .val (.int (1 : Int32)), .val (.int (own_c p4))]) rfl ?_
  refine g_goto X2 hx (pc := 41) 3 (b d9_41) (by decide) ?_
  refine g_iload X2 hx (b d9_3) rfl ?_
  refine g_iload X2 hx (b d9_5) rfl ?_
  refine g_icmpNo X2 hx (b d9_7) (XT.ii_ge_f (by decide : (1 : Int32) < (3 : Int32))) ?_
  refine g_aloadN X2 hx (b d9_10) rfl rfl ?_
  refine g_iloadN X2 hx (b d9_11) rfl ?_
  obtain ⟨cl3, Ar3, q3, S3, M3, H3, G3⟩ := id (P1.other W2 P5)
  have hin3 : ¬ ((1 : Int32) < 0 ∨ cl3.slots.size ≤ ((1 : Int32)).toNatClampNeg) := inb_of S3 ⟨by decide, by decide⟩
  have hat3 : cl3.slots[((1 : Int32)).toNatClampNeg]? = some (.int (own_c p5)) := H3.at hin3 rfl
  refine Go.st (fun t k => X2.caload hx (j := (1 : Int32)) (v := (.int (own_c p5))) (by rw [e2]; exact Ar3.1) (State.isArrayOf_alike hZ.alike Ar3.2.1) Ar3.2.2 hin3 hat3 (g := (mkF m 12 #[.val (.ref a1), .val (.int (1 : Int32)), .val (.ref a2), .val (.int (1 : Int32)), .val (.int (3 : Int32)), .val (.int (1 : Int32)), .val (.int (own_c p4))] [(.int (1 : Int32)), (.ref a1)])) rfl rfl (b d9_12) t k) ?_
  refine g_istore X2 hx (b d9_13) (l' := #[.val (.ref a1), .val (.int (1 : Int32)), .val (.ref a2), .val (.int (1 : Int32)), .val (.int (3 : Int32)), .val (.int (1 : Int32)), .val (.int (own_c p5))]) rfl ?_
  refine g_iload X2 hx (b d9_15) rfl ?_
  refine g_sipush X2 hx (255) (b d9_17) rfl ?_
  refine g_icmpYes X2 hx (pc := 20) 26 (b d9_20) (XT.ii_le_t P6) (by decide) ?_
  refine g_aloadN X2 hx (b d9_26) rfl rfl ?_
  refine g_iloadN X2 hx (b d9_27) rfl ?_
  refine g_iload X2 hx (b d9_28) rfl ?_
  refine g_i2bZ X2 hx ((own_c p5).toInt8.toInt32) (b d9_30) rfl ?_
  obtain ⟨cl4, Ar4, q4, S4, M4, H4, G4⟩ := id V2
  have hin4 : ¬ ((1 : Int32) < 0 ∨ cl4.slots.size ≤ ((1 : Int32)).toNatClampNeg) := inb_of S4 ⟨by decide, by decide⟩
  obtain ⟨T4, h4, X4, e4, W4, st4⟩ := stB X2 hx hZ e2 Ar4 (j := (1 : Int32)) hin4 (g := (mkF m 31 #[.val (.ref a1), .val (.int (1 : Int32)), .val (.ref a2), .val (.int (1 : Int32)), .val (.int (3 : Int32)), .val (.int (1 : Int32)), .val (.int (own_c p5))] [(.int ((own_c p5).toInt8.toInt32)), (.int (1 : Int32)), (.ref a2)])) rfl rfl (b d9_31)
  have V4 : Arv Z h4 a2 kz7 .byte (3 : Int32) [(.int (((own_c p4).toInt8.toInt32).toInt8.toInt32)), (.int (((own_c p5).toInt8.toInt32).toInt8.toInt32)), (.int (0 : Int32))] (.int (0 : Int32)) := Arv.set Ar4 q4 S4 M4 H4 G4 (fits_nar_byte _) W4 1 rfl (Nat.le_of_ble_eq_true rfl)
  have N4 := Fr.snoc X4 N2 P4
  have O4 : Old Z n0 h4 := O2.wr W4 P4
  have K4 : Keep h0 h4 [a2] := K2.wr W4 (Or.inl (List.mem_of_getElem? (i := 0) rfl))
  refine Go.st st4 ?_
  refine g_iinc X4 hx (b d9_32) rfl (l' := #[.val (.ref a1), .val (.int (2 : Int32)), .val (.ref a2), .val (.int (1 : Int32)), .val (.int (3 : Int32)), .val (.int (1 : Int32)), .val (.int (own_c p5))]) rfl ?_
  refine g_iinc X4 hx (b d9_35) rfl (l' := #[.val (.ref a1), .val (.int (2 : Int32)), .val (.ref a2), .val (.int (2 : Int32)), .val (.int (3 : Int32)), .val (.int (1 : Int32)), .val (.int (own_c p5))]) rfl ?_
  refine g_iinc X4 hx (b d9_38) rfl (l' := #[.val (.ref a1), .val (.int (2 : Int32)), .val (.ref a2), .val (.int (2 : Int32)), .val (.int (3 : Int32)), .val (.int (2 : Int32)), .val (.int (own_c p5))]) rfl ?_
  refine g_goto X4 hx (pc := 41) 3 (b d9_41) (by decide) ?_
  refine g_iload X4 hx (b d9_3) rfl ?_
  refine g_iload X4 hx (b d9_5) rfl ?_
  refine g_icmpNo X4 hx (b d9_7) (XT.ii_ge_f (by decide : (2 : Int32) < (3 : Int32))) ?_
  refine g_aloadN X4 hx (b d9_10) rfl rfl ?_
  refine g_iloadN X4 hx (b d9_11) rfl ?_
  obtain ⟨cl5, Ar5, q5, S5, M5, H5, G5⟩ := id ((P1.other W2 P5).other W4 P5)
  have hin5 : ¬ ((2 : Int32) < 0 ∨ cl5.slots.size ≤ ((2 : Int32)).toNatClampNeg) := inb_of S5 ⟨by decide, by decide⟩
  have hat5 : cl5.slots[((2 : Int32)).toNatClampNeg]? = some (.int (own_c p6)) := H5.at hin5 rfl
  refine Go.st (fun t k => X4.caload hx (j := (2 : Int32)) (v := (.int (own_c p6))) (by rw [e4]; exact Ar5.1) (State.isArrayOf_alike hZ.alike Ar5.2.1) Ar5.2.2 hin5 hat5 (g := (mkF m 12 #[.val (.ref a1), .val (.int (2 : Int32)), .val (.ref a2), .val (.int (2 : Int32)), .val (.int (3 : Int32)), .val (.int (2 : Int32)), .val (.int (own_c p5))] [(.int (2 : Int32)), (.ref a1)])) rfl rfl (b d9_12) t k) ?_
  refine g_istore X4 hx (b d9_13) (l' := #[.val (.ref a1), .val (.int (2 : Int32)), .val (.ref a2), .val (.int (2 : Int32)), .val (.int (3 : Int32)), .val (.int (2 : Int32)), .val (.int (own_c p6))]) rfl ?_
  refine g_iload X4 hx (b d9_15) rfl ?_
  refine g_sipush X4 hx (255) (b d9_17) rfl ?_
  refine g_icmpYes X4 hx (pc := 20) 26 (b d9_20) (XT.ii_le_t P7) (by decide) ?_
  refine g_aloadN X4 hx (b d9_26) rfl rfl ?_
  refine g_iloadN X4 hx (b d9_27) rfl ?_
  refine g_iload X4 hx (b d9_28) rfl ?_
  refine g_i2bZ X4 hx ((own_c p6).toInt8.toInt32) (b d9_30) rfl ?_
  obtain ⟨cl6, Ar6, q6, S6, M6, H6, G6⟩ := id V4
  have hin6 : ¬ ((2 : Int32) < 0 ∨ cl6.slots.size ≤ ((2 : Int32)).toNatClampNeg) := inb_of S6 ⟨by decide, by decide⟩
  obtain ⟨T6, h6, X6, e6, W6, st6⟩ := stB X4 hx hZ e4 Ar6 (j := (2 : Int32)) hin6 (g := (mkF m 31 #[.val (.ref a1), .val (.int (2 : Int32)), .val (.ref a2), .val (.int (2 : Int32)), .val (.int (3 : Int32)), .val (.int (2 : Int32)), .val (.int (own_c p6))] [(.int ((own_c p6).toInt8.toInt32)), (.int (2 : Int32)), (.ref a2)])) rfl rfl (b d9_31)
  have V6 : Arv Z h6 a2 kz7 .byte (3 : Int32) [(.int (((own_c p4).toInt8.toInt32).toInt8.toInt32)), (.int (((own_c p5).toInt8.toInt32).toInt8.toInt32)), (.int (((own_c p6).toInt8.toInt32).toInt8.toInt32))] (.int (0 : Int32)) := Arv.set Ar6 q6 S6 M6 H6 G6 (fits_nar_byte _) W6 2 rfl (Nat.le_of_ble_eq_true rfl)
  have N6 := Fr.snoc X6 N4 P4
  have O6 : Old Z n0 h6 := O4.wr W6 P4
  have K6 : Keep h0 h6 [a2] := K4.wr W6 (Or.inl (List.mem_of_getElem? (i := 0) rfl))
  refine Go.st st6 ?_
  refine g_iinc X6 hx (b d9_32) rfl (l' := #[.val (.ref a1), .val (.int (3 : Int32)), .val (.ref a2), .val (.int (2 : Int32)), .val (.int (3 : Int32)), .val (.int (2 : Int32)), .val (.int (own_c p6))]) rfl ?_
  refine g_iinc X6 hx (b d9_35) rfl (l' := #[.val (.ref a1), .val (.int (3 : Int32)), .val (.ref a2), .val (.int (3 : Int32)), .val (.int (3 : Int32)), .val (.int (2 : Int32)), .val (.int (own_c p6))]) rfl ?_
  refine g_iinc X6 hx (b d9_38) rfl (l' := #[.val (.ref a1), .val (.int (3 : Int32)), .val (.ref a2), .val (.int (3 : Int32)), .val (.int (3 : Int32)), .val (.int (3 : Int32)), .val (.int (own_c p6))]) rfl ?_
  refine g_goto X6 hx (pc := 41) 3 (b d9_41) (by decide) ?_
  refine g_iload X6 hx (b d9_3) rfl ?_
  refine g_iload X6 hx (b d9_5) rfl ?_
  refine g_icmpYes X6 hx (pc := 7) 44 (b d9_7) (XT.ii_ge_t (by decide : ¬ ((3 : Int32) < (3 : Int32)))) (by decide) ?_
  refine g_iload X6 hx (b d9_44) rfl ?_
  exact own_eI X6 hx hret (b d9_46) e6 (by decide) ⟨rfl, N6, K6, V6⟩
theorem rm8_7 (hw : HW Z a0) (a1 : Addr) (kz2 : ClassId) (p3 p4 p5 : Int32) (O0 : Old Z n0 h0) (P1 : Arv Z h0 a1 kz2 .char (3 : Int32) [(.int (own_c p3)), (.int (own_c p4)), (.int (own_c p5))] (.int (0 : Int32))) (P2 : ¬ ((255 : Int32) < (own_c p3))) (P3 : ¬ ((255 : Int32) < (own_c p4))) (P4 : ¬ ((255 : Int32) < (own_c p5))) :
    MM l mn13 jdk_52_method_16_code 6 (some (.array .byte)) (R4 1 1 3 18) #[(.ref a1), (.int (0 : Int32)), (.int (3 : Int32))] Z h0 (fun v h L => ∃ (b1 : Addr) (k1 : ClassId), v = some (.ref b1) ∧ Fr n0 L ∧ Keep h0 h [] ∧ h0.size ≤ b1 ∧ Arv Z h b1 k1 .byte (3 : Int32) [(.int (((own_c p3).toInt8.toInt32).toInt8.toInt32)), (.int (((own_c p4).toInt8.toInt32).toInt8.toInt32)), (.int (((own_c p5).toInt8.toInt32).toInt8.toInt32))] (.int (0 : Int32))) := by
  refine own_hN n0 rfl pn_2 ?_
  intro p e s m below meth c s₁ hx b hml hret hZ hown hnm X0 e0 N0
  refine own_ct (mkF m 0 #[.val (.ref a1), .val (.int (0 : Int32)), .val (.int (3 : Int32)), .unset, .unset, .unset] []) rfl ?_
  refine g_iloadN X0 hx (b d8_0) rfl ?_
  obtain ⟨T1, h1, k1, X1, e1, E1, A1, st1⟩ := newP X0 hx hZ (aty := .byte) (w26 hw) e0 (g := (mkF m 1 #[.val (.ref a1), .val (.int (0 : Int32)), .val (.int (3 : Int32)), .unset, .unset, .unset] [(.int (3 : Int32))])) rfl (b d8_1) rfl (by decide) (cap := 3) (by decide) (by decide) (by decide) (by decide)
  obtain ⟨b1, z1⟩ : ∃ z, z = h0.size := ⟨_, rfl⟩
  rw [← z1] at A1 st1
  have g_b1 : n0 ≤ b1 := Nat.le_trans (own_n0 O0) (Nat.le_of_eq z1.symm)
  have s_b1 : h0.size ≤ b1 := Nat.le_trans (Keep.refl h0 []).1 (Nat.le_of_eq z1.symm)
  have V1 : Arv Z h1 b1 k1 .byte (3 : Int32) [(.int (0 : Int32)), (.int (0 : Int32)), (.int (0 : Int32))] (.int (0 : Int32)) := (Arv.new A1 (by decide)).pad (pad_rep [] (.int (0 : Int32)) 3)
  have O1 : Old Z n0 h1 := O0.ext E1
  have K1 : Keep h0 h1 [] := (Keep.refl h0 []).ext E1
  refine Go.st st1 ?_
  refine g_astoreN X1 hx (b d8_3) rfl (l' := #[.val (.ref a1), .val (.int (0 : Int32)), .val (.int (3 : Int32)), .val (.ref b1), .unset, .unset]) rfl ?_
  refine g_aloadN X1 hx (b d8_4) rfl rfl ?_
  refine g_iloadN X1 hx (b d8_5) rfl ?_
  refine g_aloadN X1 hx (b d8_6) rfl rfl ?_
  refine g_iconst X1 hx (0) (b d8_7) rfl ?_
  refine g_iloadN X1 hx (b d8_8) rfl ?_
  refine own_cS X1 hx hZ hown (w47 hw) (w48 hw) (w45 hw) (w49 hw) (rm9_13 hw a1 b1 kz2 p3 p4 p5 k1 O1 (P1.ext E1) P2 V1 g_b1 (Nat.ne_of_lt (Nat.lt_of_lt_of_le P1.lt (Nat.le_of_eq z1.symm))) P3 P4) e1 0 (by decide) (by decide) (by rw [hml]; rfl) [(.ref a1), (.int (0 : Int32)), (.ref b1), (.int (0 : Int32)), (.int (3 : Int32))] [] (lenOf pd_2 rfl) rfl rfl (Nat.le_of_eq rfl) (b d8_9) ?_
  rintro T2 _ L2 X2 ⟨rfl, M2, K2c, r2_0⟩
  have N2 := Fr.app N0 M2
  have O2 : Old Z n0 T2.heap := O1.keep K2c (allS g_b1 all0)
  have K2 : Keep h0 T2.heap [] := K1.trans K2c (allS (Or.inr s_b1) all0)
  refine g_istore X2 hx (b d8_12) (l' := #[.val (.ref a1), .val (.int (0 : Int32)), .val (.int (3 : Int32)), .val (.ref b1), .val (.int (3 : Int32)), .unset]) rfl ?_
  refine g_iload X2 hx (b d8_14) rfl ?_
  refine g_iloadN X2 hx (b d8_16) rfl ?_
  refine g_icmpYes X2 hx (pc := 17) 57 (b d8_17) (XT.ii_eq_t (by decide : (3 : Int32) = (3 : Int32))) (by decide) ?_
  refine g_aloadN X2 hx (b d8_57) rfl rfl ?_
  exact own_eA X2 hx hret rfl rfl (b d8_58) rfl (by decide) ⟨b1, k1, rfl, N2, K2, s_b1, r2_0⟩
theorem rm15_6 (hw : HW Z a0) (a1 : Addr) (kz2 : ClassId) (p3 p4 p5 : Int32) (O0 : Old Z n0 h0) (P1 : Arv Z h0 a1 kz2 .byte (3 : Int32) [(.int (((own_c p3).toInt8.toInt32).toInt8.toInt32)), (.int (((own_c p4).toInt8.toInt32).toInt8.toInt32)), (.int (((own_c p5).toInt8.toInt32).toInt8.toInt32))] (.int (0 : Int32))) :
    MM l mn19 jdk_52_method_15_code 2 (some .byte) (R4 0 0 0 0) #[(.ref a1), (.int (3 : Int32))] Z h0 (fun v h L => v = some (.int (0 : Int32)) ∧ Fr n0 L ∧ h = h0) := by
  refine own_hN n0 rfl pn_2 ?_
  intro p e s m below meth c s₁ hx b hml hret hZ hown hnm X0 e0 N0
  refine own_ct (mkF m 0 #[.val (.ref a1), .val (.int (3 : Int32))] []) rfl ?_
  refine g_iloadN X0 hx (b d15_0) rfl ?_
  refine g_aloadN X0 hx (b d15_1) rfl rfl ?_
  obtain ⟨cl1, Ar1, -, S1, M1, -, -⟩ := id P1
  refine Go.st (fun t k => X0.arraylength hx (by rw [e0]; exact Ar1.1) (State.isArrayOf_alike hZ.alike Ar1.2.1) (g := (mkF m 2 #[.val (.ref a1), .val (.int (3 : Int32))] [(.ref a1), (.int (3 : Int32))])) rfl rfl (b d15_2) t k) ?_
  rw [len_of S1 M1]
  refine g_isubZ X0 hx (0 : Int32) (b d15_3) rfl ?_
  refine g_bipush X0 hx (31) (b d15_4) rfl ?_
  refine Go.st (fun t k => XS.iushr X0.here hx rfl (b d15_6) rfl k) ?_
  show Go p e below _ (s₁.setTop (mkF m 7 #[.val (.ref a1), .val (.int (3 : Int32))] [(.int (0 : Int32))]))
  refine g_i2bZ X0 hx (0 : Int32) (b d15_7) rfl ?_
  exact own_eB X0 hx hret (by simp) rfl (b d15_8) e0 (by decide) ⟨rfl, N0, rfl⟩
theorem rm4_7 (hw : HW Z a0) (a1 a2 : Addr) (p3 : Int32) (kz4 : ClassId) (p5 p6 p7 : Int32) (O0 : Old Z n0 h0) (P1 : Sta Z Z.heap "java/lang/String" "COMPACT_STRINGS" "Z" (.int p3)) (P2 : ¬ (p3 = (0 : Int32))) (P3 : Arv Z h0 a2 kz4 .char (3 : Int32) [(.int (own_c p5)), (.int (own_c p6)), (.int (own_c p7))] (.int (0 : Int32))) (P4 : ¬ ((own_c p5) < (0 : Int32))) (P5 : ¬ ((65535 : Int32) < (own_c p5))) (P6 : ¬ ((own_c p6) < (0 : Int32))) (P7 : ¬ ((65535 : Int32) < (own_c p6))) (P8 : ¬ ((own_c p7) < (0 : Int32))) (P9 : ¬ ((65535 : Int32) < (own_c p7))) (P10 : ¬ ((255 : Int32) < (own_mx (own_mx (own_c p5) (own_c p6)) (own_c p7)))) (P11 : ¬ ((255 : Int32) < (own_c p5))) (P12 : ¬ ((255 : Int32) < (own_c p6))) (P13 : ¬ ((255 : Int32) < (own_c p7))) (P14 : Exa Z h0 a1 "java/lang/String") (P15 : Fld Z h0 a1 "java/lang/String" "coder" "B" (.int (0 : Int32))) (P16 : n0 ≤ a1) (P17 : Fld Z h0 a1 "java/lang/String" "value" "[B" .null) :
    MM l mn14 jdk_42_method_149_code 6 none (R4 2 1 3 35) #[(.ref a1), (.ref a2), (.int (0 : Int32)), (.int (3 : Int32)), .null] Z h0 (fun v h L => ∃ (b1_3 : Addr) (k1_3 : ClassId), v = none ∧ Fr n0 L ∧ Keep h0 h [a1] ∧ h0.size ≤ b1_3 ∧ Fld Z h a1 "java/lang/String" "coder" "B" (.int (0 : Int32)) ∧ Fld Z h a1 "java/lang/String" "value" "[B" (.ref b1_3) ∧ Arv Z h b1_3 k1_3 .byte (3 : Int32) [(.int (((own_c p5).toInt8.toInt32).toInt8.toInt32)), (.int (((own_c p6).toInt8.toInt32).toInt8.toInt32)), (.int (((own_c p7).toInt8.toInt32).toInt8.toInt32))] (.int (0 : Int32))) := by
  refine own_hN n0 rfl pn_3 ?_
  intro p e s m below meth c s₁ hx b hml hret hZ hown hnm X0 e0 N0
  refine own_ct (mkF m 0 #[.val (.ref a1), .val (.ref a2), .val (.int (0 : Int32)), .val (.int (3 : Int32)), .val .null, .unset] []) rfl ?_
  refine g_aloadN X0 hx (b d4_0) rfl rfl ?_
  obtain ⟨T1, X1, e1, st1⟩ := initO X0 hx hZ hown (w22 hw) (w23 hw) (w24 hw) e0 (g := (mkF m 1 #[.val (.ref a1), .val (.ref a2), .val (.int (0 : Int32)), .val (.int (3 : Int32)), .val .null, .unset] [(.ref a1)])) rfl (by rw [hml]; rfl) rfl (b d4_1) (by decide) (W := 0) (by show 2 * 0 + _ ≤ _; exact Nat.le_of_eq rfl) (by decide)
  refine Go.st st1 ?_
  show Go p e below _ (T1.setTop (mkF m 4 #[.val (.ref a1), .val (.ref a2), .val (.int (0 : Int32)), .val (.int (3 : Int32)), .val .null, .unset] []))
  refine g_iloadN X1 hx (b d4_4) rfl ?_
  refine g_ifYes X1 hx (pc := 5) 27 (b d4_5) (XT.i0_ne_t (by decide : ¬ ((3 : Int32) = (0 : Int32)))) (by decide) ?_
  obtain ⟨T2, X2, e2, st2⟩ := getS2 X1 hx hZ hown (host := "") (Or.inl (w42 hw)) Via.refl e1 (P1.ext O0.2) (g := (mkF m 27 #[.val (.ref a1), .val (.ref a2), .val (.int (0 : Int32)), .val (.int (3 : Int32)), .val .null, .unset] [])) rfl (b d4_27)
  refine Go.st st2 ?_
  refine g_ifNo X2 hx (b d4_30) (XT.i0_eq_f P2) ?_
  refine g_aloadN X2 hx (b d4_33) rfl rfl ?_
  refine g_iloadN X2 hx (b d4_34) rfl ?_
  refine g_iloadN X2 hx (b d4_35) rfl ?_
  refine own_cS X2 hx hZ hown (w43 hw) (w44 hw) (w45 hw) (w46 hw) (rm8_7 hw a2 kz4 p5 p6 p7 O0 P3 P11 P12 P13) e2 0 (by decide) (by decide) (by rw [hml]; rfl) [(.ref a2), (.int (0 : Int32)), (.int (3 : Int32))] [] (lenOf pd_6 rfl) rfl rfl (Nat.le_of_eq rfl) (b d4_36) ?_
  rintro T3 _ L3 X3 ⟨b1_3, k1_3, rfl, M3, K3c, r3_0, r3_1⟩
  have N3 := Fr.app N0 M3
  have g_b1_3 : n0 ≤ b1_3 := Nat.le_trans (own_n0 O0) r3_0
  have s_b1_3 : h0.size ≤ b1_3 := Nat.le_trans (Keep.refl h0 [a1]).1 r3_0
  have O3 : Old Z n0 T3.heap := O0.keep K3c all0
  have K3 : Keep h0 T3.heap [a1] := (Keep.refl h0 [a1]).trans K3c all0
  refine g_astore X3 hx (b d4_39) rfl (l' := #[.val (.ref a1), .val (.ref a2), .val (.int (0 : Int32)), .val (.int (3 : Int32)), .val .null, .val (.ref b1_3)]) rfl ?_
  refine g_aloadN X3 hx (b d4_41) rfl rfl ?_
  refine g_aload X3 hx (b d4_42) rfl rfl ?_
  refine g_iloadN X3 hx (b d4_44) rfl ?_
  refine own_cS X3 hx hZ hown (w69 hw) (w70 hw) (w45 hw) (w71 hw) (rm15_6 hw b1_3 k1_3 p5 p6 p7 O3 r3_1) rfl 1 (by decide) (by decide) (by rw [hml]; rfl) [(.ref b1_3), (.int (3 : Int32))] [(.ref a1)] (lenOf pd_14 rfl) rfl rfl (Nat.le_of_eq rfl) (b d4_45) ?_
  rintro T4 _ L4 X4 ⟨rfl, M4, eh4⟩
  have N4 := Fr.app N3 M4
  obtain ⟨T5, h5, X5, e5, W5, st5⟩ := putFN X4 hx hZ hown (w32 hw) Via.refl eh4 (P15.keep K3c nin0) (P14.keep K3c) (Or.inr ⟨(w28 hw), rfl, hnm⟩) (w12 hw) (ty := .byte) (v' := (.int (0 : Int32))) (by decide) rfl (by decide) (g := (mkF m 48 #[.val (.ref a1), .val (.ref a2), .val (.int (0 : Int32)), .val (.int (3 : Int32)), .val .null, .val (.ref b1_3)] [(.int (0 : Int32)), (.ref a1)])) rfl rfl (b d4_48)
  have F5 : Fld Z h5 a1 "java/lang/String" "coder" "B" (.int (0 : Int32)) := (P15.keep K3c nin0).same W5
  have N5 := Fr.snoc X5 N4 P16
  have O5 : Old Z n0 h5 := O3.wr W5 P16
  have K5 : Keep h0 h5 [a1] := K3.wr W5 (Or.inl (List.mem_of_getElem? (i := 0) rfl))
  refine Go.st st5 ?_
  refine g_aloadN X5 hx (b d4_51) rfl rfl ?_
  refine g_aload X5 hx (b d4_52) rfl rfl ?_
  have c6 := ((P17.keep K3c nin0).other W5 (Or.inr (slot_ne (Or.inr (w27 hw)) (Or.inr (w28 hw)) (by decide) (t := (.array .byte)) (t' := .byte) (by decide) (by decide))))
  obtain ⟨T7, h7, X7, e7, W7, st7⟩ := putF X5 hx hZ hown (host := "") (Or.inl (w31 hw)) Via.refl e5 c6 ((P14.keep K3c).wr W5) (Or.inr ⟨(w27 hw), rfl, hnm⟩) (w12 hw) (ty := (.array .byte)) (by decide) rfl rfl (g := (mkF m 54 #[.val (.ref a1), .val (.ref a2), .val (.int (0 : Int32)), .val (.int (3 : Int32)), .val .null, .val (.ref b1_3)] [(.ref b1_3), (.ref a1)])) rfl rfl (b d4_54)
  have F7 : Fld Z h7 a1 "java/lang/String" "value" "[B" (.ref b1_3) := c6.same W7
  have N7 := Fr.snoc X7 N5 P16
  have O7 : Old Z n0 h7 := O5.wr W7 P16
  have K7 : Keep h0 h7 [a1] := K5.wr W7 (Or.inl (List.mem_of_getElem? (i := 0) rfl))
  refine Go.st st7 ?_
  have c8 := (F5.other W7 (Or.inr (slot_ne (Or.inr (w28 hw)) (Or.inr (w27 hw)) (by decide) (t := .byte) (t' := (.array .byte)) (by decide) (by decide))))
  have c9 := ((r3_1.other W5 (Ne.symm (Nat.ne_of_lt (Nat.lt_of_lt_of_le P14.lt r3_0)))).other W7 (Ne.symm (Nat.ne_of_lt (Nat.lt_of_lt_of_le P14.lt r3_0))))
  exact own_eV X7 hx hret (b d4_57) e7 (by decide) ⟨b1_3, k1_3, rfl, N7, K7, s_b1_3, c8, F7, c9⟩
theorem rm3_7 (hw : HW Z a0) (a1 a2 : Addr) (kz3 : ClassId) (p4 p5 p6 p7 : Int32) (O0 : Old Z n0 h0) (P1 : Arv Z h0 a2 kz3 .char (3 : Int32) [(.int (own_c p4)), (.int (own_c p5)), (.int (own_c p6))] (.int (0 : Int32))) (P2 : Sta Z Z.heap "java/lang/String" "COMPACT_STRINGS" "Z" (.int p7)) (P3 : ¬ (p7 = (0 : Int32))) (P4 : ¬ ((own_c p4) < (0 : Int32))) (P5 : ¬ ((65535 : Int32) < (own_c p4))) (P6 : ¬ ((own_c p5) < (0 : Int32))) (P7 : ¬ ((65535 : Int32) < (own_c p5))) (P8 : ¬ ((own_c p6) < (0 : Int32))) (P9 : ¬ ((65535 : Int32) < (own_c p6))) (P10 : ¬ ((255 : Int32) < (own_mx (own_mx (own_c p4) (own_c p5)) (own_c p6)))) (P11 : ¬ ((255 : Int32) < (own_c p4))) (P12 : ¬ ((255 : Int32) < (own_c p5))) (P13 : ¬ ((255 : Int32) < (own_c p6))) (P14 : Exa Z h0 a1 "java/lang/String") (P15 : Fld Z h0 a1 "java/lang/String" "coder" "B" (.int (0 : Int32))) (P16 : n0 ≤ a1) (P17 : Fld Z h0 a1 "java/lang/String" "value" "[B" .null) :
    MM l mn15 jdk_42_method_3_code 2 none (R4 3 1 3 52) #[(.ref a1), (.ref a2)] Z h0 (fun v h L => ∃ (b1_3_2 : Addr) (k1_3_2 : ClassId), v = none ∧ Fr n0 L ∧ Keep h0 h [a1] ∧ h0.size ≤ b1_3_2 ∧ Fld Z h a1 "java/lang/String" "coder" "B" (.int (0 : Int32)) ∧ Fld Z h a1 "java/lang/String" "value" "[B" (.ref b1_3_2) ∧ Arv Z h b1_3_2 k1_3_2 .byte (3 : Int32) [(.int (((own_c p4).toInt8.toInt32).toInt8.toInt32)), (.int (((own_c p5).toInt8.toInt32).toInt8.toInt32)), (.int (((own_c p6).toInt8.toInt32).toInt8.toInt32))] (.int (0 : Int32))) := by
  refine own_hN n0 rfl pn_3 ?_
  intro p e s m below meth c s₁ hx b hml hret hZ hown hnm X0 e0 N0
  refine own_ct (mkF m 0 #[.val (.ref a1), .val (.ref a2)] []) rfl ?_
  refine g_aloadN X0 hx (b d3_0) rfl rfl ?_
  refine g_aloadN X0 hx (b d3_1) rfl rfl ?_
  refine g_iconst X0 hx (0) (b d3_2) rfl ?_
  refine g_aloadN X0 hx (b d3_3) rfl rfl ?_
  obtain ⟨cl1, Ar1, -, S1, M1, -, -⟩ := id P1
  refine Go.st (fun t k => X0.arraylength hx (by rw [e0]; exact Ar1.1) (State.isArrayOf_alike hZ.alike Ar1.2.1) (g := (mkF m 4 #[.val (.ref a1), .val (.ref a2)] [(.ref a2), (.int (0 : Int32)), (.ref a2), (.ref a1)])) rfl rfl (b d3_4) t k) ?_
  rw [len_of S1 M1]
  refine g_aconstNull X0 hx (b d3_5) ?_
  refine own_cI X0 hx hZ hown (w18 hw) rfl (w19 hw) (w13 hw) (w21 hw) (rm4_7 hw a1 a2 p7 kz3 p4 p5 p6 O0 P2 P3 P1 P4 P5 P6 P7 P8 P9 P10 P11 P12 P13 P14 P15 P16 P17) e0 0 (by decide) (by decide) (by rw [hml]; rfl) a1 [(.ref a2), (.int (0 : Int32)), (.int (3 : Int32)), .null] [] (lenOf pd_9 rfl) rfl rfl (Nat.le_of_eq rfl) (b d3_6) ?_
  rintro T2 _ L2 X2 ⟨b1_3_2, k1_3_2, rfl, M2, K2c, r2_0, r2_1, r2_2, r2_3⟩
  have N2 := Fr.app N0 M2
  have g_b1_3_2 : n0 ≤ b1_3_2 := Nat.le_trans (own_n0 O0) r2_0
  have s_b1_3_2 : h0.size ≤ b1_3_2 := Nat.le_trans (Keep.refl h0 [a1]).1 r2_0
  have O2 : Old Z n0 T2.heap := O0.keep K2c (allS P16 all0)
  have K2 : Keep h0 T2.heap [a1] := (Keep.refl h0 [a1]).trans K2c (allS (Or.inl (List.mem_of_getElem? (i := 0) rfl)) all0)
  exact own_eV X2 hx hret (b d3_9) rfl (by decide) ⟨b1_3_2, k1_3_2, rfl, N2, K2, s_b1_3_2, r2_1, r2_2, r2_3⟩
theorem rm2_7 (hw : HW Z a0) (p1 p2 p3 p4 p5 : Int32) (O0 : Old Z n0 h0) (P1 : Sta Z Z.heap "java/lang/String" "COMPACT_STRINGS" "Z" (.int p5)) (P2 : ¬ (p5 = (0 : Int32))) (P3 : ¬ ((own_c p1) < (0 : Int32))) (P4 : ¬ ((65535 : Int32) < (own_c p1))) (P5 : ¬ ((own_c p2) < (0 : Int32))) (P6 : ¬ ((65535 : Int32) < (own_c p2))) (P7 : ¬ ((own_c p3) < (0 : Int32))) (P8 : ¬ ((65535 : Int32) < (own_c p3))) (P9 : ¬ ((255 : Int32) < (own_mx (own_mx (own_c p1) (own_c p2)) (own_c p3)))) (P10 : ¬ ((255 : Int32) < (own_c p1))) (P11 : ¬ ((255 : Int32) < (own_c p2))) (P12 : ¬ ((255 : Int32) < (own_c p3))) :
    MM l mn16 method_6_code 6 (some (.object "java/lang/String")) (R4 4 3 10 66) #[(.int (3 : Int32)), (.int p1), (.int p2), (.int p3), (.int p4)] Z h0 (fun v h L => ∃ (b5 b1_3_2_6 : Addr) (k1_3_2_6 : ClassId), v = some (.ref b5) ∧ Fr n0 L ∧ Keep h0 h [] ∧ h0.size ≤ b5 ∧ h0.size ≤ b1_3_2_6 ∧ b5 ≠ b1_3_2_6 ∧ Exa Z h b5 "java/lang/String" ∧ Fld Z h b5 "java/lang/String" "value" "[B" (.ref b1_3_2_6) ∧ Fld Z h b5 "java/lang/String" "coder" "B" (.int (0 : Int32)) ∧ Arv Z h b1_3_2_6 k1_3_2_6 .byte (3 : Int32) [(.int (((own_c p1).toInt8.toInt32).toInt8.toInt32)), (.int (((own_c p2).toInt8.toInt32).toInt8.toInt32)), (.int (((own_c p3).toInt8.toInt32).toInt8.toInt32))] (.int (0 : Int32))) := by
  refine own_hN n0 rfl pn_0 ?_
  intro p e s m below meth c s₁ hx b hml hret hZ hown hnm X0 e0 N0
  refine own_ct (mkF m 0 #[.val (.int (3 : Int32)), .val (.int p1), .val (.int p2), .val (.int p3), .val (.int p4), .unset] []) rfl ?_
  refine g_iloadN X0 hx (b d2_0) rfl ?_
  refine g_ifYes X0 hx (pc := 1) 15 (b d2_1) (XT.i0_ne_t (by decide : ¬ ((3 : Int32) = (0 : Int32)))) (by decide) ?_
  refine g_iloadN X0 hx (b d2_15) rfl ?_
  refine g_iconst X0 hx (1) (b d2_16) rfl ?_
  refine g_icmpYes X0 hx (pc := 17) 40 (b d2_17) (XT.ii_ne_t (by decide : ¬ ((3 : Int32) = (1 : Int32)))) (by decide) ?_
  refine g_iloadN X0 hx (b d2_40) rfl ?_
  refine g_iconst X0 hx (2) (b d2_41) rfl ?_
  refine g_icmpYes X0 hx (pc := 42) 70 (b d2_42) (XT.ii_ne_t (by decide : ¬ ((3 : Int32) = (2 : Int32)))) (by decide) ?_
  refine g_iloadN X0 hx (b d2_70) rfl ?_
  refine g_iconst X0 hx (3) (b d2_71) rfl ?_
  refine g_icmpNo X0 hx (b d2_72) (XT.ii_ne_f (by decide : (3 : Int32) = (3 : Int32))) ?_
  refine g_iconst X0 hx (3) (b d2_75) rfl ?_
  obtain ⟨T1, h1, k1, X1, e1, E1, A1, st1⟩ := newP X0 hx hZ (aty := .char) (w14 hw) e0 (g := (mkF m 76 #[.val (.int (3 : Int32)), .val (.int p1), .val (.int p2), .val (.int p3), .val (.int p4), .unset] [(.int (3 : Int32))])) rfl (b d2_76) rfl (by decide) (cap := 3) (by decide) (by decide) (by decide) (by decide)
  obtain ⟨b1, z1⟩ : ∃ z, z = h0.size := ⟨_, rfl⟩
  rw [← z1] at A1 st1
  have g_b1 : n0 ≤ b1 := Nat.le_trans (own_n0 O0) (Nat.le_of_eq z1.symm)
  have s_b1 : h0.size ≤ b1 := Nat.le_trans (Keep.refl h0 []).1 (Nat.le_of_eq z1.symm)
  have V1 : Arv Z h1 b1 k1 .char (3 : Int32) [(.int (0 : Int32)), (.int (0 : Int32)), (.int (0 : Int32))] (.int (0 : Int32)) := (Arv.new A1 (by decide)).pad (pad_rep [] (.int (0 : Int32)) 3)
  have O1 : Old Z n0 h1 := O0.ext E1
  have K1 : Keep h0 h1 [] := (Keep.refl h0 []).ext E1
  refine Go.st st1 ?_
  refine g_astore X1 hx (b d2_78) rfl (l' := #[.val (.int (3 : Int32)), .val (.int p1), .val (.int p2), .val (.int p3), .val (.int p4), .val (.ref b1)]) rfl ?_
  refine g_aload X1 hx (b d2_80) rfl rfl ?_
  refine g_iconst X1 hx (0) (b d2_82) rfl ?_
  refine g_iloadN X1 hx (b d2_83) rfl ?_
  obtain ⟨cl2, Ar2, q2, S2, M2, H2, G2⟩ := id V1
  have hin2 : ¬ ((0 : Int32) < 0 ∨ cl2.slots.size ≤ ((0 : Int32)).toNatClampNeg) := inb_of S2 ⟨by decide, by decide⟩
  obtain ⟨T2, h2, X2, e2, W2, st2⟩ := stC X1 hx hZ e1 Ar2 (j := (0 : Int32)) hin2 (g := (mkF m 84 #[.val (.int (3 : Int32)), .val (.int p1), .val (.int p2), .val (.int p3), .val (.int p4), .val (.ref b1)] [(.int p1), (.int (0 : Int32)), (.ref b1)])) rfl rfl (b d2_84)
  have V2 : Arv Z h2 b1 k1 .char (3 : Int32) [(.int (own_c p1)), (.int (0 : Int32)), (.int (0 : Int32))] (.int (0 : Int32)) := Arv.set Ar2 q2 S2 M2 H2 G2 (fits_nar_char _) W2 0 rfl (Nat.le_of_ble_eq_true rfl)
  have N2 := Fr.snoc X2 N0 g_b1
  have O2 : Old Z n0 h2 := O1.wr W2 g_b1
  have K2 : Keep h0 h2 [] := K1.wr W2 (Or.inr s_b1)
  refine Go.st st2 ?_
  refine g_aload X2 hx (b d2_85) rfl rfl ?_
  refine g_iconst X2 hx (1) (b d2_87) rfl ?_
  refine g_iloadN X2 hx (b d2_88) rfl ?_
  obtain ⟨cl3, Ar3, q3, S3, M3, H3, G3⟩ := id V2
  have hin3 : ¬ ((1 : Int32) < 0 ∨ cl3.slots.size ≤ ((1 : Int32)).toNatClampNeg) := inb_of S3 ⟨by decide, by decide⟩
  obtain ⟨T3, h3, X3, e3, W3, st3⟩ := stC X2 hx hZ e2 Ar3 (j := (1 : Int32)) hin3 (g := (mkF m 89 #[.val (.int (3 : Int32)), .val (.int p1), .val (.int p2), .val (.int p3), .val (.int p4), .val (.ref b1)] [(.int p2), (.int (1 : Int32)), (.ref b1)])) rfl rfl (b d2_89)
  have V3 : Arv Z h3 b1 k1 .char (3 : Int32) [(.int (own_c p1)), (.int (own_c p2)), (.int (0 : Int32))] (.int (0 : Int32)) := Arv.set Ar3 q3 S3 M3 H3 G3 (fits_nar_char _) W3 1 rfl (Nat.le_of_ble_eq_true rfl)
  have N3 := Fr.snoc X3 N2 g_b1
  have O3 : Old Z n0 h3 := O2.wr W3 g_b1
  have K3 : Keep h0 h3 [] := K2.wr W3 (Or.inr s_b1)
  refine Go.st st3 ?_
  refine g_aload X3 hx (b d2_90) rfl rfl ?_
  refine g_iconst X3 hx (2) (b d2_92) rfl ?_
  refine g_iloadN X3 hx (b d2_93) rfl ?_
  obtain ⟨cl4, Ar4, q4, S4, M4, H4, G4⟩ := id V3
  have hin4 : ¬ ((2 : Int32) < 0 ∨ cl4.slots.size ≤ ((2 : Int32)).toNatClampNeg) := inb_of S4 ⟨by decide, by decide⟩
  obtain ⟨T4, h4, X4, e4, W4, st4⟩ := stC X3 hx hZ e3 Ar4 (j := (2 : Int32)) hin4 (g := (mkF m 94 #[.val (.int (3 : Int32)), .val (.int p1), .val (.int p2), .val (.int p3), .val (.int p4), .val (.ref b1)] [(.int p3), (.int (2 : Int32)), (.ref b1)])) rfl rfl (b d2_94)
  have V4 : Arv Z h4 b1 k1 .char (3 : Int32) [(.int (own_c p1)), (.int (own_c p2)), (.int (own_c p3))] (.int (0 : Int32)) := Arv.set Ar4 q4 S4 M4 H4 G4 (fits_nar_char _) W4 2 rfl (Nat.le_of_ble_eq_true rfl)
  have N4 := Fr.snoc X4 N3 g_b1
  have O4 : Old Z n0 h4 := O3.wr W4 g_b1
  have K4 : Keep h0 h4 [] := K3.wr W4 (Or.inr s_b1)
  refine Go.st st4 ?_
  obtain ⟨T5, h5, X5, e5, E5, A5, D5, -, st5⟩ := newO X4 hx hZ hown (w11 hw) (w12 hw) (w13 hw) e4 (g := (mkF m 95 #[.val (.int (3 : Int32)), .val (.int p1), .val (.int p2), .val (.int p3), .val (.int p4), .val (.ref b1)] [])) rfl (b d2_95) (by decide) (by decide)
  obtain ⟨b5, z5⟩ : ∃ z, z = h4.size := ⟨_, rfl⟩
  rw [← z5] at A5 D5 st5
  have g_b5 : n0 ≤ b5 := Nat.le_trans (own_n0 O4) (Nat.le_of_eq z5.symm)
  have s_b5 : h0.size ≤ b5 := Nat.le_trans K4.1 (Nat.le_of_eq z5.symm)
  have O5 : Old Z n0 h5 := O4.ext E5
  have K5 : Keep h0 h5 [] := K4.ext E5
  have f5_27 : Fld Z h5 b5 "java/lang/String" "value" "[B" .null := D5 (Or.inr (w27 hw)) (ty := (.array .byte)) (by decide)
  have f5_28 : Fld Z h5 b5 "java/lang/String" "coder" "B" (.int (0 : Int32)) := D5 (Or.inr (w28 hw)) (ty := .byte) (by decide)
  refine Go.st st5 ?_
  refine Go.st (fun t k => XS.dup X5.here hx rfl (b d2_98) rfl rfl k) ?_
  refine g_aload X5 hx (b d2_99) rfl rfl ?_
  refine own_cI X5 hx hZ hown (w15 hw) rfl (w16 hw) (w13 hw) (w17 hw) (rm3_7 hw b5 b1 k1 p1 p2 p3 p5 O5 (V4.ext E5) P1 P2 P3 P4 P5 P6 P7 P8 P9 P10 P11 P12 A5 f5_28 g_b5 f5_27) e5 1 (by decide) (by decide) (by rw [hml]; rfl) b5 [(.ref b1)] [(.ref b5)] (lenOf pd_10 rfl) rfl rfl (Nat.le_of_eq rfl) (b d2_101) ?_
  rintro T6 _ L6 X6 ⟨b1_3_2_6, k1_3_2_6, rfl, M6, K6c, r6_0, r6_1, r6_2, r6_3⟩
  have N6 := Fr.app N4 M6
  have g_b1_3_2_6 : n0 ≤ b1_3_2_6 := Nat.le_trans (own_n0 O5) r6_0
  have s_b1_3_2_6 : h0.size ≤ b1_3_2_6 := Nat.le_trans K5.1 r6_0
  have O6 : Old Z n0 T6.heap := O5.keep K6c (allS g_b5 all0)
  have K6 : Keep h0 T6.heap [] := K5.trans K6c (allS (Or.inr s_b5) all0)
  exact own_eA X6 hx hret rfl rfl (b d2_104) rfl (by decide) ⟨b5, b1_3_2_6, k1_3_2_6, rfl, N6, K6, s_b5, s_b1_3_2_6, (Nat.ne_of_lt (Nat.lt_of_lt_of_le A5.lt r6_0)), (A5.keep K6c), r6_2, r6_1, r6_3⟩
theorem rm7_7 (hw : HW Z a0) (a1 a2 : Addr) (kz3 : ClassId) (p4 p5 p6 : Int32) (O0 : Old Z n0 h0) (P1 : Fld Z h0 a1 "java/lang/String" "value" "[B" (.ref a2)) (P2 : Arv Z h0 a2 kz3 .byte (3 : Int32) [(.int (((own_c p4).toInt8.toInt32).toInt8.toInt32)), (.int (((own_c p5).toInt8.toInt32).toInt8.toInt32)), (.int (((own_c p6).toInt8.toInt32).toInt8.toInt32))] (.int (0 : Int32))) :
    MM l mn17 jdk_42_method_55_code 1 (some .boolean) (R4 0 0 0 0) #[(.ref a1)] Z h0 (fun v h L => v = some (.int (0 : Int32)) ∧ Fr n0 L ∧ h = h0) := by
  refine own_hN n0 rfl pn_3 ?_
  intro p e s m below meth c s₁ hx b hml hret hZ hown hnm X0 e0 N0
  refine own_ct (mkF m 0 #[.val (.ref a1)] []) rfl ?_
  refine g_aloadN X0 hx (b d7_0) rfl rfl ?_
  obtain ⟨T1, X1, e1, st1⟩ := getF X0 hx hZ hown (host := "") (Or.inl (w31 hw)) Via.refl e0 P1 (g := (mkF m 1 #[.val (.ref a1)] [(.ref a1)])) rfl rfl (b d7_1)
  refine Go.st st1 ?_
  obtain ⟨cl2, Ar2, -, S2, M2, -, -⟩ := id P2
  refine Go.st (fun t k => X1.arraylength hx (by rw [e1]; exact Ar2.1) (State.isArrayOf_alike hZ.alike Ar2.2.1) (g := (mkF m 4 #[.val (.ref a1)] [(.ref a2)])) rfl rfl (b d7_4) t k) ?_
  rw [len_of S2 M2]
  refine g_ifYes X1 hx (pc := 5) 12 (b d7_5) (XT.i0_ne_t (by decide : ¬ ((3 : Int32) = (0 : Int32)))) (by decide) ?_
  refine g_iconst X1 hx (0) (b d7_12) rfl ?_
  exact own_eB X1 hx hret (by simp) rfl (b d7_13) e1 (by decide) ⟨rfl, N0, rfl⟩
theorem rm16_6 (hw : HW Z a0) (a1 a2 : Addr) (kz3 : ClassId) (p4 p5 p6 p7 : Int32) (O0 : Old Z n0 h0) (P1 : Fld Z h0 a1 "java/lang/String" "value" "[B" (.ref a2)) (P2 : Arv Z h0 a2 kz3 .byte (3 : Int32) [(.int (((own_c p4).toInt8.toInt32).toInt8.toInt32)), (.int (((own_c p5).toInt8.toInt32).toInt8.toInt32)), (.int (((own_c p6).toInt8.toInt32).toInt8.toInt32))] (.int (0 : Int32))) (P3 : Exa Z h0 a1 "java/lang/String") (P4 : Sta Z Z.heap "java/lang/String" "COMPACT_STRINGS" "Z" (.int p7)) (P5 : ¬ (p7 = (0 : Int32))) (P6 : Fld Z h0 a1 "java/lang/String" "coder" "B" (.int (0 : Int32))) :
    MM l mn21 jdk_42_method_54_code 1 (some .int) (R4 1 0 0 13) #[(.ref a1)] Z h0 (fun v h L => v = some (.int (3 : Int32)) ∧ Fr n0 L ∧ h = h0) := by
  refine own_hN n0 rfl pn_3 ?_
  intro p e s m below meth c s₁ hx b hml hret hZ hown hnm X0 e0 N0
  refine own_ct (mkF m 0 #[.val (.ref a1)] []) rfl ?_
  refine g_aloadN X0 hx (b d16_0) rfl rfl ?_
  obtain ⟨T1, X1, e1, st1⟩ := getF X0 hx hZ hown (host := "") (Or.inl (w31 hw)) Via.refl e0 P1 (g := (mkF m 1 #[.val (.ref a1)] [(.ref a1)])) rfl rfl (b d16_1)
  refine Go.st st1 ?_
  obtain ⟨cl2, Ar2, -, S2, M2, -, -⟩ := id P2
  refine Go.st (fun t k => X1.arraylength hx (by rw [e1]; exact Ar2.1) (State.isArrayOf_alike hZ.alike Ar2.2.1) (g := (mkF m 4 #[.val (.ref a1)] [(.ref a2)])) rfl rfl (b d16_4) t k) ?_
  rw [len_of S2 M2]
  refine g_aloadN X1 hx (b d16_5) rfl rfl ?_
  refine own_cV X1 hx hZ hown (w77 hw) (w78 hw) (notFace_of_selects (args := #[]) (mvT hZ (w80 hw))) (w80 hw) (w79 hw) (w13 hw) (w81 hw) (rm17_2 hw a1 p7 O0 P4 P5 P6) e1 1 (by decide) (by decide) (by rw [hml]; rfl) P3 [] [(.int (3 : Int32))] (lenOf pd_15 rfl) rfl rfl (Nat.le_of_eq rfl) (b d16_6) ?_
  rintro T3 _ L3 X3 ⟨rfl, M3, eh3⟩
  have N3 := Fr.app N0 M3
  refine g_ishrZ X3 hx (3 : Int32) (b d16_9) rfl ?_
  exact own_eI X3 hx hret (b d16_10) eh3 (by decide) ⟨rfl, N3, rfl⟩
theorem rm18_6 (hw : HW Z a0) (a1 a2 : Addr) (kz3 : ClassId) (p4 p5 p6 p7 : Int32) (O0 : Old Z n0 h0) (P1 : Exa Z h0 a1 "java/lang/String") (P2 : Fld Z h0 a1 "java/lang/String" "value" "[B" (.ref a2)) (P3 : Arv Z h0 a2 kz3 .byte (3 : Int32) [(.int (((own_c p4).toInt8.toInt32).toInt8.toInt32)), (.int (((own_c p5).toInt8.toInt32).toInt8.toInt32)), (.int (((own_c p6).toInt8.toInt32).toInt8.toInt32))] (.int (0 : Int32))) (P4 : Sta Z Z.heap "java/lang/String" "COMPACT_STRINGS" "Z" (.int p7)) (P5 : ¬ (p7 = (0 : Int32))) (P6 : Fld Z h0 a1 "java/lang/String" "coder" "B" (.int (0 : Int32))) :
    MM l mn26 jdk_42_method_59_code 3 (some .int) (R4 2 0 0 29) #[(.ref a1), (.int (0 : Int32)), (.int (3 : Int32))] Z h0 (fun v h L => v = some (.int (3 : Int32)) ∧ Fr n0 L ∧ h = h0) := by
  refine own_hN n0 rfl pn_3 ?_
  intro p e s m below meth c s₁ hx b hml hret hZ hown hnm X0 e0 N0
  refine own_ct (mkF m 0 #[.val (.ref a1), .val (.int (0 : Int32)), .val (.int (3 : Int32))] []) rfl ?_
  refine g_iloadN X0 hx (b d18_0) rfl ?_
  refine g_iloadN X0 hx (b d18_1) rfl ?_
  refine g_aloadN X0 hx (b d18_2) rfl rfl ?_
  refine own_cV X0 hx hZ hown (w87 hw) (w73 hw) (notFace_of_selects (args := #[]) (mvT hZ (w75 hw))) (w75 hw) (w74 hw) (w13 hw) (w76 hw) (rm16_6 hw a1 a2 kz3 p4 p5 p6 p7 O0 P2 P3 P1 P4 P5 P6) e0 2 (by decide) (by decide) (by rw [hml]; rfl) P1 [] [(.int (3 : Int32)), (.int (0 : Int32))] (lenOf pd_16 rfl) rfl rfl (Nat.le_of_eq rfl) (b d18_3) ?_
  rintro T1 _ L1 X1 ⟨rfl, M1, eh1⟩
  have N1 := Fr.app N0 M1
  refine own_cS X1 hx hZ hown (w88 hw) (w89 hw) (w90 hw) (w91 hw) (rm19_3 hw O0) eh1 0 (by decide) (by decide) (by rw [hml]; rfl) [(.int (0 : Int32)), (.int (3 : Int32)), (.int (3 : Int32))] [] (lenOf pd_18 rfl) rfl rfl (Nat.le_of_eq rfl) (b d18_6) ?_
  rintro T2 _ L2 X2 ⟨rfl, M2, eh2⟩
  have N2 := Fr.app N1 M2
  refine Go.st (fun t k => XS.pop X2.here hx rfl (b d18_9) rfl rfl k) ?_
  refine g_aloadN X2 hx (b d18_10) rfl rfl ?_
  refine own_cV X2 hx hZ hown (w96 hw) (w97 hw) (notFace_of_selects (args := #[]) (mvT hZ (w99 hw))) (w99 hw) (w98 hw) (w13 hw) (w100 hw) (rm21_2 hw a1 p7 O0 P4 P5 P6) eh2 0 (by decide) (by decide) (by rw [hml]; rfl) P1 [] [] (lenOf pd_12 rfl) rfl rfl (Nat.le_of_eq rfl) (b d18_11) ?_
  rintro T3 _ L3 X3 ⟨rfl, M3, eh3⟩
  have N3 := Fr.app N2 M3
  refine g_ifNo X3 hx (b d18_14) (XT.i0_eq_f (by decide : ¬ ((1 : Int32) = (0 : Int32)))) ?_
  refine g_iloadN X3 hx (b d18_17) rfl ?_
  refine g_iloadN X3 hx (b d18_18) rfl ?_
  refine g_isubZ X3 hx (3 : Int32) (b d18_19) rfl ?_
  exact own_eI X3 hx hret (b d18_20) eh3 (by decide) ⟨rfl, N3, rfl⟩
theorem rm6_12 (hw : HW Z a0) (a1 : Addr) (p2 : Int32) (a3 : Addr) (kz4 : ClassId) (p5 p6 p7 p8 : Int32) (O0 : Old Z n0 h0) (P1 : Exa Z h0 a1 "java/lang/String") (P2 : Fld Z h0 a1 "java/lang/String" "value" "[B" (.ref a3)) (P3 : Arv Z h0 a3 kz4 .byte (3 : Int32) [(.int (((own_c p5).toInt8.toInt32).toInt8.toInt32)), (.int (((own_c p6).toInt8.toInt32).toInt8.toInt32)), (.int (((own_c p7).toInt8.toInt32).toInt8.toInt32))] (.int (0 : Int32))) (P4 : Sta Z Z.heap "java/lang/String" "COMPACT_STRINGS" "Z" (.int p8)) (P5 : ¬ (p8 = (0 : Int32))) (P6 : Fld Z h0 a1 "java/lang/String" "coder" "B" (.int (0 : Int32))) (P7 : p2 < (3 : Int32)) :
    MM l mn18 prog_38_method_2_code 2 (some .boolean) (R4 3 0 0 43) #[(.ref a1), (.int p2)] Z h0 (fun v h L => v = some (.int (0 : Int32)) ∧ Fr n0 L ∧ h = h0) := by
  refine own_hN n0 rfl pn_4 ?_
  intro p e s m below meth c s₁ hx b hml hret hZ hown hnm X0 e0 N0
  refine own_ct (mkF m 0 #[.val (.ref a1), .val (.int p2)] []) rfl ?_
  refine g_aloadN X0 hx (b d6_0) rfl rfl ?_
  refine Go.st (fun t k => XS.ifnullNo X0.here hx rfl (b d6_1) rfl k) ?_
  refine g_aloadN X0 hx (b d6_4) rfl rfl ?_
  refine own_cV X0 hx hZ hown (w37 hw) (w38 hw) (notFace_of_selects (args := #[]) (mvT hZ (w40 hw))) (w40 hw) (w39 hw) (w13 hw) (w41 hw) (rm7_7 hw a1 a3 kz4 p5 p6 p7 O0 P2 P3) e0 0 (by decide) (by decide) (by rw [hml]; rfl) P1 [] [] (lenOf pd_12 rfl) rfl rfl (Nat.le_of_eq rfl) (b d6_5) ?_
  rintro T1 _ L1 X1 ⟨rfl, M1, eh1⟩
  have N1 := Fr.app N0 M1
  refine g_ifNo X1 hx (b d6_8) (XT.i0_ne_f (by decide : (0 : Int32) = (0 : Int32))) ?_
  refine g_aloadN X1 hx (b d6_11) rfl rfl ?_
  refine g_iconst X1 hx (0) (b d6_12) rfl ?_
  refine g_aloadN X1 hx (b d6_13) rfl rfl ?_
  refine own_cV X1 hx hZ hown (w72 hw) (w73 hw) (notFace_of_selects (args := #[]) (mvT hZ (w75 hw))) (w75 hw) (w74 hw) (w13 hw) (w76 hw) (rm16_6 hw a1 a3 kz4 p5 p6 p7 p8 O0 P2 P3 P1 P4 P5 P6) eh1 2 (by decide) (by decide) (by rw [hml]; rfl) P1 [] [(.int (0 : Int32)), (.ref a1)] (lenOf pd_16 rfl) rfl rfl (Nat.le_of_eq rfl) (b d6_14) ?_
  rintro T2 _ L2 X2 ⟨rfl, M2, eh2⟩
  have N2 := Fr.app N1 M2
  refine own_cV X2 hx hZ hown (w82 hw) (w83 hw) (notFace_of_selects (args := #[]) (mvT hZ (w85 hw))) (w85 hw) (w84 hw) (w13 hw) (w86 hw) (rm18_6 hw a1 a3 kz4 p5 p6 p7 p8 O0 P1 P2 P3 P4 P5 P6) eh2 0 (by decide) (by decide) (by rw [hml]; rfl) P1 [(.int (0 : Int32)), (.int (3 : Int32))] [] (lenOf pd_21 rfl) rfl rfl (Nat.le_of_eq rfl) (b d6_17) ?_
  rintro T3 _ L3 X3 ⟨rfl, M3, eh3⟩
  have N3 := Fr.app N2 M3
  refine g_iloadN X3 hx (b d6_20) rfl ?_
  refine g_icmpYes X3 hx (pc := 21) 28 (b d6_21) (XT.ii_gt_t P7) (by decide) ?_
  refine g_iconst X3 hx (0) (b d6_28) rfl ?_
  exact own_eB X3 hx hret (by simp) rfl (b d6_29) eh3 (by decide) ⟨rfl, N3, rfl⟩
theorem rm6_13 (hw : HW Z a0) (a1 : Addr) (p2 : Int32) (a3 : Addr) (kz4 : ClassId) (p5 p6 p7 p8 : Int32) (O0 : Old Z n0 h0) (P1 : Exa Z h0 a1 "java/lang/String") (P2 : Fld Z h0 a1 "java/lang/String" "value" "[B" (.ref a3)) (P3 : Arv Z h0 a3 kz4 .byte (3 : Int32) [(.int (((own_c p5).toInt8.toInt32).toInt8.toInt32)), (.int (((own_c p6).toInt8.toInt32).toInt8.toInt32)), (.int (((own_c p7).toInt8.toInt32).toInt8.toInt32))] (.int (0 : Int32))) (P4 : Sta Z Z.heap "java/lang/String" "COMPACT_STRINGS" "Z" (.int p8)) (P5 : ¬ (p8 = (0 : Int32))) (P6 : Fld Z h0 a1 "java/lang/String" "coder" "B" (.int (0 : Int32))) (P7 : ¬ (p2 < (3 : Int32))) :
    MM l mn18 prog_38_method_2_code 2 (some .boolean) (R4 3 0 0 43) #[(.ref a1), (.int p2)] Z h0 (fun v h L => v = some (.int (1 : Int32)) ∧ Fr n0 L ∧ h = h0) := by
  refine own_hN n0 rfl pn_4 ?_
  intro p e s m below meth c s₁ hx b hml hret hZ hown hnm X0 e0 N0
  refine own_ct (mkF m 0 #[.val (.ref a1), .val (.int p2)] []) rfl ?_
  refine g_aloadN X0 hx (b d6_0) rfl rfl ?_
  refine Go.st (fun t k => XS.ifnullNo X0.here hx rfl (b d6_1) rfl k) ?_
  refine g_aloadN X0 hx (b d6_4) rfl rfl ?_
  refine own_cV X0 hx hZ hown (w37 hw) (w38 hw) (notFace_of_selects (args := #[]) (mvT hZ (w40 hw))) (w40 hw) (w39 hw) (w13 hw) (w41 hw) (rm7_7 hw a1 a3 kz4 p5 p6 p7 O0 P2 P3) e0 0 (by decide) (by decide) (by rw [hml]; rfl) P1 [] [] (lenOf pd_12 rfl) rfl rfl (Nat.le_of_eq rfl) (b d6_5) ?_
  rintro T1 _ L1 X1 ⟨rfl, M1, eh1⟩
  have N1 := Fr.app N0 M1
  refine g_ifNo X1 hx (b d6_8) (XT.i0_ne_f (by decide : (0 : Int32) = (0 : Int32))) ?_
  refine g_aloadN X1 hx (b d6_11) rfl rfl ?_
  refine g_iconst X1 hx (0) (b d6_12) rfl ?_
  refine g_aloadN X1 hx (b d6_13) rfl rfl ?_
  refine own_cV X1 hx hZ hown (w72 hw) (w73 hw) (notFace_of_selects (args := #[]) (mvT hZ (w75 hw))) (w75 hw) (w74 hw) (w13 hw) (w76 hw) (rm16_6 hw a1 a3 kz4 p5 p6 p7 p8 O0 P2 P3 P1 P4 P5 P6) eh1 2 (by decide) (by decide) (by rw [hml]; rfl) P1 [] [(.int (0 : Int32)), (.ref a1)] (lenOf pd_16 rfl) rfl rfl (Nat.le_of_eq rfl) (b d6_14) ?_
  rintro T2 _ L2 X2 ⟨rfl, M2, eh2⟩
  have N2 := Fr.app N1 M2
  refine own_cV X2 hx hZ hown (w82 hw) (w83 hw) (notFace_of_selects (args := #[]) (mvT hZ (w85 hw))) (w85 hw) (w84 hw) (w13 hw) (w86 hw) (rm18_6 hw a1 a3 kz4 p5 p6 p7 p8 O0 P1 P2 P3 P4 P5 P6) eh2 0 (by decide) (by decide) (by rw [hml]; rfl) P1 [(.int (0 : Int32)), (.int (3 : Int32))] [] (lenOf pd_21 rfl) rfl rfl (Nat.le_of_eq rfl) (b d6_17) ?_
  rintro T3 _ L3 X3 ⟨rfl, M3, eh3⟩
  have N3 := Fr.app N2 M3
  refine g_iloadN X3 hx (b d6_20) rfl ?_
  refine g_icmpNo X3 hx (b d6_21) (XT.ii_gt_f P7) ?_
  refine g_iconst X3 hx (1) (b d6_24) rfl ?_
  refine g_goto X3 hx (pc := 25) 29 (b d6_25) (by decide) ?_
  exact own_eB X3 hx hret (by simp) rfl (b d6_29) eh3 (by decide) ⟨rfl, N3, rfl⟩
theorem rm15_7 (hw : HW Z a0) (a1 : Addr) (kz2 : ClassId) (p3 p4 p5 p6 : Int32) (O0 : Old Z n0 h0) (P1 : Arv Z h0 a1 kz2 .byte (8 : Int32) [(.int (own_b0 (own_c p3))), (.int (own_b8 (own_c p3))), (.int (own_b0 (own_c p4))), (.int (own_b8 (own_c p4))), (.int (own_b0 (own_c p5))), (.int (own_b8 (own_c p5))), (.int (own_b0 (own_c p6))), (.int (own_b8 (own_c p6)))] (.int (0 : Int32))) :
    MM l mn19 jdk_52_method_15_code 2 (some .byte) (R4 0 0 0 0) #[(.ref a1), (.int (4 : Int32))] Z h0 (fun v h L => v = some (.int (1 : Int32)) ∧ Fr n0 L ∧ h = h0) := by
  refine own_hN n0 rfl pn_2 ?_
  intro p e s m below meth c s₁ hx b hml hret hZ hown hnm X0 e0 N0
  refine own_ct (mkF m 0 #[.val (.ref a1), .val (.int (4 : Int32))] []) rfl ?_
  refine g_iloadN X0 hx (b d15_0) rfl ?_
  refine g_aloadN X0 hx (b d15_1) rfl rfl ?_
  obtain ⟨cl1, Ar1, -, S1, M1, -, -⟩ := id P1
  refine Go.st (fun t k => X0.arraylength hx (by rw [e0]; exact Ar1.1) (State.isArrayOf_alike hZ.alike Ar1.2.1) (g := (mkF m 2 #[.val (.ref a1), .val (.int (4 : Int32))] [(.ref a1), (.int (4 : Int32))])) rfl rfl (b d15_2) t k) ?_
  rw [len_of S1 M1]
  refine g_isubZ X0 hx (-4 : Int32) (b d15_3) rfl ?_
  refine g_bipush X0 hx (31) (b d15_4) rfl ?_
  refine Go.st (fun t k => XS.iushr X0.here hx rfl (b d15_6) rfl k) ?_
  show Go p e below _ (s₁.setTop (mkF m 7 #[.val (.ref a1), .val (.int (4 : Int32))] [(.int (1 : Int32))]))
  refine g_i2bZ X0 hx (1 : Int32) (b d15_7) rfl ?_
  exact own_eB X0 hx hret (by simp) rfl (b d15_8) e0 (by decide) ⟨rfl, N0, rfl⟩
theorem rm4_8 (hw : HW Z a0) (a1 a2 : Addr) (p3 : Int32) (kz4 : ClassId) (p5 p6 p7 p8 : Int32) (O0 : Old Z n0 h0) (P1 : Sta Z Z.heap "java/lang/String" "COMPACT_STRINGS" "Z" (.int p3)) (P2 : ¬ (p3 = (0 : Int32))) (P3 : Arv Z h0 a2 kz4 .char (4 : Int32) [(.int (own_c p5)), (.int (own_c p6)), (.int (own_c p7)), (.int (own_c p8))] (.int (0 : Int32))) (P4 : ¬ ((own_c p5) < (0 : Int32))) (P5 : ¬ ((65535 : Int32) < (own_c p5))) (P6 : ¬ ((own_c p6) < (0 : Int32))) (P7 : ¬ ((65535 : Int32) < (own_c p6))) (P8 : ¬ ((own_c p7) < (0 : Int32))) (P9 : ¬ ((65535 : Int32) < (own_c p7))) (P10 : ¬ ((own_c p8) < (0 : Int32))) (P11 : ¬ ((65535 : Int32) < (own_c p8))) (P12 : (255 : Int32) < (own_mx (own_mx (own_mx (own_c p5) (own_c p6)) (own_c p7)) (own_c p8))) (P13 : Sta Z Z.heap "java/lang/StringUTF16" "$assertionsDisabled" "Z" (.int (1 : Int32))) (P14 : Sta Z Z.heap "java/lang/StringUTF16" "HI_BYTE_SHIFT" "I" (.int (0 : Int32))) (P15 : Sta Z Z.heap "java/lang/StringUTF16" "LO_BYTE_SHIFT" "I" (.int (8 : Int32))) (P16 : Exa Z h0 a1 "java/lang/String") (P17 : Fld Z h0 a1 "java/lang/String" "coder" "B" (.int (0 : Int32))) (P18 : n0 ≤ a1) (P19 : Fld Z h0 a1 "java/lang/String" "value" "[B" .null) :
    MM l mn14 jdk_42_method_149_code 6 none (R4 4 2 12 57) #[(.ref a1), (.ref a2), (.int (0 : Int32)), (.int (4 : Int32)), .null] Z h0 (fun v h L => ∃ (bo_3 : Addr) (ko_3 : ClassId), v = none ∧ Fr n0 L ∧ Keep h0 h [a1] ∧ h0.size ≤ bo_3 ∧ Fld Z h a1 "java/lang/String" "coder" "B" (.int (1 : Int32)) ∧ Fld Z h a1 "java/lang/String" "value" "[B" (.ref bo_3) ∧ Arv Z h bo_3 ko_3 .byte (8 : Int32) [(.int (own_b0 (own_c p5))), (.int (own_b8 (own_c p5))), (.int (own_b0 (own_c p6))), (.int (own_b8 (own_c p6))), (.int (own_b0 (own_c p7))), (.int (own_b8 (own_c p7))), (.int (own_b0 (own_c p8))), (.int (own_b8 (own_c p8)))] (.int (0 : Int32))) := by
  refine own_hN n0 rfl pn_3 ?_
  intro p e s m below meth c s₁ hx b hml hret hZ hown hnm X0 e0 N0
  refine own_ct (mkF m 0 #[.val (.ref a1), .val (.ref a2), .val (.int (0 : Int32)), .val (.int (4 : Int32)), .val .null, .unset] []) rfl ?_
  refine g_aloadN X0 hx (b d4_0) rfl rfl ?_
  obtain ⟨T1, X1, e1, st1⟩ := initO X0 hx hZ hown (w22 hw) (w23 hw) (w24 hw) e0 (g := (mkF m 1 #[.val (.ref a1), .val (.ref a2), .val (.int (0 : Int32)), .val (.int (4 : Int32)), .val .null, .unset] [(.ref a1)])) rfl (by rw [hml]; rfl) rfl (b d4_1) (by decide) (W := 0) (by show 2 * 0 + _ ≤ _; exact Nat.le_of_eq rfl) (by decide)
  refine Go.st st1 ?_
  show Go p e below _ (T1.setTop (mkF m 4 #[.val (.ref a1), .val (.ref a2), .val (.int (0 : Int32)), .val (.int (4 : Int32)), .val .null, .unset] []))
  refine g_iloadN X1 hx (b d4_4) rfl ?_
  refine g_ifYes X1 hx (pc := 5) 27 (b d4_5) (XT.i0_ne_t (by decide : ¬ ((4 : Int32) = (0 : Int32)))) (by decide) ?_
  obtain ⟨T2, X2, e2, st2⟩ := getS2 X1 hx hZ hown (host := "") (Or.inl (w42 hw)) Via.refl e1 (P1.ext O0.2) (g := (mkF m 27 #[.val (.ref a1), .val (.ref a2), .val (.int (0 : Int32)), .val (.int (4 : Int32)), .val .null, .unset] [])) rfl (b d4_27)
  refine Go.st st2 ?_
  refine g_ifNo X2 hx (b d4_30) (XT.i0_eq_f P2) ?_
  refine g_aloadN X2 hx (b d4_33) rfl rfl ?_
  refine g_iloadN X2 hx (b d4_34) rfl ?_
  refine g_iloadN X2 hx (b d4_35) rfl ?_
  refine own_cS X2 hx hZ hown (w43 hw) (w44 hw) (w45 hw) (w46 hw) (rmU4 hw a2 kz4 (own_c p5) (own_c p6) (own_c p7) (own_c p8) O0 P3 P4 P5 P6 P7 P8 P9 P10 P11 P12 P13 P14 P15) e2 0 (by decide) (by decide) (by rw [hml]; rfl) [(.ref a2), (.int (0 : Int32)), (.int (4 : Int32))] [] (lenOf pd_6 rfl) rfl rfl (Nat.le_of_eq rfl) (b d4_36) ?_
  rintro T3 _ L3 X3 ⟨bo_3, ko_3, rfl, M3, K3c, r3_0, r3_1⟩
  have N3 := Fr.app N0 M3
  have g_bo_3 : n0 ≤ bo_3 := Nat.le_trans (own_n0 O0) r3_0
  have s_bo_3 : h0.size ≤ bo_3 := Nat.le_trans (Keep.refl h0 [a1]).1 r3_0
  have O3 : Old Z n0 T3.heap := O0.keep K3c all0
  have K3 : Keep h0 T3.heap [a1] := (Keep.refl h0 [a1]).trans K3c all0
  refine g_astore X3 hx (b d4_39) rfl (l' := #[.val (.ref a1), .val (.ref a2), .val (.int (0 : Int32)), .val (.int (4 : Int32)), .val .null, .val (.ref bo_3)]) rfl ?_
  refine g_aloadN X3 hx (b d4_41) rfl rfl ?_
  refine g_aload X3 hx (b d4_42) rfl rfl ?_
  refine g_iloadN X3 hx (b d4_44) rfl ?_
  refine own_cS X3 hx hZ hown (w69 hw) (w70 hw) (w45 hw) (w71 hw) (rm15_7 hw bo_3 ko_3 p5 p6 p7 p8 O3 r3_1) rfl 1 (by decide) (by decide) (by rw [hml]; rfl) [(.ref bo_3), (.int (4 : Int32))] [(.ref a1)] (lenOf pd_14 rfl) rfl rfl (Nat.le_of_eq rfl) (b d4_45) ?_
  rintro T4 _ L4 X4 ⟨rfl, M4, eh4⟩
  have N4 := Fr.app N3 M4
  obtain ⟨T5, h5, X5, e5, W5, st5⟩ := putFN X4 hx hZ hown (w32 hw) Via.refl eh4 (P17.keep K3c nin0) (P16.keep K3c) (Or.inr ⟨(w28 hw), rfl, hnm⟩) (w12 hw) (ty := .byte) (v' := (.int (1 : Int32))) (by decide) rfl (by decide) (g := (mkF m 48 #[.val (.ref a1), .val (.ref a2), .val (.int (0 : Int32)), .val (.int (4 : Int32)), .val .null, .val (.ref bo_3)] [(.int (1 : Int32)), (.ref a1)])) rfl rfl (b d4_48)
  have F5 : Fld Z h5 a1 "java/lang/String" "coder" "B" (.int (1 : Int32)) := (P17.keep K3c nin0).same W5
  have N5 := Fr.snoc X5 N4 P18
  have O5 : Old Z n0 h5 := O3.wr W5 P18
  have K5 : Keep h0 h5 [a1] := K3.wr W5 (Or.inl (List.mem_of_getElem? (i := 0) rfl))
  refine Go.st st5 ?_
  refine g_aloadN X5 hx (b d4_51) rfl rfl ?_
  refine g_aload X5 hx (b d4_52) rfl rfl ?_
  have c6 := ((P19.keep K3c nin0).other W5 (Or.inr (slot_ne (Or.inr (w27 hw)) (Or.inr (w28 hw)) (by decide) (t := (.array .byte)) (t' := .byte) (by decide) (by decide))))
  obtain ⟨T7, h7, X7, e7, W7, st7⟩ := putF X5 hx hZ hown (host := "") (Or.inl (w31 hw)) Via.refl e5 c6 ((P16.keep K3c).wr W5) (Or.inr ⟨(w27 hw), rfl, hnm⟩) (w12 hw) (ty := (.array .byte)) (by decide) rfl rfl (g := (mkF m 54 #[.val (.ref a1), .val (.ref a2), .val (.int (0 : Int32)), .val (.int (4 : Int32)), .val .null, .val (.ref bo_3)] [(.ref bo_3), (.ref a1)])) rfl rfl (b d4_54)
  have F7 : Fld Z h7 a1 "java/lang/String" "value" "[B" (.ref bo_3) := c6.same W7
  have N7 := Fr.snoc X7 N5 P18
  have O7 : Old Z n0 h7 := O5.wr W7 P18
  have K7 : Keep h0 h7 [a1] := K5.wr W7 (Or.inl (List.mem_of_getElem? (i := 0) rfl))
  refine Go.st st7 ?_
  have c8 := (F5.other W7 (Or.inr (slot_ne (Or.inr (w28 hw)) (Or.inr (w27 hw)) (by decide) (t := .byte) (t' := (.array .byte)) (by decide) (by decide))))
  have c9 := ((r3_1.other W5 (Ne.symm (Nat.ne_of_lt (Nat.lt_of_lt_of_le P16.lt r3_0)))).other W7 (Ne.symm (Nat.ne_of_lt (Nat.lt_of_lt_of_le P16.lt r3_0))))
  exact own_eV X7 hx hret (b d4_57) e7 (by decide) ⟨bo_3, ko_3, rfl, N7, K7, s_bo_3, c8, F7, c9⟩
theorem rm3_8 (hw : HW Z a0) (a1 a2 : Addr) (kz3 : ClassId) (p4 p5 p6 p7 p8 : Int32) (O0 : Old Z n0 h0) (P1 : Arv Z h0 a2 kz3 .char (4 : Int32) [(.int (own_c p4)), (.int (own_c p5)), (.int (own_c p6)), (.int (own_c p7))] (.int (0 : Int32))) (P2 : Sta Z Z.heap "java/lang/String" "COMPACT_STRINGS" "Z" (.int p8)) (P3 : ¬ (p8 = (0 : Int32))) (P4 : ¬ ((own_c p4) < (0 : Int32))) (P5 : ¬ ((65535 : Int32) < (own_c p4))) (P6 : ¬ ((own_c p5) < (0 : Int32))) (P7 : ¬ ((65535 : Int32) < (own_c p5))) (P8 : ¬ ((own_c p6) < (0 : Int32))) (P9 : ¬ ((65535 : Int32) < (own_c p6))) (P10 : ¬ ((own_c p7) < (0 : Int32))) (P11 : ¬ ((65535 : Int32) < (own_c p7))) (P12 : (255 : Int32) < (own_mx (own_mx (own_mx (own_c p4) (own_c p5)) (own_c p6)) (own_c p7))) (P13 : Sta Z Z.heap "java/lang/StringUTF16" "$assertionsDisabled" "Z" (.int (1 : Int32))) (P14 : Sta Z Z.heap "java/lang/StringUTF16" "HI_BYTE_SHIFT" "I" (.int (0 : Int32))) (P15 : Sta Z Z.heap "java/lang/StringUTF16" "LO_BYTE_SHIFT" "I" (.int (8 : Int32))) (P16 : Exa Z h0 a1 "java/lang/String") (P17 : Fld Z h0 a1 "java/lang/String" "coder" "B" (.int (0 : Int32))) (P18 : n0 ≤ a1) (P19 : Fld Z h0 a1 "java/lang/String" "value" "[B" .null) :
    MM l mn15 jdk_42_method_3_code 2 none (R4 5 2 12 74) #[(.ref a1), (.ref a2)] Z h0 (fun v h L => ∃ (bo_3_2 : Addr) (ko_3_2 : ClassId), v = none ∧ Fr n0 L ∧ Keep h0 h [a1] ∧ h0.size ≤ bo_3_2 ∧ Fld Z h a1 "java/lang/String" "coder" "B" (.int (1 : Int32)) ∧ Fld Z h a1 "java/lang/String" "value" "[B" (.ref bo_3_2) ∧ Arv Z h bo_3_2 ko_3_2 .byte (8 : Int32) [(.int (own_b0 (own_c p4))), (.int (own_b8 (own_c p4))), (.int (own_b0 (own_c p5))), (.int (own_b8 (own_c p5))), (.int (own_b0 (own_c p6))), (.int (own_b8 (own_c p6))), (.int (own_b0 (own_c p7))), (.int (own_b8 (own_c p7)))] (.int (0 : Int32))) := by
  refine own_hN n0 rfl pn_3 ?_
  intro p e s m below meth c s₁ hx b hml hret hZ hown hnm X0 e0 N0
  refine own_ct (mkF m 0 #[.val (.ref a1), .val (.ref a2)] []) rfl ?_
  refine g_aloadN X0 hx (b d3_0) rfl rfl ?_
  refine g_aloadN X0 hx (b d3_1) rfl rfl ?_
  refine g_iconst X0 hx (0) (b d3_2) rfl ?_
  refine g_aloadN X0 hx (b d3_3) rfl rfl ?_
  obtain ⟨cl1, Ar1, -, S1, M1, -, -⟩ := id P1
  refine Go.st (fun t k => X0.arraylength hx (by rw [e0]; exact Ar1.1) (State.isArrayOf_alike hZ.alike Ar1.2.1) (g := (mkF m 4 #[.val (.ref a1), .val (.ref a2)] [(.ref a2), (.int (0 : Int32)), (.ref a2), (.ref a1)])) rfl rfl (b d3_4) t k) ?_
  rw [len_of S1 M1]
  refine g_aconstNull X0 hx (b d3_5) ?_
  refine own_cI X0 hx hZ hown (w18 hw) rfl (w19 hw) (w13 hw) (w21 hw) (rm4_8 hw a1 a2 p8 kz3 p4 p5 p6 p7 O0 P2 P3 P1 P4 P5 P6 P7 P8 P9 P10 P11 P12 P13 P14 P15 P16 P17 P18 P19) e0 0 (by decide) (by decide) (by rw [hml]; rfl) a1 [(.ref a2), (.int (0 : Int32)), (.int (4 : Int32)), .null] [] (lenOf pd_9 rfl) rfl rfl (Nat.le_of_eq rfl) (b d3_6) ?_
  rintro T2 _ L2 X2 ⟨bo_3_2, ko_3_2, rfl, M2, K2c, r2_0, r2_1, r2_2, r2_3⟩
  have N2 := Fr.app N0 M2
  have g_bo_3_2 : n0 ≤ bo_3_2 := Nat.le_trans (own_n0 O0) r2_0
  have s_bo_3_2 : h0.size ≤ bo_3_2 := Nat.le_trans (Keep.refl h0 [a1]).1 r2_0
  have O2 : Old Z n0 T2.heap := O0.keep K2c (allS P18 all0)
  have K2 : Keep h0 T2.heap [a1] := (Keep.refl h0 [a1]).trans K2c (allS (Or.inl (List.mem_of_getElem? (i := 0) rfl)) all0)
  exact own_eV X2 hx hret (b d3_9) rfl (by decide) ⟨bo_3_2, ko_3_2, rfl, N2, K2, s_bo_3_2, r2_1, r2_2, r2_3⟩
theorem rm2_8 (hw : HW Z a0) (p1 p2 p3 p4 p5 : Int32) (O0 : Old Z n0 h0) (P1 : Sta Z Z.heap "java/lang/String" "COMPACT_STRINGS" "Z" (.int p5)) (P2 : ¬ (p5 = (0 : Int32))) (P3 : ¬ ((own_c p1) < (0 : Int32))) (P4 : ¬ ((65535 : Int32) < (own_c p1))) (P5 : ¬ ((own_c p2) < (0 : Int32))) (P6 : ¬ ((65535 : Int32) < (own_c p2))) (P7 : ¬ ((own_c p3) < (0 : Int32))) (P8 : ¬ ((65535 : Int32) < (own_c p3))) (P9 : ¬ ((own_c p4) < (0 : Int32))) (P10 : ¬ ((65535 : Int32) < (own_c p4))) (P11 : (255 : Int32) < (own_mx (own_mx (own_mx (own_c p1) (own_c p2)) (own_c p3)) (own_c p4))) (P12 : Sta Z Z.heap "java/lang/StringUTF16" "$assertionsDisabled" "Z" (.int (1 : Int32))) (P13 : Sta Z Z.heap "java/lang/StringUTF16" "HI_BYTE_SHIFT" "I" (.int (0 : Int32))) (P14 : Sta Z Z.heap "java/lang/StringUTF16" "LO_BYTE_SHIFT" "I" (.int (8 : Int32))) :
    MM l mn16 method_6_code 6 (some (.object "java/lang/String")) (R4 6 4 20 88) #[(.int (4 : Int32)), (.int p1), (.int p2), (.int p3), (.int p4)] Z h0 (fun v h L => ∃ (b6 bo_3_2_7 : Addr) (ko_3_2_7 : ClassId), v = some (.ref b6) ∧ Fr n0 L ∧ Keep h0 h [] ∧ h0.size ≤ b6 ∧ h0.size ≤ bo_3_2_7 ∧ b6 ≠ bo_3_2_7 ∧ Exa Z h b6 "java/lang/String" ∧ Fld Z h b6 "java/lang/String" "value" "[B" (.ref bo_3_2_7) ∧ Fld Z h b6 "java/lang/String" "coder" "B" (.int (1 : Int32)) ∧ Arv Z h bo_3_2_7 ko_3_2_7 .byte (8 : Int32) [(.int (own_b0 (own_c p1))), (.int (own_b8 (own_c p1))), (.int (own_b0 (own_c p2))), (.int (own_b8 (own_c p2))), (.int (own_b0 (own_c p3))), (.int (own_b8 (own_c p3))), (.int (own_b0 (own_c p4))), (.int (own_b8 (own_c p4)))] (.int (0 : Int32))) := by
  refine own_hN n0 rfl pn_0 ?_
  intro p e s m below meth c s₁ hx b hml hret hZ hown hnm X0 e0 N0
  refine own_ct (mkF m 0 #[.val (.int (4 : Int32)), .val (.int p1), .val (.int p2), .val (.int p3), .val (.int p4), .unset] []) rfl ?_
  refine g_iloadN X0 hx (b d2_0) rfl ?_
  refine g_ifYes X0 hx (pc := 1) 15 (b d2_1) (XT.i0_ne_t (by decide : ¬ ((4 : Int32) = (0 : Int32)))) (by decide) ?_
  refine g_iloadN X0 hx (b d2_15) rfl ?_
  refine g_iconst X0 hx (1) (b d2_16) rfl ?_
  refine g_icmpYes X0 hx (pc := 17) 40 (b d2_17) (XT.ii_ne_t (by decide : ¬ ((4 : Int32) = (1 : Int32)))) (by decide) ?_
  refine g_iloadN X0 hx (b d2_40) rfl ?_
  refine g_iconst X0 hx (2) (b d2_41) rfl ?_
  refine g_icmpYes X0 hx (pc := 42) 70 (b d2_42) (XT.ii_ne_t (by decide : ¬ ((4 : Int32) = (2 : Int32)))) (by decide) ?_
  refine g_iloadN X0 hx (b d2_70) rfl ?_
  refine g_iconst X0 hx (3) (b d2_71) rfl ?_
  refine g_icmpYes X0 hx (pc := 72) 105 (b d2_72) (XT.ii_ne_t (by decide : ¬ ((4 : Int32) = (3 : Int32)))) (by decide) ?_
  refine g_iconst X0 hx (4) (b d2_105) rfl ?_
  obtain ⟨T1, h1, k1, X1, e1, E1, A1, st1⟩ := newP X0 hx hZ (aty := .char) (w14 hw) e0 (g := (mkF m 106 #[.val (.int (4 : Int32)), .val (.int p1), .val (.int p2), .val (.int p3), .val (.int p4), .unset] [(.int (4 : Int32))])) rfl (b d2_106) rfl (by decide) (cap := 4) (by decide) (by decide) (by decide) (by decide)
  obtain ⟨b1, z1⟩ : ∃ z, z = h0.size := ⟨_, rfl⟩
  rw [← z1] at A1 st1
  have g_b1 : n0 ≤ b1 := Nat.le_trans (own_n0 O0) (Nat.le_of_eq z1.symm)
  have s_b1 : h0.size ≤ b1 := Nat.le_trans (Keep.refl h0 []).1 (Nat.le_of_eq z1.symm)
  have V1 : Arv Z h1 b1 k1 .char (4 : Int32) [(.int (0 : Int32)), (.int (0 : Int32)), (.int (0 : Int32)), (.int (0 : Int32))] (.int (0 : Int32)) := (Arv.new A1 (by decide)).pad (pad_rep [] (.int (0 : Int32)) 4)
  have O1 : Old Z n0 h1 := O0.ext E1
  have K1 : Keep h0 h1 [] := (Keep.refl h0 []).ext E1
  refine Go.st st1 ?_
  refine g_astore X1 hx (b d2_108) rfl (l' := #[.val (.int (4 : Int32)), .val (.int p1), .val (.int p2), .val (.int p3), .val (.int p4), .val (.ref b1)]) rfl ?_
  refine g_aload X1 hx (b d2_110) rfl rfl ?_
  refine g_iconst X1 hx (0) (b d2_112) rfl ?_
  refine g_iloadN X1 hx (b d2_113) rfl ?_
  obtain ⟨cl2, Ar2, q2, S2, M2, H2, G2⟩ := id V1
  have hin2 : ¬ ((0 : Int32) < 0 ∨ cl2.slots.size ≤ ((0 : Int32)).toNatClampNeg) := inb_of S2 ⟨by decide, by decide⟩
  obtain ⟨T2, h2, X2, e2, W2, st2⟩ := stC X1 hx hZ e1 Ar2 (j := (0 : Int32)) hin2 (g := (mkF m 114 #[.val (.int (4 : Int32)), .val (.int p1), .val (.int p2), .val (.int p3), .val (.int p4), .val (.ref b1)] [(.int p1), (.int (0 : Int32)), (.ref b1)])) rfl rfl (b d2_114)
  have V2 : Arv Z h2 b1 k1 .char (4 : Int32) [(.int (own_c p1)), (.int (0 : Int32)), (.int (0 : Int32)), (.int (0 : Int32))] (.int (0 : Int32)) := Arv.set Ar2 q2 S2 M2 H2 G2 (fits_nar_char _) W2 0 rfl (Nat.le_of_ble_eq_true rfl)
  have N2 := Fr.snoc X2 N0 g_b1
  have O2 : Old Z n0 h2 := O1.wr W2 g_b1
  have K2 : Keep h0 h2 [] := K1.wr W2 (Or.inr s_b1)
  refine Go.st st2 ?_
  refine g_aload X2 hx (b d2_115) rfl rfl ?_
  refine g_iconst X2 hx (1) (b d2_117) rfl ?_
  refine g_iloadN X2 hx (b d2_118) rfl ?_
  obtain ⟨cl3, Ar3, q3, S3, M3, H3, G3⟩ := id V2
  have hin3 : ¬ ((1 : Int32) < 0 ∨ cl3.slots.size ≤ ((1 : Int32)).toNatClampNeg) := inb_of S3 ⟨by decide, by decide⟩
  obtain ⟨T3, h3, X3, e3, W3, st3⟩ := stC X2 hx hZ e2 Ar3 (j := (1 : Int32)) hin3 (g := (mkF m 119 #[.val (.int (4 : Int32)), .val (.int p1), .val (.int p2), .val (.int p3), .val (.int p4), .val (.ref b1)] [(.int p2), (.int (1 : Int32)), (.ref b1)])) rfl rfl (b d2_119)
  have V3 : Arv Z h3 b1 k1 .char (4 : Int32) [(.int (own_c p1)), (.int (own_c p2)), (.int (0 : Int32)), (.int (0 : Int32))] (.int (0 : Int32)) := Arv.set Ar3 q3 S3 M3 H3 G3 (fits_nar_char _) W3 1 rfl (Nat.le_of_ble_eq_true rfl)
  have N3 := Fr.snoc X3 N2 g_b1
  have O3 : Old Z n0 h3 := O2.wr W3 g_b1
  have K3 : Keep h0 h3 [] := K2.wr W3 (Or.inr s_b1)
  refine Go.st st3 ?_
  refine g_aload X3 hx (b d2_120) rfl rfl ?_
  refine g_iconst X3 hx (2) (b d2_122) rfl ?_
  refine g_iloadN X3 hx (b d2_123) rfl ?_
  obtain ⟨cl4, Ar4, q4, S4, M4, H4, G4⟩ := id V3
  have hin4 : ¬ ((2 : Int32) < 0 ∨ cl4.slots.size ≤ ((2 : Int32)).toNatClampNeg) := inb_of S4 ⟨by decide, by decide⟩
  obtain ⟨T4, h4, X4, e4, W4, st4⟩ := stC X3 hx hZ e3 Ar4 (j := (2 : Int32)) hin4 (g := (mkF m 124 #[.val (.int (4 : Int32)), .val (.int p1), .val (.int p2), .val (.int p3), .val (.int p4), .val (.ref b1)] [(.int p3), (.int (2 : Int32)), (.ref b1)])) rfl rfl (b d2_124)
  have V4 : Arv Z h4 b1 k1 .char (4 : Int32) [(.int (own_c p1)), (.int (own_c p2)), (.int (own_c p3)), (.int (0 : Int32))] (.int (0 : Int32)) := Arv.set Ar4 q4 S4 M4 H4 G4 (fits_nar_char _) W4 2 rfl (Nat.le_of_ble_eq_true rfl)
  have N4 := Fr.snoc X4 N3 g_b1
  have O4 : Old Z n0 h4 := O3.wr W4 g_b1
  have K4 : Keep h0 h4 [] := K3.wr W4 (Or.inr s_b1)
  refine Go.st st4 ?_
  refine g_aload X4 hx (b d2_125) rfl rfl ?_
  refine g_iconst X4 hx (3) (b d2_127) rfl ?_
  refine g_iload X4 hx (b d2_128) rfl ?_
  obtain ⟨cl5, Ar5, q5, S5, M5, H5, G5⟩ := id V4
  have hin5 : ¬ ((3 : Int32) < 0 ∨ cl5.slots.size ≤ ((3 : Int32)).toNatClampNeg) := inb_of S5 ⟨by decide, by decide⟩
  obtain ⟨T5, h5, X5, e5, W5, st5⟩ := stC X4 hx hZ e4 Ar5 (j := (3 : Int32)) hin5 (g := (mkF m 130 #[.val (.int (4 : Int32)), .val (.int p1), .val (.int p2), .val (.int p3), .val (.int p4), .val (.ref b1)] [(.int p4), (.int (3 : Int32)), (.ref b1)])) rfl rfl (b d2_130)
  have V5 : Arv Z h5 b1 k1 .char (4 : Int32) [(.int (own_c p1)), (.int (own_c p2)), (.int (own_c p3)), (.int (own_c p4))] (.int (0 : Int32)) := Arv.set Ar5 q5 S5 M5 H5 G5 (fits_nar_char _) W5 3 rfl (Nat.le_of_ble_eq_true rfl)
  have N5 := Fr.snoc X5 N4 g_b1
  have O5 : Old Z n0 h5 := O4.wr W5 g_b1
  have K5 : Keep h0 h5 [] := K4.wr W5 (Or.inr s_b1)
  refine Go.st st5 ?_
  obtain ⟨T6, h6, X6, e6, E6, A6, D6, -, st6⟩ := newO X5 hx hZ hown (w11 hw) (w12 hw) (w13 hw) e5 (g := (mkF m 131 #[.val (.int (4 : Int32)), .val (.int p1), .val (.int p2), .val (.int p3), .val (.int p4), .val (.ref b1)] [])) rfl (b d2_131) (by decide) (by decide)
  obtain ⟨b6, z6⟩ : ∃ z, z = h5.size := ⟨_, rfl⟩
  rw [← z6] at A6 D6 st6
  have g_b6 : n0 ≤ b6 := Nat.le_trans (own_n0 O5) (Nat.le_of_eq z6.symm)
  have s_b6 : h0.size ≤ b6 := Nat.le_trans K5.1 (Nat.le_of_eq z6.symm)
  have O6 : Old Z n0 h6 := O5.ext E6
  have K6 : Keep h0 h6 [] := K5.ext E6
  have f6_27 : Fld Z h6 b6 "java/lang/String" "value" "[B" .null := D6 (Or.inr (w27 hw)) (ty := (.array .byte)) (by decide)
  have f6_28 : Fld Z h6 b6 "java/lang/String" "coder" "B" (.int (0 : Int32)) := D6 (Or.inr (w28 hw)) (ty := .byte) (by decide)
  refine Go.st st6 ?_
  refine Go.st (fun t k => XS.dup X6.here hx rfl (b d2_134) rfl rfl k) ?_
  refine g_aload X6 hx (b d2_135) rfl rfl ?_
  refine own_cI X6 hx hZ hown (w15 hw) rfl (w16 hw) (w13 hw) (w17 hw) (rm3_8 hw b6 b1 k1 p1 p2 p3 p4 p5 O6 (V5.ext E6) P1 P2 P3 P4 P5 P6 P7 P8 P9 P10 P11 P12 P13 P14 A6 f6_28 g_b6 f6_27) e6 1 (by decide) (by decide) (by rw [hml]; rfl) b6 [(.ref b1)] [(.ref b6)] (lenOf pd_10 rfl) rfl rfl (Nat.le_of_eq rfl) (b d2_137) ?_
  rintro T7 _ L7 X7 ⟨bo_3_2_7, ko_3_2_7, rfl, M7, K7c, r7_0, r7_1, r7_2, r7_3⟩
  have N7 := Fr.app N5 M7
  have g_bo_3_2_7 : n0 ≤ bo_3_2_7 := Nat.le_trans (own_n0 O6) r7_0
  have s_bo_3_2_7 : h0.size ≤ bo_3_2_7 := Nat.le_trans K6.1 r7_0
  have O7 : Old Z n0 T7.heap := O6.keep K7c (allS g_b6 all0)
  have K7 : Keep h0 T7.heap [] := K6.trans K7c (allS (Or.inr s_b6) all0)
  exact own_eA X7 hx hret rfl rfl (b d2_140) rfl (by decide) ⟨b6, bo_3_2_7, ko_3_2_7, rfl, N7, K7, s_b6, s_bo_3_2_7, (Nat.ne_of_lt (Nat.lt_of_lt_of_le A6.lt r7_0)), (A6.keep K7c), r7_2, r7_1, r7_3⟩
theorem rm7_8 (hw : HW Z a0) (a1 a2 : Addr) (kz3 : ClassId) (p4 p5 p6 p7 : Int32) (O0 : Old Z n0 h0) (P1 : Fld Z h0 a1 "java/lang/String" "value" "[B" (.ref a2)) (P2 : Arv Z h0 a2 kz3 .byte (8 : Int32) [(.int (own_b0 (own_c p4))), (.int (own_b8 (own_c p4))), (.int (own_b0 (own_c p5))), (.int (own_b8 (own_c p5))), (.int (own_b0 (own_c p6))), (.int (own_b8 (own_c p6))), (.int (own_b0 (own_c p7))), (.int (own_b8 (own_c p7)))] (.int (0 : Int32))) :
    MM l mn17 jdk_42_method_55_code 1 (some .boolean) (R4 0 0 0 0) #[(.ref a1)] Z h0 (fun v h L => v = some (.int (0 : Int32)) ∧ Fr n0 L ∧ h = h0) := by
  refine own_hN n0 rfl pn_3 ?_
  intro p e s m below meth c s₁ hx b hml hret hZ hown hnm X0 e0 N0
  refine own_ct (mkF m 0 #[.val (.ref a1)] []) rfl ?_
  refine g_aloadN X0 hx (b d7_0) rfl rfl ?_
  obtain ⟨T1, X1, e1, st1⟩ := getF X0 hx hZ hown (host := "") (Or.inl (w31 hw)) Via.refl e0 P1 (g := (mkF m 1 #[.val (.ref a1)] [(.ref a1)])) rfl rfl (b d7_1)
  refine Go.st st1 ?_
  obtain ⟨cl2, Ar2, -, S2, M2, -, -⟩ := id P2
  refine Go.st (fun t k => X1.arraylength hx (by rw [e1]; exact Ar2.1) (State.isArrayOf_alike hZ.alike Ar2.2.1) (g := (mkF m 4 #[.val (.ref a1)] [(.ref a2)])) rfl rfl (b d7_4) t k) ?_
  rw [len_of S2 M2]
  refine g_ifYes X1 hx (pc := 5) 12 (b d7_5) (XT.i0_ne_t (by decide : ¬ ((8 : Int32) = (0 : Int32)))) (by decide) ?_
  refine g_iconst X1 hx (0) (b d7_12) rfl ?_
  exact own_eB X1 hx hret (by simp) rfl (b d7_13) e1 (by decide) ⟨rfl, N0, rfl⟩
theorem rm16_7 (hw : HW Z a0) (a1 a2 : Addr) (kz3 : ClassId) (p4 p5 p6 p7 p8 : Int32) (O0 : Old Z n0 h0) (P1 : Fld Z h0 a1 "java/lang/String" "value" "[B" (.ref a2)) (P2 : Arv Z h0 a2 kz3 .byte (8 : Int32) [(.int (own_b0 (own_c p4))), (.int (own_b8 (own_c p4))), (.int (own_b0 (own_c p5))), (.int (own_b8 (own_c p5))), (.int (own_b0 (own_c p6))), (.int (own_b8 (own_c p6))), (.int (own_b0 (own_c p7))), (.int (own_b8 (own_c p7)))] (.int (0 : Int32))) (P3 : Exa Z h0 a1 "java/lang/String") (P4 : Sta Z Z.heap "java/lang/String" "COMPACT_STRINGS" "Z" (.int p8)) (P5 : ¬ (p8 = (0 : Int32))) (P6 : Fld Z h0 a1 "java/lang/String" "coder" "B" (.int (1 : Int32))) :
    MM l mn21 jdk_42_method_54_code 1 (some .int) (R4 1 0 0 13) #[(.ref a1)] Z h0 (fun v h L => v = some (.int (4 : Int32)) ∧ Fr n0 L ∧ h = h0) := by
  refine own_hN n0 rfl pn_3 ?_
  intro p e s m below meth c s₁ hx b hml hret hZ hown hnm X0 e0 N0
  refine own_ct (mkF m 0 #[.val (.ref a1)] []) rfl ?_
  refine g_aloadN X0 hx (b d16_0) rfl rfl ?_
  obtain ⟨T1, X1, e1, st1⟩ := getF X0 hx hZ hown (host := "") (Or.inl (w31 hw)) Via.refl e0 P1 (g := (mkF m 1 #[.val (.ref a1)] [(.ref a1)])) rfl rfl (b d16_1)
  refine Go.st st1 ?_
  obtain ⟨cl2, Ar2, -, S2, M2, -, -⟩ := id P2
  refine Go.st (fun t k => X1.arraylength hx (by rw [e1]; exact Ar2.1) (State.isArrayOf_alike hZ.alike Ar2.2.1) (g := (mkF m 4 #[.val (.ref a1)] [(.ref a2)])) rfl rfl (b d16_4) t k) ?_
  rw [len_of S2 M2]
  refine g_aloadN X1 hx (b d16_5) rfl rfl ?_
  refine own_cV X1 hx hZ hown (w77 hw) (w78 hw) (notFace_of_selects (args := #[]) (mvT hZ (w80 hw))) (w80 hw) (w79 hw) (w13 hw) (w81 hw) (rm17_1 hw a1 p8 O0 P4 P5 P6) e1 1 (by decide) (by decide) (by rw [hml]; rfl) P3 [] [(.int (8 : Int32))] (lenOf pd_15 rfl) rfl rfl (Nat.le_of_eq rfl) (b d16_6) ?_
  rintro T3 _ L3 X3 ⟨rfl, M3, eh3⟩
  have N3 := Fr.app N0 M3
  refine g_ishrZ X3 hx (4 : Int32) (b d16_9) rfl ?_
  exact own_eI X3 hx hret (b d16_10) eh3 (by decide) ⟨rfl, N3, rfl⟩
theorem rm20_4 (hw : HW Z a0)  (O0 : Old Z n0 h0) :
    MM l mn22 jdk_41_method_12_code 4 (some .int) (R4 0 0 0 0) #[(.int (0 : Int32)), (.int (4 : Int32)), (.int (4 : Int32)), .null] Z h0 (fun v h L => v = some (.int (0 : Int32)) ∧ Fr n0 L ∧ h = h0) := by
  refine own_hN n0 rfl pn_5 ?_
  intro p e s m below meth c s₁ hx b hml hret hZ hown hnm X0 e0 N0
  refine own_ct (mkF m 0 #[.val (.int (0 : Int32)), .val (.int (4 : Int32)), .val (.int (4 : Int32)), .val .null] []) rfl ?_
  refine g_iloadN X0 hx (b d20_0) rfl ?_
  refine g_ifNo X0 hx (b d20_1) (XT.i0_lt_f (by decide : ¬ ((0 : Int32) < (0 : Int32)))) ?_
  refine g_iloadN X0 hx (b d20_4) rfl ?_
  refine g_iloadN X0 hx (b d20_5) rfl ?_
  refine g_icmpNo X0 hx (b d20_6) (XT.ii_gt_f (by decide : ¬ ((4 : Int32) < (0 : Int32)))) ?_
  refine g_iloadN X0 hx (b d20_9) rfl ?_
  refine g_iloadN X0 hx (b d20_10) rfl ?_
  refine g_icmpYes X0 hx (pc := 11) 22 (b d20_11) (XT.ii_le_t (by decide : ¬ ((4 : Int32) < (4 : Int32)))) (by decide) ?_
  refine g_iloadN X0 hx (b d20_22) rfl ?_
  exact own_eI X0 hx hret (b d20_23) e0 (by decide) ⟨rfl, N0, rfl⟩
theorem rm19_4 (hw : HW Z a0)  (O0 : Old Z n0 h0) :
    MM l mn23 jdk_31_method_18_code 3 (some .int) (R4 1 0 0 15) #[(.int (0 : Int32)), (.int (4 : Int32)), (.int (4 : Int32))] Z h0 (fun v h L => v = some (.int (0 : Int32)) ∧ Fr n0 L ∧ h = h0) := by
  refine own_hN n0 rfl pn_6 ?_
  intro p e s m below meth c s₁ hx b hml hret hZ hown hnm X0 e0 N0
  refine own_ct (mkF m 0 #[.val (.int (0 : Int32)), .val (.int (4 : Int32)), .val (.int (4 : Int32))] []) rfl ?_
  refine g_iloadN X0 hx (b d19_0) rfl ?_
  refine g_iloadN X0 hx (b d19_1) rfl ?_
  refine g_iloadN X0 hx (b d19_2) rfl ?_
  refine g_aconstNull X0 hx (b d19_3) ?_
  refine own_cS X0 hx hZ hown (w92 hw) (w93 hw) (w94 hw) (w95 hw) (rm20_4 hw O0) e0 0 (by decide) (by decide) (by rw [hml]; rfl) [(.int (0 : Int32)), (.int (4 : Int32)), (.int (4 : Int32)), .null] [] (lenOf pd_17 rfl) rfl rfl (Nat.le_of_eq rfl) (b d19_4) ?_
  rintro T1 _ L1 X1 ⟨rfl, M1, eh1⟩
  have N1 := Fr.app N0 M1
  exact own_eI X1 hx hret (b d19_7) eh1 (by decide) ⟨rfl, N1, rfl⟩
theorem rm22_4 (hw : HW Z a0) (a1 : Addr) (kz2 : ClassId) (p3 p4 p5 p6 : Int32) (O0 : Old Z n0 h0) (P1 : Arv Z h0 a1 kz2 .byte (8 : Int32) [(.int (own_b0 (own_c p3))), (.int (own_b8 (own_c p3))), (.int (own_b0 (own_c p4))), (.int (own_b8 (own_c p4))), (.int (own_b0 (own_c p5))), (.int (own_b8 (own_c p5))), (.int (own_b0 (own_c p6))), (.int (own_b8 (own_c p6)))] (.int (0 : Int32))) (P2 : ¬ ((own_c p3) < (0 : Int32))) (P3 : ¬ ((65535 : Int32) < (own_c p3))) (P4 : ¬ ((own_c p4) < (0 : Int32))) (P5 : ¬ ((65535 : Int32) < (own_c p4))) (P6 : ¬ ((own_c p5) < (0 : Int32))) (P7 : ¬ ((65535 : Int32) < (own_c p5))) (P8 : ¬ ((own_c p6) < (0 : Int32))) (P9 : ¬ ((65535 : Int32) < (own_c p6))) (P10 : Sta Z Z.heap "java/lang/StringUTF16" "$assertionsDisabled" "Z" (.int (1 : Int32))) (P11 : Sta Z Z.heap "java/lang/StringUTF16" "HI_BYTE_SHIFT" "I" (.int (0 : Int32))) (P12 : Sta Z Z.heap "java/lang/StringUTF16" "LO_BYTE_SHIFT" "I" (.int (8 : Int32))) :
    MM l mn25 jdk_52_method_12_code 3 (some .int) (R4 2 0 0 30) #[(.ref a1), (.int (0 : Int32)), (.int (4 : Int32))] Z h0 (fun v h L => v = some (.int ((((4 : Int32) - (own_pr (own_c p3) (own_c p4))) - (own_pr (own_c p4) (own_c p5))) - (own_pr (own_c p5) (own_c p6)))) ∧ Fr n0 L ∧ h = h0) := by
  refine own_hN n0 rfl pn_2 ?_
  intro p e s m below meth c s₁ hx b hml hret hZ hown hnm X0 e0 N0
  refine own_ct (mkF m 0 #[.val (.ref a1), .val (.int (0 : Int32)), .val (.int (4 : Int32))] []) rfl ?_
  refine g_aloadN X0 hx (b d22_0) rfl rfl ?_
  refine g_iloadN X0 hx (b d22_1) rfl ?_
  refine g_iloadN X0 hx (b d22_2) rfl ?_
  refine g_iconst X0 hx (0) (b d22_3) rfl ?_
  refine own_cS X0 hx hZ hown (w104 hw) (w105 hw) (w45 hw) (w106 hw) (rmC4 hw a1 kz2 (own_c p3) (own_c p4) (own_c p5) (own_c p6) O0 P1 P2 P3 P4 P5 P6 P7 P8 P9 P10 P11 P12) e0 0 (by decide) (by decide) (by rw [hml]; rfl) [(.ref a1), (.int (0 : Int32)), (.int (4 : Int32)), (.int (0 : Int32))] [] (lenOf pd_19 rfl) rfl rfl (Nat.le_of_eq rfl) (b d22_4) ?_
  rintro T1 _ L1 X1 ⟨rfl, M1, eh1⟩
  have N1 := Fr.app N0 M1
  exact own_eI X1 hx hret (b d22_7) eh1 (by decide) ⟨rfl, N1, rfl⟩
theorem rm18_7 (hw : HW Z a0) (a1 a2 : Addr) (kz3 : ClassId) (p4 p5 p6 p7 p8 : Int32) (O0 : Old Z n0 h0) (P1 : Exa Z h0 a1 "java/lang/String") (P2 : Fld Z h0 a1 "java/lang/String" "value" "[B" (.ref a2)) (P3 : Arv Z h0 a2 kz3 .byte (8 : Int32) [(.int (own_b0 (own_c p4))), (.int (own_b8 (own_c p4))), (.int (own_b0 (own_c p5))), (.int (own_b8 (own_c p5))), (.int (own_b0 (own_c p6))), (.int (own_b8 (own_c p6))), (.int (own_b0 (own_c p7))), (.int (own_b8 (own_c p7)))] (.int (0 : Int32))) (P4 : Sta Z Z.heap "java/lang/String" "COMPACT_STRINGS" "Z" (.int p8)) (P5 : ¬ (p8 = (0 : Int32))) (P6 : Fld Z h0 a1 "java/lang/String" "coder" "B" (.int (1 : Int32))) (P7 : ¬ ((own_c p4) < (0 : Int32))) (P8 : ¬ ((65535 : Int32) < (own_c p4))) (P9 : ¬ ((own_c p5) < (0 : Int32))) (P10 : ¬ ((65535 : Int32) < (own_c p5))) (P11 : ¬ ((own_c p6) < (0 : Int32))) (P12 : ¬ ((65535 : Int32) < (own_c p6))) (P13 : ¬ ((own_c p7) < (0 : Int32))) (P14 : ¬ ((65535 : Int32) < (own_c p7))) (P15 : Sta Z Z.heap "java/lang/StringUTF16" "$assertionsDisabled" "Z" (.int (1 : Int32))) (P16 : Sta Z Z.heap "java/lang/StringUTF16" "HI_BYTE_SHIFT" "I" (.int (0 : Int32))) (P17 : Sta Z Z.heap "java/lang/StringUTF16" "LO_BYTE_SHIFT" "I" (.int (8 : Int32))) :
    MM l mn26 jdk_42_method_59_code 3 (some .int) (R4 3 0 0 44) #[(.ref a1), (.int (0 : Int32)), (.int (4 : Int32))] Z h0 (fun v h L => v = some (.int ((((4 : Int32) - (own_pr (own_c p4) (own_c p5))) - (own_pr (own_c p5) (own_c p6))) - (own_pr (own_c p6) (own_c p7)))) ∧ Fr n0 L ∧ h = h0) := by
  refine own_hN n0 rfl pn_3 ?_
  intro p e s m below meth c s₁ hx b hml hret hZ hown hnm X0 e0 N0
  refine own_ct (mkF m 0 #[.val (.ref a1), .val (.int (0 : Int32)), .val (.int (4 : Int32))] []) rfl ?_
  refine g_iloadN X0 hx (b d18_0) rfl ?_
  refine g_iloadN X0 hx (b d18_1) rfl ?_
  refine g_aloadN X0 hx (b d18_2) rfl rfl ?_
  refine own_cV X0 hx hZ hown (w87 hw) (w73 hw) (notFace_of_selects (args := #[]) (mvT hZ (w75 hw))) (w75 hw) (w74 hw) (w13 hw) (w76 hw) (rm16_7 hw a1 a2 kz3 p4 p5 p6 p7 p8 O0 P2 P3 P1 P4 P5 P6) e0 2 (by decide) (by decide) (by rw [hml]; rfl) P1 [] [(.int (4 : Int32)), (.int (0 : Int32))] (lenOf pd_16 rfl) rfl rfl (Nat.le_of_eq rfl) (b d18_3) ?_
  rintro T1 _ L1 X1 ⟨rfl, M1, eh1⟩
  have N1 := Fr.app N0 M1
  refine own_cS X1 hx hZ hown (w88 hw) (w89 hw) (w90 hw) (w91 hw) (rm19_4 hw O0) eh1 0 (by decide) (by decide) (by rw [hml]; rfl) [(.int (0 : Int32)), (.int (4 : Int32)), (.int (4 : Int32))] [] (lenOf pd_18 rfl) rfl rfl (Nat.le_of_eq rfl) (b d18_6) ?_
  rintro T2 _ L2 X2 ⟨rfl, M2, eh2⟩
  have N2 := Fr.app N1 M2
  refine Go.st (fun t k => XS.pop X2.here hx rfl (b d18_9) rfl rfl k) ?_
  refine g_aloadN X2 hx (b d18_10) rfl rfl ?_
  refine own_cV X2 hx hZ hown (w96 hw) (w97 hw) (notFace_of_selects (args := #[]) (mvT hZ (w99 hw))) (w99 hw) (w98 hw) (w13 hw) (w100 hw) (rm21_1 hw a1 p8 O0 P4 P5 P6) eh2 0 (by decide) (by decide) (by rw [hml]; rfl) P1 [] [] (lenOf pd_12 rfl) rfl rfl (Nat.le_of_eq rfl) (b d18_11) ?_
  rintro T3 _ L3 X3 ⟨rfl, M3, eh3⟩
  have N3 := Fr.app N2 M3
  refine g_ifYes X3 hx (pc := 14) 21 (b d18_14) (XT.i0_eq_t (by decide : (0 : Int32) = (0 : Int32))) (by decide) ?_
  refine g_aloadN X3 hx (b d18_21) rfl rfl ?_
  obtain ⟨T4, X4, e4, st4⟩ := getF X3 hx hZ hown (host := "") (Or.inl (w31 hw)) Via.refl eh3 P2 (g := (mkF m 22 #[.val (.ref a1), .val (.int (0 : Int32)), .val (.int (4 : Int32))] [(.ref a1)])) rfl rfl (b d18_22)
  refine Go.st st4 ?_
  refine g_iloadN X4 hx (b d18_25) rfl ?_
  refine g_iloadN X4 hx (b d18_26) rfl ?_
  refine own_cS X4 hx hZ hown (w101 hw) (w102 hw) (w45 hw) (w103 hw) (rm22_4 hw a2 kz3 p4 p5 p6 p7 O0 P3 P7 P8 P9 P10 P11 P12 P13 P14 P15 P16 P17) e4 0 (by decide) (by decide) (by rw [hml]; rfl) [(.ref a2), (.int (0 : Int32)), (.int (4 : Int32))] [] (lenOf pd_20 rfl) rfl rfl (Nat.le_of_eq rfl) (b d18_27) ?_
  rintro T5 _ L5 X5 ⟨rfl, M5, eh5⟩
  have N5 := Fr.app N3 M5
  exact own_eI X5 hx hret (b d18_30) eh5 (by decide) ⟨rfl, N5, rfl⟩
theorem rm6_14 (hw : HW Z a0) (a1 : Addr) (p2 : Int32) (a3 : Addr) (kz4 : ClassId) (p5 p6 p7 p8 p9 : Int32) (O0 : Old Z n0 h0) (P1 : Exa Z h0 a1 "java/lang/String") (P2 : Fld Z h0 a1 "java/lang/String" "value" "[B" (.ref a3)) (P3 : Arv Z h0 a3 kz4 .byte (8 : Int32) [(.int (own_b0 (own_c p5))), (.int (own_b8 (own_c p5))), (.int (own_b0 (own_c p6))), (.int (own_b8 (own_c p6))), (.int (own_b0 (own_c p7))), (.int (own_b8 (own_c p7))), (.int (own_b0 (own_c p8))), (.int (own_b8 (own_c p8)))] (.int (0 : Int32))) (P4 : Sta Z Z.heap "java/lang/String" "COMPACT_STRINGS" "Z" (.int p9)) (P5 : ¬ (p9 = (0 : Int32))) (P6 : Fld Z h0 a1 "java/lang/String" "coder" "B" (.int (1 : Int32))) (P7 : ¬ ((own_c p5) < (0 : Int32))) (P8 : ¬ ((65535 : Int32) < (own_c p5))) (P9 : ¬ ((own_c p6) < (0 : Int32))) (P10 : ¬ ((65535 : Int32) < (own_c p6))) (P11 : ¬ ((own_c p7) < (0 : Int32))) (P12 : ¬ ((65535 : Int32) < (own_c p7))) (P13 : ¬ ((own_c p8) < (0 : Int32))) (P14 : ¬ ((65535 : Int32) < (own_c p8))) (P15 : Sta Z Z.heap "java/lang/StringUTF16" "$assertionsDisabled" "Z" (.int (1 : Int32))) (P16 : Sta Z Z.heap "java/lang/StringUTF16" "HI_BYTE_SHIFT" "I" (.int (0 : Int32))) (P17 : Sta Z Z.heap "java/lang/StringUTF16" "LO_BYTE_SHIFT" "I" (.int (8 : Int32))) (P18 : p2 < ((((4 : Int32) - (own_pr (own_c p5) (own_c p6))) - (own_pr (own_c p6) (own_c p7))) - (own_pr (own_c p7) (own_c p8)))) :
    MM l mn18 prog_38_method_2_code 2 (some .boolean) (R4 4 0 0 58) #[(.ref a1), (.int p2)] Z h0 (fun v h L => v = some (.int (0 : Int32)) ∧ Fr n0 L ∧ h = h0) := by
  refine own_hN n0 rfl pn_4 ?_
  intro p e s m below meth c s₁ hx b hml hret hZ hown hnm X0 e0 N0
  refine own_ct (mkF m 0 #[.val (.ref a1), .val (.int p2)] []) rfl ?_
  refine g_aloadN X0 hx (b d6_0) rfl rfl ?_
  refine Go.st (fun t k => XS.ifnullNo X0.here hx rfl (b d6_1) rfl k) ?_
  refine g_aloadN X0 hx (b d6_4) rfl rfl ?_
  refine own_cV X0 hx hZ hown (w37 hw) (w38 hw) (notFace_of_selects (args := #[]) (mvT hZ (w40 hw))) (w40 hw) (w39 hw) (w13 hw) (w41 hw) (rm7_8 hw a1 a3 kz4 p5 p6 p7 p8 O0 P2 P3) e0 0 (by decide) (by decide) (by rw [hml]; rfl) P1 [] [] (lenOf pd_12 rfl) rfl rfl (Nat.le_of_eq rfl) (b d6_5) ?_
  rintro T1 _ L1 X1 ⟨rfl, M1, eh1⟩
  have N1 := Fr.app N0 M1
  refine g_ifNo X1 hx (b d6_8) (XT.i0_ne_f (by decide : (0 : Int32) = (0 : Int32))) ?_
  refine g_aloadN X1 hx (b d6_11) rfl rfl ?_
  refine g_iconst X1 hx (0) (b d6_12) rfl ?_
  refine g_aloadN X1 hx (b d6_13) rfl rfl ?_
  refine own_cV X1 hx hZ hown (w72 hw) (w73 hw) (notFace_of_selects (args := #[]) (mvT hZ (w75 hw))) (w75 hw) (w74 hw) (w13 hw) (w76 hw) (rm16_7 hw a1 a3 kz4 p5 p6 p7 p8 p9 O0 P2 P3 P1 P4 P5 P6) eh1 2 (by decide) (by decide) (by rw [hml]; rfl) P1 [] [(.int (0 : Int32)), (.ref a1)] (lenOf pd_16 rfl) rfl rfl (Nat.le_of_eq rfl) (b d6_14) ?_
  rintro T2 _ L2 X2 ⟨rfl, M2, eh2⟩
  have N2 := Fr.app N1 M2
  refine own_cV X2 hx hZ hown (w82 hw) (w83 hw) (notFace_of_selects (args := #[]) (mvT hZ (w85 hw))) (w85 hw) (w84 hw) (w13 hw) (w86 hw) (rm18_7 hw a1 a3 kz4 p5 p6 p7 p8 p9 O0 P1 P2 P3 P4 P5 P6 P7 P8 P9 P10 P11 P12 P13 P14 P15 P16 P17) eh2 0 (by decide) (by decide) (by rw [hml]; rfl) P1 [(.int (0 : Int32)), (.int (4 : Int32))] [] (lenOf pd_21 rfl) rfl rfl (Nat.le_of_eq rfl) (b d6_17) ?_
  rintro T3 _ L3 X3 ⟨rfl, M3, eh3⟩
  have N3 := Fr.app N2 M3
  refine g_iloadN X3 hx (b d6_20) rfl ?_
  refine g_icmpYes X3 hx (pc := 21) 28 (b d6_21) (XT.ii_gt_t P18) (by decide) ?_
  refine g_iconst X3 hx (0) (b d6_28) rfl ?_
  exact own_eB X3 hx hret (by simp) rfl (b d6_29) eh3 (by decide) ⟨rfl, N3, rfl⟩
theorem rm6_15 (hw : HW Z a0) (a1 : Addr) (p2 : Int32) (a3 : Addr) (kz4 : ClassId) (p5 p6 p7 p8 p9 : Int32) (O0 : Old Z n0 h0) (P1 : Exa Z h0 a1 "java/lang/String") (P2 : Fld Z h0 a1 "java/lang/String" "value" "[B" (.ref a3)) (P3 : Arv Z h0 a3 kz4 .byte (8 : Int32) [(.int (own_b0 (own_c p5))), (.int (own_b8 (own_c p5))), (.int (own_b0 (own_c p6))), (.int (own_b8 (own_c p6))), (.int (own_b0 (own_c p7))), (.int (own_b8 (own_c p7))), (.int (own_b0 (own_c p8))), (.int (own_b8 (own_c p8)))] (.int (0 : Int32))) (P4 : Sta Z Z.heap "java/lang/String" "COMPACT_STRINGS" "Z" (.int p9)) (P5 : ¬ (p9 = (0 : Int32))) (P6 : Fld Z h0 a1 "java/lang/String" "coder" "B" (.int (1 : Int32))) (P7 : ¬ ((own_c p5) < (0 : Int32))) (P8 : ¬ ((65535 : Int32) < (own_c p5))) (P9 : ¬ ((own_c p6) < (0 : Int32))) (P10 : ¬ ((65535 : Int32) < (own_c p6))) (P11 : ¬ ((own_c p7) < (0 : Int32))) (P12 : ¬ ((65535 : Int32) < (own_c p7))) (P13 : ¬ ((own_c p8) < (0 : Int32))) (P14 : ¬ ((65535 : Int32) < (own_c p8))) (P15 : Sta Z Z.heap "java/lang/StringUTF16" "$assertionsDisabled" "Z" (.int (1 : Int32))) (P16 : Sta Z Z.heap "java/lang/StringUTF16" "HI_BYTE_SHIFT" "I" (.int (0 : Int32))) (P17 : Sta Z Z.heap "java/lang/StringUTF16" "LO_BYTE_SHIFT" "I" (.int (8 : Int32))) (P18 : ¬ (p2 < ((((4 : Int32) - (own_pr (own_c p5) (own_c p6))) - (own_pr (own_c p6) (own_c p7))) - (own_pr (own_c p7) (own_c p8))))) :
    MM l mn18 prog_38_method_2_code 2 (some .boolean) (R4 4 0 0 58) #[(.ref a1), (.int p2)] Z h0 (fun v h L => v = some (.int (1 : Int32)) ∧ Fr n0 L ∧ h = h0) := by
  refine own_hN n0 rfl pn_4 ?_
  intro p e s m below meth c s₁ hx b hml hret hZ hown hnm X0 e0 N0
  refine own_ct (mkF m 0 #[.val (.ref a1), .val (.int p2)] []) rfl ?_
  refine g_aloadN X0 hx (b d6_0) rfl rfl ?_
  refine Go.st (fun t k => XS.ifnullNo X0.here hx rfl (b d6_1) rfl k) ?_
  refine g_aloadN X0 hx (b d6_4) rfl rfl ?_
  refine own_cV X0 hx hZ hown (w37 hw) (w38 hw) (notFace_of_selects (args := #[]) (mvT hZ (w40 hw))) (w40 hw) (w39 hw) (w13 hw) (w41 hw) (rm7_8 hw a1 a3 kz4 p5 p6 p7 p8 O0 P2 P3) e0 0 (by decide) (by decide) (by rw [hml]; rfl) P1 [] [] (lenOf pd_12 rfl) rfl rfl (Nat.le_of_eq rfl) (b d6_5) ?_
  rintro T1 _ L1 X1 ⟨rfl, M1, eh1⟩
  have N1 := Fr.app N0 M1
  refine g_ifNo X1 hx (b d6_8) (XT.i0_ne_f (by decide : (0 : Int32) = (0 : Int32))) ?_
  refine g_aloadN X1 hx (b d6_11) rfl rfl ?_
  refine g_iconst X1 hx (0) (b d6_12) rfl ?_
  refine g_aloadN X1 hx (b d6_13) rfl rfl ?_
  refine own_cV X1 hx hZ hown (w72 hw) (w73 hw) (notFace_of_selects (args := #[]) (mvT hZ (w75 hw))) (w75 hw) (w74 hw) (w13 hw) (w76 hw) (rm16_7 hw a1 a3 kz4 p5 p6 p7 p8 p9 O0 P2 P3 P1 P4 P5 P6) eh1 2 (by decide) (by decide) (by rw [hml]; rfl) P1 [] [(.int (0 : Int32)), (.ref a1)] (lenOf pd_16 rfl) rfl rfl (Nat.le_of_eq rfl) (b d6_14) ?_
  rintro T2 _ L2 X2 ⟨rfl, M2, eh2⟩
  have N2 := Fr.app N1 M2
  refine own_cV X2 hx hZ hown (w82 hw) (w83 hw) (notFace_of_selects (args := #[]) (mvT hZ (w85 hw))) (w85 hw) (w84 hw) (w13 hw) (w86 hw) (rm18_7 hw a1 a3 kz4 p5 p6 p7 p8 p9 O0 P1 P2 P3 P4 P5 P6 P7 P8 P9 P10 P11 P12 P13 P14 P15 P16 P17) eh2 0 (by decide) (by decide) (by rw [hml]; rfl) P1 [(.int (0 : Int32)), (.int (4 : Int32))] [] (lenOf pd_21 rfl) rfl rfl (Nat.le_of_eq rfl) (b d6_17) ?_
  rintro T3 _ L3 X3 ⟨rfl, M3, eh3⟩
  have N3 := Fr.app N2 M3
  refine g_iloadN X3 hx (b d6_20) rfl ?_
  refine g_icmpNo X3 hx (b d6_21) (XT.ii_gt_f P18) ?_
  refine g_iconst X3 hx (1) (b d6_24) rfl ?_
  refine g_goto X3 hx (pc := 25) 29 (b d6_25) (by decide) ?_
  exact own_eB X3 hx hret (by simp) rfl (b d6_29) eh3 (by decide) ⟨rfl, N3, rfl⟩
theorem rm9_14 (hw : HW Z a0) (a1 a2 : Addr) (kz3 : ClassId) (p4 p5 p6 p7 : Int32) (kz8 : ClassId) (O0 : Old Z n0 h0) (P1 : Arv Z h0 a1 kz3 .char (4 : Int32) [(.int (own_c p4)), (.int (own_c p5)), (.int (own_c p6)), (.int (own_c p7))] (.int (0 : Int32))) (P2 : ¬ ((255 : Int32) < (own_c p4))) (P3 : Arv Z h0 a2 kz8 .byte (4 : Int32) [(.int (0 : Int32)), (.int (0 : Int32)), (.int (0 : Int32)), (.int (0 : Int32))] (.int (0 : Int32))) (P4 : n0 ≤ a2) (P5 : a1 ≠ a2) (P6 : ¬ ((255 : Int32) < (own_c p5))) (P7 : ¬ ((255 : Int32) < (own_c p6))) (P8 : ¬ ((255 : Int32) < (own_c p7))) :
    MM l mn8 jdk_52_method_21_code 7 (some .int) (R4 0 0 0 0) #[(.ref a1), (.int (0 : Int32)), (.ref a2), (.int (0 : Int32)), (.int (4 : Int32))] Z h0 (fun v h L => v = some (.int (4 : Int32)) ∧ Fr n0 L ∧ Keep h0 h [a2] ∧ Arv Z h a2 kz8 .byte (4 : Int32) [(.int (((own_c p4).toInt8.toInt32).toInt8.toInt32)), (.int (((own_c p5).toInt8.toInt32).toInt8.toInt32)), (.int (((own_c p6).toInt8.toInt32).toInt8.toInt32)), (.int (((own_c p7).toInt8.toInt32).toInt8.toInt32))] (.int (0 : Int32))) := by
  refine own_hN n0 rfl pn_2 ?_
  intro p e s m below meth c s₁ hx b hml hret hZ hown hnm X0 e0 N0
  refine own_ct (mkF m 0 #[.val (.ref a1), .val (.int (0 : Int32)), .val (.ref a2), .val (.int (0 : Int32)), .val (.int (4 : Int32)), .unset, .unset] []) rfl ?_
  refine g_iconst X0 hx (0) (b d9_0) rfl ?_
  refine g_istore X0 hx (b d9_1) (l' := #[.val (.ref a1), .val (.int (0 : Int32)), .val (.ref a2), .val (.int (0 : Int32)), .val (.int (4 : Int32)), .val (.int (0 : Int32)), .unset]) rfl ?_
  refine g_iload X0 hx (b d9_3) rfl ?_
  refine g_iload X0 hx (b d9_5) rfl ?_
  refine g_icmpNo X0 hx (b d9_7) (XT.ii_ge_f (by decide : (0 : Int32) < (4 : Int32))) ?_
  refine g_aloadN X0 hx (b d9_10) rfl rfl ?_
  refine g_iloadN X0 hx (b d9_11) rfl ?_
  obtain ⟨cl1, Ar1, q1, S1, M1, H1, G1⟩ := id P1
  have hin1 : ¬ ((0 : Int32) < 0 ∨ cl1.slots.size ≤ ((0 : Int32)).toNatClampNeg) := inb_of S1 ⟨by decide, by decide⟩
  have hat1 : cl1.slots[((0 : Int32)).toNatClampNeg]? = some (.int (own_c p4)) := H1.at hin1 rfl
  refine Go.st (fun t k => X0.caload hx (j := (0 : Int32)) (v := (.int (own_c p4))) (by rw [e0]; exact Ar1.1) (State.isArrayOf_alike hZ.alike Ar1.2.1) Ar1.2.2 hin1 hat1 (g := (mkF m 12 #[.val (.ref a1), .val (.int (0 : Int32)), .val (.ref a2), .val (.int (0 : Int32)), .val (.int (4 : Int32)), .val (.int (0 : Int32)), .unset] [(.int (0 : Int32)), (.ref a1)])) rfl rfl (b d9_12) t k) ?_
  refine g_istore X0 hx (b d9_13) (l' := #[.val (.ref a1), .val (.int (0 : Int32)), .val (.ref a2), .val (.int (0 : Int32)), .val (.int (4 : Int32)), .val (.int (0 : Int32)), .val (.int (own_c p4))]) rfl ?_
  refine g_iload X0 hx (b d9_15) rfl ?_
  refine g_sipush X0 hx (255) (b d9_17) rfl ?_
  refine g_icmpYes X0 hx (pc := 20) 26 (b d9_20) (XT.ii_le_t P2) (by decide) ?_
  refine g_aloadN X0 hx (b d9_26) rfl rfl ?_
  refine g_iloadN X0 hx (b d9_27) rfl ?_
  refine g_iload X0 hx (b d9_28) rfl ?_
  refine g_i2bZ X0 hx ((own_c p4).toInt8.toInt32) (b d9_30) rfl ?_
  obtain ⟨cl2, Ar2, q2, S2, M2, H2, G2⟩ := id P3
  have hin2 : ¬ ((0 : Int32) < 0 ∨ cl2.slots.size ≤ ((0 : Int32)).toNatClampNeg) := inb_of S2 ⟨by decide, by decide⟩
  obtain ⟨T2, h2, X2, e2, W2, st2⟩ := stB X0 hx hZ e0 Ar2 (j := (0 : Int32)) hin2 (g := (mkF m 31 #[.val (.ref a1), .val (.int (0 : Int32)), .val (.ref a2), .val (.int (0 : Int32)), .val (.int (4 : Int32)), .val (.int (0 : Int32)), .val (.int (own_c p4))] [(.int ((own_c p4).toInt8.toInt32)), (.int (0 : Int32)), (.ref a2)])) rfl rfl (b d9_31)
  have V2 : Arv Z h2 a2 kz8 .byte (4 : Int32) [(.int (((own_c p4).toInt8.toInt32).toInt8.toInt32)), (.int (0 : Int32)), (.int (0 : Int32)), (.int (0 : Int32))] (.int (0 : Int32)) := Arv.set Ar2 q2 S2 M2 H2 G2 (fits_nar_byte _) W2 0 rfl (Nat.le_of_ble_eq_true rfl)
  have N2 := Fr.snoc X2 N0 P4
  have O2 : Old Z n0 h2 := O0.wr W2 P4
  have K2 : Keep h0 h2 [a2] := (Keep.refl h0 [a2]).wr W2 (Or.inl (List.mem_of_getElem? (i := 0) rfl))
  refine Go.st st2 ?_
  refine g_iinc X2 hx (b d9_32) rfl (l' := #[.val (.ref a1), .val (.int (1 : Int32)), .val (.ref a2), .val (.int (0 : Int32)), .val (.int (4 : Int32)), .val (.int (0 : Int32)), .val (.int (own_c p4))]) rfl ?_
  refine g_iinc X2 hx (b d9_35) rfl (l' := #[.val (.ref a1), .val (.int (1 : Int32)), .val (.ref a2), .val (.int (1 : Int32)), .val (.int (4 : Int32)), .val (.int (0 : Int32)), .val (.int (own_c p4))]) rfl ?_
  refine g_iinc X2 hx (b d9_38) rfl (l' := #[.val (.ref a1), .val (.int (1 : Int32)), .val (.ref a2), .val (.int (1 : Int32)), .val (.int (4 : Int32)), .val (.int (1 : Int32)), .val (.int (own_c p4))]) rfl ?_
  refine g_goto X2 hx (pc := 41) 3 (b d9_41) (by decide) ?_
  refine g_iload X2 hx (b d9_3) rfl ?_
  refine g_iload X2 hx (b d9_5) rfl ?_
  refine g_icmpNo X2 hx (b d9_7) (XT.ii_ge_f (by decide : (1 : Int32) < (4 : Int32))) ?_
  refine g_aloadN X2 hx (b d9_10) rfl rfl ?_
  refine g_iloadN X2 hx (b d9_11) rfl ?_
  obtain ⟨cl3, Ar3, q3, S3, M3, H3, G3⟩ := id (P1.other W2 P5)
  have hin3 : ¬ ((1 : Int32) < 0 ∨ cl3.slots.size ≤ ((1 : Int32)).toNatClampNeg) := inb_of S3 ⟨by decide, by decide⟩
  have hat3 : cl3.slots[((1 : Int32)).toNatClampNeg]? = some (.int (own_c p5)) := H3.at hin3 rfl
  refine Go.st (fun t k => X2.caload hx (j := (1 : Int32)) (v := (.int (own_c p5))) (by rw [e2]; exact Ar3.1) (State.isArrayOf_alike hZ.alike Ar3.2.1) Ar3.2.2 hin3 hat3 (g := (mkF m 12 #[.val (.ref a1), .val (.int (1 : Int32)), .val (.ref a2), .val (.int (1 : Int32)), .val (.int (4 : Int32)), .val (.int (1 : Int32)), .val (.int (own_c p4))] [(.int (1 : Int32)), (.ref a1)])) rfl rfl (b d9_12) t k) ?_
  refine g_istore X2 hx (b d9_13) (l' := #[.val (.ref a1), .val (.int (1 : Int32)), .val (.ref a2), .val (.int (1 : Int32)), .val (.int (4 : Int32)), .val (.int (1 : Int32)), .val (.int (own_c p5))]) rfl ?_
  refine g_iload X2 hx (b d9_15) rfl ?_
  refine g_sipush X2 hx (255) (b d9_17) rfl ?_
  refine g_icmpYes X2 hx (pc := 20) 26 (b d9_20) (XT.ii_le_t P6) (by decide) ?_
  refine g_aloadN X2 hx (b d9_26) rfl rfl ?_
  refine g_iloadN X2 hx (b d9_27) rfl ?_
  refine g_iload X2 hx (b d9_28) rfl ?_
  refine g_i2bZ X2 hx ((own_c p5).toInt8.toInt32) (b d9_30) rfl ?_
  obtain ⟨cl4, Ar4, q4, S4, M4, H4, G4⟩ := id V2
  have hin4 : ¬ ((1 : Int32) < 0 ∨ cl4.slots.size ≤ ((1 : Int32)).toNatClampNeg) := inb_of S4 ⟨by decide, by decide⟩
  obtain ⟨T4, h4, X4, e4, W4, st4⟩ := stB X2 hx hZ e2 Ar4 (j := (1 : Int32)) hin4 (g := (mkF m 31 #[.val (.ref a1), .val (.int (1 : Int32)), .val (.ref a2), .val (.int (1 : Int32)), .val (.int (4 : Int32)), .val (.int (1 : Int32)), .val (.int (own_c p5))] [(.int ((own_c p5).toInt8.toInt32)), (.int (1 : Int32)), (.ref a2)])) rfl rfl (b d9_31)
  have V4 : Arv Z h4 a2 kz8 .byte (4 : Int32) [(.int (((own_c p4).toInt8.toInt32).toInt8.toInt32)), (.int (((own_c p5).toInt8.toInt32).toInt8.toInt32)), (.int (0 : Int32)), (.int (0 : Int32))] (.int (0 : Int32)) := Arv.set Ar4 q4 S4 M4 H4 G4 (fits_nar_byte _) W4 1 rfl (Nat.le_of_ble_eq_true rfl)
  have N4 := Fr.snoc X4 N2 P4
  have O4 : Old Z n0 h4 := O2.wr W4 P4
  have K4 : Keep h0 h4 [a2] := K2.wr W4 (Or.inl (List.mem_of_getElem? (i := 0) rfl))
  refine Go.st st4 ?_
  refine g_iinc X4 hx (b d9_32) rfl (l' := #[.val (.ref a1), .val (.int (2 : Int32)), .val (.ref a2), .val (.int (1 : Int32)), .val (.int (4 : Int32)), .val (.int (1 : Int32)), .val (.int (own_c p5))]) rfl ?_
  refine g_iinc X4 hx (b d9_35) rfl (l' := #[.val (.ref a1), .val (.int (2 : Int32)), .val (.ref a2), .val (.int (2 : Int32)), .val (.int (4 : Int32)), .val (.int (1 : Int32)), .val (.int (own_c p5))]) rfl ?_
  refine g_iinc X4 hx (b d9_38) rfl (l' := #[.val (.ref a1), .val (.int (2 : Int32)), .val (.ref a2), .val (.int (2 : Int32)), .val (.int (4 : Int32)), .val (.int (2 : Int32)), .val (.int (own_c p5))]) rfl ?_
  refine g_goto X4 hx (pc := 41) 3 (b d9_41) (by decide) ?_
  refine g_iload X4 hx (b d9_3) rfl ?_
  refine g_iload X4 hx (b d9_5) rfl ?_
  refine g_icmpNo X4 hx (b d9_7) (XT.ii_ge_f (by decide : (2 : Int32) < (4 : Int32))) ?_
  refine g_aloadN X4 hx (b d9_10) rfl rfl ?_
  refine g_iloadN X4 hx (b d9_11) rfl ?_
  obtain ⟨cl5, Ar5, q5, S5, M5, H5, G5⟩ := id ((P1.other W2 P5).other W4 P5)
  have hin5 : ¬ ((2 : Int32) < 0 ∨ cl5.slots.size ≤ ((2 : Int32)).toNatClampNeg) := inb_of S5 ⟨by decide, by decide⟩
  have hat5 : cl5.slots[((2 : Int32)).toNatClampNeg]? = some (.int (own_c p6)) := H5.at hin5 rfl
  refine Go.st (fun t k => X4.caload hx (j := (2 : Int32)) (v := (.int (own_c p6))) (by rw [e4]; exact Ar5.1) (State.isArrayOf_alike hZ.alike Ar5.2.1) Ar5.2.2 hin5 hat5 (g := (mkF m 12 #[.val (.ref a1), .val (.int (2 : Int32)), .val (.ref a2), .val (.int (2 : Int32)), .val (.int (4 : Int32)), .val (.int (2 : Int32)), .val (.int (own_c p5))] [(.int (2 : Int32)), (.ref a1)])) rfl rfl (b d9_12) t k) ?_
  refine g_istore X4 hx (b d9_13) (l' := #[.val (.ref a1), .val (.int (2 : Int32)), .val (.ref a2), .val (.int (2 : Int32)), .val (.int (4 : Int32)), .val (.int (2 : Int32)), .val (.int (own_c p6))]) rfl ?_
  refine g_iload X4 hx (b d9_15) rfl ?_
  refine g_sipush X4 hx (255) (b d9_17) rfl ?_
  refine g_icmpYes X4 hx (pc := 20) 26 (b d9_20) (XT.ii_le_t P7) (by decide) ?_
  refine g_aloadN X4 hx (b d9_26) rfl rfl ?_
  refine g_iloadN X4 hx (b d9_27) rfl ?_
  refine g_iload X4 hx (b d9_28) rfl ?_
  refine g_i2bZ X4 hx ((own_c p6).toInt8.toInt32) (b d9_30) rfl ?_
  obtain ⟨cl6, Ar6, q6, S6, M6, H6, G6⟩ := id V4
  have hin6 : ¬ ((2 : Int32) < 0 ∨ cl6.slots.size ≤ ((2 : Int32)).toNatClampNeg) := inb_of S6 ⟨by decide, by decide⟩
  obtain ⟨T6, h6, X6, e6, W6, st6⟩ := stB X4 hx hZ e4 Ar6 (j := (2 : Int32)) hin6 (g := (mkF m 31 #[.val (.ref a1), .val (.int (2 : Int32)), .val (.ref a2), .val (.int (2 : Int32)), .val (.int (4 : Int32)), .val (.int (2 : Int32)), .val (.int (own_c p6))] [(.int ((own_c p6).toInt8.toInt32)), (.int (2 : Int32)), (.ref a2)])) rfl rfl (b d9_31)
  have V6 : Arv Z h6 a2 kz8 .byte (4 : Int32) [(.int (((own_c p4).toInt8.toInt32).toInt8.toInt32)), (.int (((own_c p5).toInt8.toInt32).toInt8.toInt32)), (.int (((own_c p6).toInt8.toInt32).toInt8.toInt32)), (.int (0 : Int32))] (.int (0 : Int32)) := Arv.set Ar6 q6 S6 M6 H6 G6 (fits_nar_byte _) W6 2 rfl (Nat.le_of_ble_eq_true rfl)
  have N6 := Fr.snoc X6 N4 P4
  have O6 : Old Z n0 h6 := O4.wr W6 P4
  have K6 : Keep h0 h6 [a2] := K4.wr W6 (Or.inl (List.mem_of_getElem? (i := 0) rfl))
  refine Go.st st6 ?_
  refine g_iinc X6 hx (b d9_32) rfl (l' := #[.val (.ref a1), .val (.int (3 : Int32)), .val (.ref a2), .val (.int (2 : Int32)), .val (.int (4 : Int32)), .val (.int (2 : Int32)), .val (.int (own_c p6))]) rfl ?_
  refine g_iinc X6 hx (b d9_35) rfl (l' := #[.val (.ref a1), .val (.int (3 : Int32)), .val (.ref a2), .val (.int (3 : Int32)), .val (.int (4 : Int32)), .val (.int (2 : Int32)), .val (.int (own_c p6))]) rfl ?_
  refine g_iinc X6 hx (b d9_38) rfl (l' := #[.val (.ref a1), .val (.int (3 : Int32)), .val (.ref a2), .val (.int (3 : Int32)), .val (.int (4 : Int32)), .val (.int (3 : Int32)), .val (.int (own_c p6))]) rfl ?_
  refine g_goto X6 hx (pc := 41) 3 (b d9_41) (by decide) ?_
  refine g_iload X6 hx (b d9_3) rfl ?_
  refine g_iload X6 hx (b d9_5) rfl ?_
  refine g_icmpNo X6 hx (b d9_7) (XT.ii_ge_f (by decide : (3 : Int32) < (4 : Int32))) ?_
  refine g_aloadN X6 hx (b d9_10) rfl rfl ?_
  refine g_iloadN X6 hx (b d9_11) rfl ?_
  have c7 := (((P1.other W2 P5).other W4 P5).other W6 P5)
  obtain ⟨cl8, Ar8, q8, S8, M8, H8, G8⟩ := id c7
  have hin8 : ¬ ((3 : Int32) < 0 ∨ cl8.slots.size ≤ ((3 : Int32)).toNatClampNeg) := inb_of S8 ⟨by decide, by decide⟩
  have hat8 : cl8.slots[((3 : Int32)).toNatClampNeg]? = some (.int (own_c p7)) := H8.at hin8 rfl
  refine Go.st (fun t k => X6.caload hx (j := (3 : Int32)) (v := (.int (own_c p7))) (by rw [e6]; exact Ar8.1) (State.isArrayOf_alike hZ.alike Ar8.2.1) Ar8.2.2 hin8 hat8 (g := (mkF m 12 #[.val (.ref a1), .val (.int (3 : Int32)), .val (.ref a2), .val (.int (3 : Int32)), .val (.int (4 : Int32)), .val (.int (3 : Int32)), .val (.int (own_c p6))] [(.int (3 : Int32)), (.ref a1)])) rfl rfl (b d9_12) t k) ?_
  refine g_istore X6 hx (b d9_13) (l' := #[.val (.ref a1), .val (.int (3 : Int32)), .val (.ref a2), .val (.int (3 : Int32)), .val (.int (4 : Int32)), .val (.int (3 : Int32)), .val (.int (own_c p7))]) rfl ?_
  refine g_iload X6 hx (b d9_15) rfl ?_
  refine g_sipush X6 hx (255) (b d9_17) rfl ?_
  refine g_icmpYes X6 hx (pc := 20) 26 (b d9_20) (XT.ii_le_t P8) (by decide) ?_
  refine g_aloadN X6 hx (b d9_26) rfl rfl ?_
  refine g_iloadN X6 hx (b d9_27) rfl ?_
  refine g_iload X6 hx (b d9_28) rfl ?_
  refine g_i2bZ X6 hx ((own_c p7).toInt8.toInt32) (b d9_30) rfl ?_
  obtain ⟨cl9, Ar9, q9, S9, M9, H9, G9⟩ := id V6
  have hin9 : ¬ ((3 : Int32) < 0 ∨ cl9.slots.size ≤ ((3 : Int32)).toNatClampNeg) := inb_of S9 ⟨by decide, by decide⟩
  obtain ⟨T9, h9, X9, e9, W9, st9⟩ := stB X6 hx hZ e6 Ar9 (j := (3 : Int32)) hin9 (g := (mkF m 31 #[.val (.ref a1), .val (.int (3 : Int32)), .val (.ref a2), .val (.int (3 : Int32)), .val (.int (4 : Int32)), .val (.int (3 : Int32)), .val (.int (own_c p7))] [(.int ((own_c p7).toInt8.toInt32)), (.int (3 : Int32)), (.ref a2)])) rfl rfl (b d9_31)
  have V9 : Arv Z h9 a2 kz8 .byte (4 : Int32) [(.int (((own_c p4).toInt8.toInt32).toInt8.toInt32)), (.int (((own_c p5).toInt8.toInt32).toInt8.toInt32)), (.int (((own_c p6).toInt8.toInt32).toInt8.toInt32)), (.int (((own_c p7).toInt8.toInt32).toInt8.toInt32))] (.int (0 : Int32)) := Arv.set Ar9 q9 S9 M9 H9 G9 (fits_nar_byte _) W9 3 rfl (Nat.le_of_ble_eq_true rfl)
  have N9 := Fr.snoc X9 N6 P4
  have O9 : Old Z n0 h9 := O6.wr W9 P4
  have K9 : Keep h0 h9 [a2] := K6.wr W9 (Or.inl (List.mem_of_getElem? (i := 0) rfl))
  refine Go.st st9 ?_
  refine g_iinc X9 hx (b d9_32) rfl (l' := #[.val (.ref a1), .val (.int (4 : Int32)), .val (.ref a2), .val (.int (3 : Int32)), .val (.int (4 : Int32)), .val (.int (3 : Int32)), .val (.int (own_c p7))]) rfl ?_
  refine g_iinc X9 hx (b d9_35) rfl (l' := #[.val (.ref a1), .val (.int (4 : Int32)), .val (.ref a2), .val (.int (4 : Int32)), .val (.int (4 : Int32)), .val (.int (3 : Int32)), .val (.int (own_c p7))]) rfl ?_
  refine g_iinc X9 hx (b d9_38) rfl (l' := #[.val (.ref a1), .val (.int (4 : Int32)), .val (.ref a2), .val (.int (4 : Int32)), .val (.int (4 : Int32)), .val (.int (4 : Int32)), .val (.int (own_c p7))]) rfl ?_
  refine g_goto X9 hx (pc := 41) 3 (b d9_41) (by decide) ?_
  refine g_iload X9 hx (b d9_3) rfl ?_
  refine g_iload X9 hx (b d9_5) rfl ?_
  refine g_icmpYes X9 hx (pc := 7) 44 (b d9_7) (XT.ii_ge_t (by decide : ¬ ((4 : Int32) < (4 : Int32)))) (by decide) ?_
  refine g_iload X9 hx (b d9_44) rfl ?_
  exact own_eI X9 hx hret (b d9_46) e9 (by decide) ⟨rfl, N9, K9, V9⟩
theorem rm8_8 (hw : HW Z a0) (a1 : Addr) (kz2 : ClassId) (p3 p4 p5 p6 : Int32) (O0 : Old Z n0 h0) (P1 : Arv Z h0 a1 kz2 .char (4 : Int32) [(.int (own_c p3)), (.int (own_c p4)), (.int (own_c p5)), (.int (own_c p6))] (.int (0 : Int32))) (P2 : ¬ ((255 : Int32) < (own_c p3))) (P3 : ¬ ((255 : Int32) < (own_c p4))) (P4 : ¬ ((255 : Int32) < (own_c p5))) (P5 : ¬ ((255 : Int32) < (own_c p6))) :
    MM l mn13 jdk_52_method_16_code 6 (some (.array .byte)) (R4 1 1 4 18) #[(.ref a1), (.int (0 : Int32)), (.int (4 : Int32))] Z h0 (fun v h L => ∃ (b1 : Addr) (k1 : ClassId), v = some (.ref b1) ∧ Fr n0 L ∧ Keep h0 h [] ∧ h0.size ≤ b1 ∧ Arv Z h b1 k1 .byte (4 : Int32) [(.int (((own_c p3).toInt8.toInt32).toInt8.toInt32)), (.int (((own_c p4).toInt8.toInt32).toInt8.toInt32)), (.int (((own_c p5).toInt8.toInt32).toInt8.toInt32)), (.int (((own_c p6).toInt8.toInt32).toInt8.toInt32))] (.int (0 : Int32))) := by
  refine own_hN n0 rfl pn_2 ?_
  intro p e s m below meth c s₁ hx b hml hret hZ hown hnm X0 e0 N0
  refine own_ct (mkF m 0 #[.val (.ref a1), .val (.int (0 : Int32)), .val (.int (4 : Int32)), .unset, .unset, .unset] []) rfl ?_
  refine g_iloadN X0 hx (b d8_0) rfl ?_
  obtain ⟨T1, h1, k1, X1, e1, E1, A1, st1⟩ := newP X0 hx hZ (aty := .byte) (w26 hw) e0 (g := (mkF m 1 #[.val (.ref a1), .val (.int (0 : Int32)), .val (.int (4 : Int32)), .unset, .unset, .unset] [(.int (4 : Int32))])) rfl (b d8_1) rfl (by decide) (cap := 4) (by decide) (by decide) (by decide) (by decide)
  obtain ⟨b1, z1⟩ : ∃ z, z = h0.size := ⟨_, rfl⟩
  rw [← z1] at A1 st1
  have g_b1 : n0 ≤ b1 := Nat.le_trans (own_n0 O0) (Nat.le_of_eq z1.symm)
  have s_b1 : h0.size ≤ b1 := Nat.le_trans (Keep.refl h0 []).1 (Nat.le_of_eq z1.symm)
  have V1 : Arv Z h1 b1 k1 .byte (4 : Int32) [(.int (0 : Int32)), (.int (0 : Int32)), (.int (0 : Int32)), (.int (0 : Int32))] (.int (0 : Int32)) := (Arv.new A1 (by decide)).pad (pad_rep [] (.int (0 : Int32)) 4)
  have O1 : Old Z n0 h1 := O0.ext E1
  have K1 : Keep h0 h1 [] := (Keep.refl h0 []).ext E1
  refine Go.st st1 ?_
  refine g_astoreN X1 hx (b d8_3) rfl (l' := #[.val (.ref a1), .val (.int (0 : Int32)), .val (.int (4 : Int32)), .val (.ref b1), .unset, .unset]) rfl ?_
  refine g_aloadN X1 hx (b d8_4) rfl rfl ?_
  refine g_iloadN X1 hx (b d8_5) rfl ?_
  refine g_aloadN X1 hx (b d8_6) rfl rfl ?_
  refine g_iconst X1 hx (0) (b d8_7) rfl ?_
  refine g_iloadN X1 hx (b d8_8) rfl ?_
  refine own_cS X1 hx hZ hown (w47 hw) (w48 hw) (w45 hw) (w49 hw) (rm9_14 hw a1 b1 kz2 p3 p4 p5 p6 k1 O1 (P1.ext E1) P2 V1 g_b1 (Nat.ne_of_lt (Nat.lt_of_lt_of_le P1.lt (Nat.le_of_eq z1.symm))) P3 P4 P5) e1 0 (by decide) (by decide) (by rw [hml]; rfl) [(.ref a1), (.int (0 : Int32)), (.ref b1), (.int (0 : Int32)), (.int (4 : Int32))] [] (lenOf pd_2 rfl) rfl rfl (Nat.le_of_eq rfl) (b d8_9) ?_
  rintro T2 _ L2 X2 ⟨rfl, M2, K2c, r2_0⟩
  have N2 := Fr.app N0 M2
  have O2 : Old Z n0 T2.heap := O1.keep K2c (allS g_b1 all0)
  have K2 : Keep h0 T2.heap [] := K1.trans K2c (allS (Or.inr s_b1) all0)
  refine g_istore X2 hx (b d8_12) (l' := #[.val (.ref a1), .val (.int (0 : Int32)), .val (.int (4 : Int32)), .val (.ref b1), .val (.int (4 : Int32)), .unset]) rfl ?_
  refine g_iload X2 hx (b d8_14) rfl ?_
  refine g_iloadN X2 hx (b d8_16) rfl ?_
  refine g_icmpYes X2 hx (pc := 17) 57 (b d8_17) (XT.ii_eq_t (by decide : (4 : Int32) = (4 : Int32))) (by decide) ?_
  refine g_aloadN X2 hx (b d8_57) rfl rfl ?_
  exact own_eA X2 hx hret rfl rfl (b d8_58) rfl (by decide) ⟨b1, k1, rfl, N2, K2, s_b1, r2_0⟩
theorem rm15_8 (hw : HW Z a0) (a1 : Addr) (kz2 : ClassId) (p3 p4 p5 p6 : Int32) (O0 : Old Z n0 h0) (P1 : Arv Z h0 a1 kz2 .byte (4 : Int32) [(.int (((own_c p3).toInt8.toInt32).toInt8.toInt32)), (.int (((own_c p4).toInt8.toInt32).toInt8.toInt32)), (.int (((own_c p5).toInt8.toInt32).toInt8.toInt32)), (.int (((own_c p6).toInt8.toInt32).toInt8.toInt32))] (.int (0 : Int32))) :
    MM l mn19 jdk_52_method_15_code 2 (some .byte) (R4 0 0 0 0) #[(.ref a1), (.int (4 : Int32))] Z h0 (fun v h L => v = some (.int (0 : Int32)) ∧ Fr n0 L ∧ h = h0) := by
  refine own_hN n0 rfl pn_2 ?_
  intro p e s m below meth c s₁ hx b hml hret hZ hown hnm X0 e0 N0
  refine own_ct (mkF m 0 #[.val (.ref a1), .val (.int (4 : Int32))] []) rfl ?_
  refine g_iloadN X0 hx (b d15_0) rfl ?_
  refine g_aloadN X0 hx (b d15_1) rfl rfl ?_
  obtain ⟨cl1, Ar1, -, S1, M1, -, -⟩ := id P1
  refine Go.st (fun t k => X0.arraylength hx (by rw [e0]; exact Ar1.1) (State.isArrayOf_alike hZ.alike Ar1.2.1) (g := (mkF m 2 #[.val (.ref a1), .val (.int (4 : Int32))] [(.ref a1), (.int (4 : Int32))])) rfl rfl (b d15_2) t k) ?_
  rw [len_of S1 M1]
  refine g_isubZ X0 hx (0 : Int32) (b d15_3) rfl ?_
  refine g_bipush X0 hx (31) (b d15_4) rfl ?_
  refine Go.st (fun t k => XS.iushr X0.here hx rfl (b d15_6) rfl k) ?_
  show Go p e below _ (s₁.setTop (mkF m 7 #[.val (.ref a1), .val (.int (4 : Int32))] [(.int (0 : Int32))]))
  refine g_i2bZ X0 hx (0 : Int32) (b d15_7) rfl ?_
  exact own_eB X0 hx hret (by simp) rfl (b d15_8) e0 (by decide) ⟨rfl, N0, rfl⟩
theorem rm4_9 (hw : HW Z a0) (a1 a2 : Addr) (p3 : Int32) (kz4 : ClassId) (p5 p6 p7 p8 : Int32) (O0 : Old Z n0 h0) (P1 : Sta Z Z.heap "java/lang/String" "COMPACT_STRINGS" "Z" (.int p3)) (P2 : ¬ (p3 = (0 : Int32))) (P3 : Arv Z h0 a2 kz4 .char (4 : Int32) [(.int (own_c p5)), (.int (own_c p6)), (.int (own_c p7)), (.int (own_c p8))] (.int (0 : Int32))) (P4 : ¬ ((own_c p5) < (0 : Int32))) (P5 : ¬ ((65535 : Int32) < (own_c p5))) (P6 : ¬ ((own_c p6) < (0 : Int32))) (P7 : ¬ ((65535 : Int32) < (own_c p6))) (P8 : ¬ ((own_c p7) < (0 : Int32))) (P9 : ¬ ((65535 : Int32) < (own_c p7))) (P10 : ¬ ((own_c p8) < (0 : Int32))) (P11 : ¬ ((65535 : Int32) < (own_c p8))) (P12 : ¬ ((255 : Int32) < (own_mx (own_mx (own_mx (own_c p5) (own_c p6)) (own_c p7)) (own_c p8)))) (P13 : ¬ ((255 : Int32) < (own_c p5))) (P14 : ¬ ((255 : Int32) < (own_c p6))) (P15 : ¬ ((255 : Int32) < (own_c p7))) (P16 : ¬ ((255 : Int32) < (own_c p8))) (P17 : Exa Z h0 a1 "java/lang/String") (P18 : Fld Z h0 a1 "java/lang/String" "coder" "B" (.int (0 : Int32))) (P19 : n0 ≤ a1) (P20 : Fld Z h0 a1 "java/lang/String" "value" "[B" .null) :
    MM l mn14 jdk_42_method_149_code 6 none (R4 2 1 4 35) #[(.ref a1), (.ref a2), (.int (0 : Int32)), (.int (4 : Int32)), .null] Z h0 (fun v h L => ∃ (b1_3 : Addr) (k1_3 : ClassId), v = none ∧ Fr n0 L ∧ Keep h0 h [a1] ∧ h0.size ≤ b1_3 ∧ Fld Z h a1 "java/lang/String" "coder" "B" (.int (0 : Int32)) ∧ Fld Z h a1 "java/lang/String" "value" "[B" (.ref b1_3) ∧ Arv Z h b1_3 k1_3 .byte (4 : Int32) [(.int (((own_c p5).toInt8.toInt32).toInt8.toInt32)), (.int (((own_c p6).toInt8.toInt32).toInt8.toInt32)), (.int (((own_c p7).toInt8.toInt32).toInt8.toInt32)), (.int (((own_c p8).toInt8.toInt32).toInt8.toInt32))] (.int (0 : Int32))) := by
  refine own_hN n0 rfl pn_3 ?_
  intro p e s m below meth c s₁ hx b hml hret hZ hown hnm X0 e0 N0
  refine own_ct (mkF m 0 #[.val (.ref a1), .val (.ref a2), .val (.int (0 : Int32)), .val (.int (4 : Int32)), .val .null, .unset] []) rfl ?_
  refine g_aloadN X0 hx (b d4_0) rfl rfl ?_
  obtain ⟨T1, X1, e1, st1⟩ := initO X0 hx hZ hown (w22 hw) (w23 hw) (w24 hw) e0 (g := (mkF m 1 #[.val (.ref a1), .val (.ref a2), .val (.int (0 : Int32)), .val (.int (4 : Int32)), .val .null, .unset] [(.ref a1)])) rfl (by rw [hml]; rfl) rfl (b d4_1) (by decide) (W := 0) (by show 2 * 0 + _ ≤ _; exact Nat.le_of_eq rfl) (by decide)
  refine Go.st st1 ?_
  show Go p e below _ (T1.setTop (mkF m 4 #[.val (.ref a1), .val (.ref a2), .val (.int (0 : Int32)), .val (.int (4 : Int32)), .val .null, .unset] []))
  refine g_iloadN X1 hx (b d4_4) rfl ?_
  refine g_ifYes X1 hx (pc := 5) 27 (b d4_5) (XT.i0_ne_t (by decide : ¬ ((4 : Int32) = (0 : Int32)))) (by decide) ?_
  obtain ⟨T2, X2, e2, st2⟩ := getS2 X1 hx hZ hown (host := "") (Or.inl (w42 hw)) Via.refl e1 (P1.ext O0.2) (g := (mkF m 27 #[.val (.ref a1), .val (.ref a2), .val (.int (0 : Int32)), .val (.int (4 : Int32)), .val .null, .unset] [])) rfl (b d4_27)
  refine Go.st st2 ?_
  refine g_ifNo X2 hx (b d4_30) (XT.i0_eq_f P2) ?_
  refine g_aloadN X2 hx (b d4_33) rfl rfl ?_
  refine g_iloadN X2 hx (b d4_34) rfl ?_
  refine g_iloadN X2 hx (b d4_35) rfl ?_
  refine own_cS X2 hx hZ hown (w43 hw) (w44 hw) (w45 hw) (w46 hw) (rm8_8 hw a2 kz4 p5 p6 p7 p8 O0 P3 P13 P14 P15 P16) e2 0 (by decide) (by decide) (by rw [hml]; rfl) [(.ref a2), (.int (0 : Int32)), (.int (4 : Int32))] [] (lenOf pd_6 rfl) rfl rfl (Nat.le_of_eq rfl) (b d4_36) ?_
  rintro T3 _ L3 X3 ⟨b1_3, k1_3, rfl, M3, K3c, r3_0, r3_1⟩
  have N3 := Fr.app N0 M3
  have g_b1_3 : n0 ≤ b1_3 := Nat.le_trans (own_n0 O0) r3_0
  have s_b1_3 : h0.size ≤ b1_3 := Nat.le_trans (Keep.refl h0 [a1]).1 r3_0
  have O3 : Old Z n0 T3.heap := O0.keep K3c all0
  have K3 : Keep h0 T3.heap [a1] := (Keep.refl h0 [a1]).trans K3c all0
  refine g_astore X3 hx (b d4_39) rfl (l' := #[.val (.ref a1), .val (.ref a2), .val (.int (0 : Int32)), .val (.int (4 : Int32)), .val .null, .val (.ref b1_3)]) rfl ?_
  refine g_aloadN X3 hx (b d4_41) rfl rfl ?_
  refine g_aload X3 hx (b d4_42) rfl rfl ?_
  refine g_iloadN X3 hx (b d4_44) rfl ?_
  refine own_cS X3 hx hZ hown (w69 hw) (w70 hw) (w45 hw) (w71 hw) (rm15_8 hw b1_3 k1_3 p5 p6 p7 p8 O3 r3_1) rfl 1 (by decide) (by decide) (by rw [hml]; rfl) [(.ref b1_3), (.int (4 : Int32))] [(.ref a1)] (lenOf pd_14 rfl) rfl rfl (Nat.le_of_eq rfl) (b d4_45) ?_
  rintro T4 _ L4 X4 ⟨rfl, M4, eh4⟩
  have N4 := Fr.app N3 M4
  obtain ⟨T5, h5, X5, e5, W5, st5⟩ := putFN X4 hx hZ hown (w32 hw) Via.refl eh4 (P18.keep K3c nin0) (P17.keep K3c) (Or.inr ⟨(w28 hw), rfl, hnm⟩) (w12 hw) (ty := .byte) (v' := (.int (0 : Int32))) (by decide) rfl (by decide) (g := (mkF m 48 #[.val (.ref a1), .val (.ref a2), .val (.int (0 : Int32)), .val (.int (4 : Int32)), .val .null, .val (.ref b1_3)] [(.int (0 : Int32)), (.ref a1)])) rfl rfl (b d4_48)
  have F5 : Fld Z h5 a1 "java/lang/String" "coder" "B" (.int (0 : Int32)) := (P18.keep K3c nin0).same W5
  have N5 := Fr.snoc X5 N4 P19
  have O5 : Old Z n0 h5 := O3.wr W5 P19
  have K5 : Keep h0 h5 [a1] := K3.wr W5 (Or.inl (List.mem_of_getElem? (i := 0) rfl))
  refine Go.st st5 ?_
  refine g_aloadN X5 hx (b d4_51) rfl rfl ?_
  refine g_aload X5 hx (b d4_52) rfl rfl ?_
  have c6 := ((P20.keep K3c nin0).other W5 (Or.inr (slot_ne (Or.inr (w27 hw)) (Or.inr (w28 hw)) (by decide) (t := (.array .byte)) (t' := .byte) (by decide) (by decide))))
  obtain ⟨T7, h7, X7, e7, W7, st7⟩ := putF X5 hx hZ hown (host := "") (Or.inl (w31 hw)) Via.refl e5 c6 ((P17.keep K3c).wr W5) (Or.inr ⟨(w27 hw), rfl, hnm⟩) (w12 hw) (ty := (.array .byte)) (by decide) rfl rfl (g := (mkF m 54 #[.val (.ref a1), .val (.ref a2), .val (.int (0 : Int32)), .val (.int (4 : Int32)), .val .null, .val (.ref b1_3)] [(.ref b1_3), (.ref a1)])) rfl rfl (b d4_54)
  have F7 : Fld Z h7 a1 "java/lang/String" "value" "[B" (.ref b1_3) := c6.same W7
  have N7 := Fr.snoc X7 N5 P19
  have O7 : Old Z n0 h7 := O5.wr W7 P19
  have K7 : Keep h0 h7 [a1] := K5.wr W7 (Or.inl (List.mem_of_getElem? (i := 0) rfl))
  refine Go.st st7 ?_
  have c8 := (F5.other W7 (Or.inr (slot_ne (Or.inr (w28 hw)) (Or.inr (w27 hw)) (by decide) (t := .byte) (t' := (.array .byte)) (by decide) (by decide))))
  have c9 := ((r3_1.other W5 (Ne.symm (Nat.ne_of_lt (Nat.lt_of_lt_of_le P17.lt r3_0)))).other W7 (Ne.symm (Nat.ne_of_lt (Nat.lt_of_lt_of_le P17.lt r3_0))))
  exact own_eV X7 hx hret (b d4_57) e7 (by decide) ⟨b1_3, k1_3, rfl, N7, K7, s_b1_3, c8, F7, c9⟩
theorem rm3_9 (hw : HW Z a0) (a1 a2 : Addr) (kz3 : ClassId) (p4 p5 p6 p7 p8 : Int32) (O0 : Old Z n0 h0) (P1 : Arv Z h0 a2 kz3 .char (4 : Int32) [(.int (own_c p4)), (.int (own_c p5)), (.int (own_c p6)), (.int (own_c p7))] (.int (0 : Int32))) (P2 : Sta Z Z.heap "java/lang/String" "COMPACT_STRINGS" "Z" (.int p8)) (P3 : ¬ (p8 = (0 : Int32))) (P4 : ¬ ((own_c p4) < (0 : Int32))) (P5 : ¬ ((65535 : Int32) < (own_c p4))) (P6 : ¬ ((own_c p5) < (0 : Int32))) (P7 : ¬ ((65535 : Int32) < (own_c p5))) (P8 : ¬ ((own_c p6) < (0 : Int32))) (P9 : ¬ ((65535 : Int32) < (own_c p6))) (P10 : ¬ ((own_c p7) < (0 : Int32))) (P11 : ¬ ((65535 : Int32) < (own_c p7))) (P12 : ¬ ((255 : Int32) < (own_mx (own_mx (own_mx (own_c p4) (own_c p5)) (own_c p6)) (own_c p7)))) (P13 : ¬ ((255 : Int32) < (own_c p4))) (P14 : ¬ ((255 : Int32) < (own_c p5))) (P15 : ¬ ((255 : Int32) < (own_c p6))) (P16 : ¬ ((255 : Int32) < (own_c p7))) (P17 : Exa Z h0 a1 "java/lang/String") (P18 : Fld Z h0 a1 "java/lang/String" "coder" "B" (.int (0 : Int32))) (P19 : n0 ≤ a1) (P20 : Fld Z h0 a1 "java/lang/String" "value" "[B" .null) :
    MM l mn15 jdk_42_method_3_code 2 none (R4 3 1 4 52) #[(.ref a1), (.ref a2)] Z h0 (fun v h L => ∃ (b1_3_2 : Addr) (k1_3_2 : ClassId), v = none ∧ Fr n0 L ∧ Keep h0 h [a1] ∧ h0.size ≤ b1_3_2 ∧ Fld Z h a1 "java/lang/String" "coder" "B" (.int (0 : Int32)) ∧ Fld Z h a1 "java/lang/String" "value" "[B" (.ref b1_3_2) ∧ Arv Z h b1_3_2 k1_3_2 .byte (4 : Int32) [(.int (((own_c p4).toInt8.toInt32).toInt8.toInt32)), (.int (((own_c p5).toInt8.toInt32).toInt8.toInt32)), (.int (((own_c p6).toInt8.toInt32).toInt8.toInt32)), (.int (((own_c p7).toInt8.toInt32).toInt8.toInt32))] (.int (0 : Int32))) := by
  refine own_hN n0 rfl pn_3 ?_
  intro p e s m below meth c s₁ hx b hml hret hZ hown hnm X0 e0 N0
  refine own_ct (mkF m 0 #[.val (.ref a1), .val (.ref a2)] []) rfl ?_
  refine g_aloadN X0 hx (b d3_0) rfl rfl ?_
  refine g_aloadN X0 hx (b d3_1) rfl rfl ?_
  refine g_iconst X0 hx (0) (b d3_2) rfl ?_
  refine g_aloadN X0 hx (b d3_3) rfl rfl ?_
  obtain ⟨cl1, Ar1, -, S1, M1, -, -⟩ := id P1
  refine Go.st (fun t k => X0.arraylength hx (by rw [e0]; exact Ar1.1) (State.isArrayOf_alike hZ.alike Ar1.2.1) (g := (mkF m 4 #[.val (.ref a1), .val (.ref a2)] [(.ref a2), (.int (0 : Int32)), (.ref a2), (.ref a1)])) rfl rfl (b d3_4) t k) ?_
  rw [len_of S1 M1]
  refine g_aconstNull X0 hx (b d3_5) ?_
  refine own_cI X0 hx hZ hown (w18 hw) rfl (w19 hw) (w13 hw) (w21 hw) (rm4_9 hw a1 a2 p8 kz3 p4 p5 p6 p7 O0 P2 P3 P1 P4 P5 P6 P7 P8 P9 P10 P11 P12 P13 P14 P15 P16 P17 P18 P19 P20) e0 0 (by decide) (by decide) (by rw [hml]; rfl) a1 [(.ref a2), (.int (0 : Int32)), (.int (4 : Int32)), .null] [] (lenOf pd_9 rfl) rfl rfl (Nat.le_of_eq rfl) (b d3_6) ?_
  rintro T2 _ L2 X2 ⟨b1_3_2, k1_3_2, rfl, M2, K2c, r2_0, r2_1, r2_2, r2_3⟩
  have N2 := Fr.app N0 M2
  have g_b1_3_2 : n0 ≤ b1_3_2 := Nat.le_trans (own_n0 O0) r2_0
  have s_b1_3_2 : h0.size ≤ b1_3_2 := Nat.le_trans (Keep.refl h0 [a1]).1 r2_0
  have O2 : Old Z n0 T2.heap := O0.keep K2c (allS P19 all0)
  have K2 : Keep h0 T2.heap [a1] := (Keep.refl h0 [a1]).trans K2c (allS (Or.inl (List.mem_of_getElem? (i := 0) rfl)) all0)
  exact own_eV X2 hx hret (b d3_9) rfl (by decide) ⟨b1_3_2, k1_3_2, rfl, N2, K2, s_b1_3_2, r2_1, r2_2, r2_3⟩
theorem rm2_9 (hw : HW Z a0) (p1 p2 p3 p4 p5 : Int32) (O0 : Old Z n0 h0) (P1 : Sta Z Z.heap "java/lang/String" "COMPACT_STRINGS" "Z" (.int p5)) (P2 : ¬ (p5 = (0 : Int32))) (P3 : ¬ ((own_c p1) < (0 : Int32))) (P4 : ¬ ((65535 : Int32) < (own_c p1))) (P5 : ¬ ((own_c p2) < (0 : Int32))) (P6 : ¬ ((65535 : Int32) < (own_c p2))) (P7 : ¬ ((own_c p3) < (0 : Int32))) (P8 : ¬ ((65535 : Int32) < (own_c p3))) (P9 : ¬ ((own_c p4) < (0 : Int32))) (P10 : ¬ ((65535 : Int32) < (own_c p4))) (P11 : ¬ ((255 : Int32) < (own_mx (own_mx (own_mx (own_c p1) (own_c p2)) (own_c p3)) (own_c p4)))) (P12 : ¬ ((255 : Int32) < (own_c p1))) (P13 : ¬ ((255 : Int32) < (own_c p2))) (P14 : ¬ ((255 : Int32) < (own_c p3))) (P15 : ¬ ((255 : Int32) < (own_c p4))) :
    MM l mn16 method_6_code 6 (some (.object "java/lang/String")) (R4 4 3 12 66) #[(.int (4 : Int32)), (.int p1), (.int p2), (.int p3), (.int p4)] Z h0 (fun v h L => ∃ (b6 b1_3_2_7 : Addr) (k1_3_2_7 : ClassId), v = some (.ref b6) ∧ Fr n0 L ∧ Keep h0 h [] ∧ h0.size ≤ b6 ∧ h0.size ≤ b1_3_2_7 ∧ b6 ≠ b1_3_2_7 ∧ Exa Z h b6 "java/lang/String" ∧ Fld Z h b6 "java/lang/String" "value" "[B" (.ref b1_3_2_7) ∧ Fld Z h b6 "java/lang/String" "coder" "B" (.int (0 : Int32)) ∧ Arv Z h b1_3_2_7 k1_3_2_7 .byte (4 : Int32) [(.int (((own_c p1).toInt8.toInt32).toInt8.toInt32)), (.int (((own_c p2).toInt8.toInt32).toInt8.toInt32)), (.int (((own_c p3).toInt8.toInt32).toInt8.toInt32)), (.int (((own_c p4).toInt8.toInt32).toInt8.toInt32))] (.int (0 : Int32))) := by
  refine own_hN n0 rfl pn_0 ?_
  intro p e s m below meth c s₁ hx b hml hret hZ hown hnm X0 e0 N0
  refine own_ct (mkF m 0 #[.val (.int (4 : Int32)), .val (.int p1), .val (.int p2), .val (.int p3), .val (.int p4), .unset] []) rfl ?_
  refine g_iloadN X0 hx (b d2_0) rfl ?_
  refine g_ifYes X0 hx (pc := 1) 15 (b d2_1) (XT.i0_ne_t (by decide : ¬ ((4 : Int32) = (0 : Int32)))) (by decide) ?_
  refine g_iloadN X0 hx (b d2_15) rfl ?_
  refine g_iconst X0 hx (1) (b d2_16) rfl ?_
  refine g_icmpYes X0 hx (pc := 17) 40 (b d2_17) (XT.ii_ne_t (by decide : ¬ ((4 : Int32) = (1 : Int32)))) (by decide) ?_
  refine g_iloadN X0 hx (b d2_40) rfl ?_
  refine g_iconst X0 hx (2) (b d2_41) rfl ?_
  refine g_icmpYes X0 hx (pc := 42) 70 (b d2_42) (XT.ii_ne_t (by decide : ¬ ((4 : Int32) = (2 : Int32)))) (by decide) ?_
  refine g_iloadN X0 hx (b d2_70) rfl ?_
  refine g_iconst X0 hx (3) (b d2_71) rfl ?_
  refine g_icmpYes X0 hx (pc := 72) 105 (b d2_72) (XT.ii_ne_t (by decide : ¬ ((4 : Int32) = (3 : Int32)))) (by decide) ?_
  refine g_iconst X0 hx (4) (b d2_105) rfl ?_
  obtain ⟨T1, h1, k1, X1, e1, E1, A1, st1⟩ := newP X0 hx hZ (aty := .char) (w14 hw) e0 (g := (mkF m 106 #[.val (.int (4 : Int32)), .val (.int p1), .val (.int p2), .val (.int p3), .val (.int p4), .unset] [(.int (4 : Int32))])) rfl (b d2_106) rfl (by decide) (cap := 4) (by decide) (by decide) (by decide) (by decide)
  obtain ⟨b1, z1⟩ : ∃ z, z = h0.size := ⟨_, rfl⟩
  rw [← z1] at A1 st1
  have g_b1 : n0 ≤ b1 := Nat.le_trans (own_n0 O0) (Nat.le_of_eq z1.symm)
  have s_b1 : h0.size ≤ b1 := Nat.le_trans (Keep.refl h0 []).1 (Nat.le_of_eq z1.symm)
  have V1 : Arv Z h1 b1 k1 .char (4 : Int32) [(.int (0 : Int32)), (.int (0 : Int32)), (.int (0 : Int32)), (.int (0 : Int32))] (.int (0 : Int32)) := (Arv.new A1 (by decide)).pad (pad_rep [] (.int (0 : Int32)) 4)
  have O1 : Old Z n0 h1 := O0.ext E1
  have K1 : Keep h0 h1 [] := (Keep.refl h0 []).ext E1
  refine Go.st st1 ?_
  refine g_astore X1 hx (b d2_108) rfl (l' := #[.val (.int (4 : Int32)), .val (.int p1), .val (.int p2), .val (.int p3), .val (.int p4), .val (.ref b1)]) rfl ?_
  refine g_aload X1 hx (b d2_110) rfl rfl ?_
  refine g_iconst X1 hx (0) (b d2_112) rfl ?_
  refine g_iloadN X1 hx (b d2_113) rfl ?_
  obtain ⟨cl2, Ar2, q2, S2, M2, H2, G2⟩ := id V1
  have hin2 : ¬ ((0 : Int32) < 0 ∨ cl2.slots.size ≤ ((0 : Int32)).toNatClampNeg) := inb_of S2 ⟨by decide, by decide⟩
  obtain ⟨T2, h2, X2, e2, W2, st2⟩ := stC X1 hx hZ e1 Ar2 (j := (0 : Int32)) hin2 (g := (mkF m 114 #[.val (.int (4 : Int32)), .val (.int p1), .val (.int p2), .val (.int p3), .val (.int p4), .val (.ref b1)] [(.int p1), (.int (0 : Int32)), (.ref b1)])) rfl rfl (b d2_114)
  have V2 : Arv Z h2 b1 k1 .char (4 : Int32) [(.int (own_c p1)), (.int (0 : Int32)), (.int (0 : Int32)), (.int (0 : Int32))] (.int (0 : Int32)) := Arv.set Ar2 q2 S2 M2 H2 G2 (fits_nar_char _) W2 0 rfl (Nat.le_of_ble_eq_true rfl)
  have N2 := Fr.snoc X2 N0 g_b1
  have O2 : Old Z n0 h2 := O1.wr W2 g_b1
  have K2 : Keep h0 h2 [] := K1.wr W2 (Or.inr s_b1)
  refine Go.st st2 ?_
  refine g_aload X2 hx (b d2_115) rfl rfl ?_
  refine g_iconst X2 hx (1) (b d2_117) rfl ?_
  refine g_iloadN X2 hx (b d2_118) rfl ?_
  obtain ⟨cl3, Ar3, q3, S3, M3, H3, G3⟩ := id V2
  have hin3 : ¬ ((1 : Int32) < 0 ∨ cl3.slots.size ≤ ((1 : Int32)).toNatClampNeg) := inb_of S3 ⟨by decide, by decide⟩
  obtain ⟨T3, h3, X3, e3, W3, st3⟩ := stC X2 hx hZ e2 Ar3 (j := (1 : Int32)) hin3 (g := (mkF m 119 #[.val (.int (4 : Int32)), .val (.int p1), .val (.int p2), .val (.int p3), .val (.int p4), .val (.ref b1)] [(.int p2), (.int (1 : Int32)), (.ref b1)])) rfl rfl (b d2_119)
  have V3 : Arv Z h3 b1 k1 .char (4 : Int32) [(.int (own_c p1)), (.int (own_c p2)), (.int (0 : Int32)), (.int (0 : Int32))] (.int (0 : Int32)) := Arv.set Ar3 q3 S3 M3 H3 G3 (fits_nar_char _) W3 1 rfl (Nat.le_of_ble_eq_true rfl)
  have N3 := Fr.snoc X3 N2 g_b1
  have O3 : Old Z n0 h3 := O2.wr W3 g_b1
  have K3 : Keep h0 h3 [] := K2.wr W3 (Or.inr s_b1)
  refine Go.st st3 ?_
  refine g_aload X3 hx (b d2_120) rfl rfl ?_
  refine g_iconst X3 hx (2) (b d2_122) rfl ?_
  refine g_iloadN X3 hx (b d2_123) rfl ?_
  obtain ⟨cl4, Ar4, q4, S4, M4, H4, G4⟩ := id V3
  have hin4 : ¬ ((2 : Int32) < 0 ∨ cl4.slots.size ≤ ((2 : Int32)).toNatClampNeg) := inb_of S4 ⟨by decide, by decide⟩
  obtain ⟨T4, h4, X4, e4, W4, st4⟩ := stC X3 hx hZ e3 Ar4 (j := (2 : Int32)) hin4 (g := (mkF m 124 #[.val (.int (4 : Int32)), .val (.int p1), .val (.int p2), .val (.int p3), .val (.int p4), .val (.ref b1)] [(.int p3), (.int (2 : Int32)), (.ref b1)])) rfl rfl (b d2_124)
  have V4 : Arv Z h4 b1 k1 .char (4 : Int32) [(.int (own_c p1)), (.int (own_c p2)), (.int (own_c p3)), (.int (0 : Int32))] (.int (0 : Int32)) := Arv.set Ar4 q4 S4 M4 H4 G4 (fits_nar_char _) W4 2 rfl (Nat.le_of_ble_eq_true rfl)
  have N4 := Fr.snoc X4 N3 g_b1
  have O4 : Old Z n0 h4 := O3.wr W4 g_b1
  have K4 : Keep h0 h4 [] := K3.wr W4 (Or.inr s_b1)
  refine Go.st st4 ?_
  refine g_aload X4 hx (b d2_125) rfl rfl ?_
  refine g_iconst X4 hx (3) (b d2_127) rfl ?_
  refine g_iload X4 hx (b d2_128) rfl ?_
  obtain ⟨cl5, Ar5, q5, S5, M5, H5, G5⟩ := id V4
  have hin5 : ¬ ((3 : Int32) < 0 ∨ cl5.slots.size ≤ ((3 : Int32)).toNatClampNeg) := inb_of S5 ⟨by decide, by decide⟩
  obtain ⟨T5, h5, X5, e5, W5, st5⟩ := stC X4 hx hZ e4 Ar5 (j := (3 : Int32)) hin5 (g := (mkF m 130 #[.val (.int (4 : Int32)), .val (.int p1), .val (.int p2), .val (.int p3), .val (.int p4), .val (.ref b1)] [(.int p4), (.int (3 : Int32)), (.ref b1)])) rfl rfl (b d2_130)
  have V5 : Arv Z h5 b1 k1 .char (4 : Int32) [(.int (own_c p1)), (.int (own_c p2)), (.int (own_c p3)), (.int (own_c p4))] (.int (0 : Int32)) := Arv.set Ar5 q5 S5 M5 H5 G5 (fits_nar_char _) W5 3 rfl (Nat.le_of_ble_eq_true rfl)
  have N5 := Fr.snoc X5 N4 g_b1
  have O5 : Old Z n0 h5 := O4.wr W5 g_b1
  have K5 : Keep h0 h5 [] := K4.wr W5 (Or.inr s_b1)
  refine Go.st st5 ?_
  obtain ⟨T6, h6, X6, e6, E6, A6, D6, -, st6⟩ := newO X5 hx hZ hown (w11 hw) (w12 hw) (w13 hw) e5 (g := (mkF m 131 #[.val (.int (4 : Int32)), .val (.int p1), .val (.int p2), .val (.int p3), .val (.int p4), .val (.ref b1)] [])) rfl (b d2_131) (by decide) (by decide)
  obtain ⟨b6, z6⟩ : ∃ z, z = h5.size := ⟨_, rfl⟩
  rw [← z6] at A6 D6 st6
  have g_b6 : n0 ≤ b6 := Nat.le_trans (own_n0 O5) (Nat.le_of_eq z6.symm)
  have s_b6 : h0.size ≤ b6 := Nat.le_trans K5.1 (Nat.le_of_eq z6.symm)
  have O6 : Old Z n0 h6 := O5.ext E6
  have K6 : Keep h0 h6 [] := K5.ext E6
  have f6_27 : Fld Z h6 b6 "java/lang/String" "value" "[B" .null := D6 (Or.inr (w27 hw)) (ty := (.array .byte)) (by decide)
  have f6_28 : Fld Z h6 b6 "java/lang/String" "coder" "B" (.int (0 : Int32)) := D6 (Or.inr (w28 hw)) (ty := .byte) (by decide)
  refine Go.st st6 ?_
  refine Go.st (fun t k => XS.dup X6.here hx rfl (b d2_134) rfl rfl k) ?_
  refine g_aload X6 hx (b d2_135) rfl rfl ?_
  refine own_cI X6 hx hZ hown (w15 hw) rfl (w16 hw) (w13 hw) (w17 hw) (rm3_9 hw b6 b1 k1 p1 p2 p3 p4 p5 O6 (V5.ext E6) P1 P2 P3 P4 P5 P6 P7 P8 P9 P10 P11 P12 P13 P14 P15 A6 f6_28 g_b6 f6_27) e6 1 (by decide) (by decide) (by rw [hml]; rfl) b6 [(.ref b1)] [(.ref b6)] (lenOf pd_10 rfl) rfl rfl (Nat.le_of_eq rfl) (b d2_137) ?_
  rintro T7 _ L7 X7 ⟨b1_3_2_7, k1_3_2_7, rfl, M7, K7c, r7_0, r7_1, r7_2, r7_3⟩
  have N7 := Fr.app N5 M7
  have g_b1_3_2_7 : n0 ≤ b1_3_2_7 := Nat.le_trans (own_n0 O6) r7_0
  have s_b1_3_2_7 : h0.size ≤ b1_3_2_7 := Nat.le_trans K6.1 r7_0
  have O7 : Old Z n0 T7.heap := O6.keep K7c (allS g_b6 all0)
  have K7 : Keep h0 T7.heap [] := K6.trans K7c (allS (Or.inr s_b6) all0)
  exact own_eA X7 hx hret rfl rfl (b d2_140) rfl (by decide) ⟨b6, b1_3_2_7, k1_3_2_7, rfl, N7, K7, s_b6, s_b1_3_2_7, (Nat.ne_of_lt (Nat.lt_of_lt_of_le A6.lt r7_0)), (A6.keep K7c), r7_2, r7_1, r7_3⟩
theorem rm7_9 (hw : HW Z a0) (a1 a2 : Addr) (kz3 : ClassId) (p4 p5 p6 p7 : Int32) (O0 : Old Z n0 h0) (P1 : Fld Z h0 a1 "java/lang/String" "value" "[B" (.ref a2)) (P2 : Arv Z h0 a2 kz3 .byte (4 : Int32) [(.int (((own_c p4).toInt8.toInt32).toInt8.toInt32)), (.int (((own_c p5).toInt8.toInt32).toInt8.toInt32)), (.int (((own_c p6).toInt8.toInt32).toInt8.toInt32)), (.int (((own_c p7).toInt8.toInt32).toInt8.toInt32))] (.int (0 : Int32))) :
    MM l mn17 jdk_42_method_55_code 1 (some .boolean) (R4 0 0 0 0) #[(.ref a1)] Z h0 (fun v h L => v = some (.int (0 : Int32)) ∧ Fr n0 L ∧ h = h0) := by
  refine own_hN n0 rfl pn_3 ?_
  intro p e s m below meth c s₁ hx b hml hret hZ hown hnm X0 e0 N0
  refine own_ct (mkF m 0 #[.val (.ref a1)] []) rfl ?_
  refine g_aloadN X0 hx (b d7_0) rfl rfl ?_
  obtain ⟨T1, X1, e1, st1⟩ := getF X0 hx hZ hown (host := "") (Or.inl (w31 hw)) Via.refl e0 P1 (g := (mkF m 1 #[.val (.ref a1)] [(.ref a1)])) rfl rfl (b d7_1)
  refine Go.st st1 ?_
  obtain ⟨cl2, Ar2, -, S2, M2, -, -⟩ := id P2
  refine Go.st (fun t k => X1.arraylength hx (by rw [e1]; exact Ar2.1) (State.isArrayOf_alike hZ.alike Ar2.2.1) (g := (mkF m 4 #[.val (.ref a1)] [(.ref a2)])) rfl rfl (b d7_4) t k) ?_
  rw [len_of S2 M2]
  refine g_ifYes X1 hx (pc := 5) 12 (b d7_5) (XT.i0_ne_t (by decide : ¬ ((4 : Int32) = (0 : Int32)))) (by decide) ?_
  refine g_iconst X1 hx (0) (b d7_12) rfl ?_
  exact own_eB X1 hx hret (by simp) rfl (b d7_13) e1 (by decide) ⟨rfl, N0, rfl⟩
theorem rm16_8 (hw : HW Z a0) (a1 a2 : Addr) (kz3 : ClassId) (p4 p5 p6 p7 p8 : Int32) (O0 : Old Z n0 h0) (P1 : Fld Z h0 a1 "java/lang/String" "value" "[B" (.ref a2)) (P2 : Arv Z h0 a2 kz3 .byte (4 : Int32) [(.int (((own_c p4).toInt8.toInt32).toInt8.toInt32)), (.int (((own_c p5).toInt8.toInt32).toInt8.toInt32)), (.int (((own_c p6).toInt8.toInt32).toInt8.toInt32)), (.int (((own_c p7).toInt8.toInt32).toInt8.toInt32))] (.int (0 : Int32))) (P3 : Exa Z h0 a1 "java/lang/String") (P4 : Sta Z Z.heap "java/lang/String" "COMPACT_STRINGS" "Z" (.int p8)) (P5 : ¬ (p8 = (0 : Int32))) (P6 : Fld Z h0 a1 "java/lang/String" "coder" "B" (.int (0 : Int32))) :
    MM l mn21 jdk_42_method_54_code 1 (some .int) (R4 1 0 0 13) #[(.ref a1)] Z h0 (fun v h L => v = some (.int (4 : Int32)) ∧ Fr n0 L ∧ h = h0) := by
  refine own_hN n0 rfl pn_3 ?_
  intro p e s m below meth c s₁ hx b hml hret hZ hown hnm X0 e0 N0
  refine own_ct (mkF m 0 #[.val (.ref a1)] []) rfl ?_
  refine g_aloadN X0 hx (b d16_0) rfl rfl ?_
  obtain ⟨T1, X1, e1, st1⟩ := getF X0 hx hZ hown (host := "") (Or.inl (w31 hw)) Via.refl e0 P1 (g := (mkF m 1 #[.val (.ref a1)] [(.ref a1)])) rfl rfl (b d16_1)
  refine Go.st st1 ?_
  obtain ⟨cl2, Ar2, -, S2, M2, -, -⟩ := id P2
  refine Go.st (fun t k => X1.arraylength hx (by rw [e1]; exact Ar2.1) (State.isArrayOf_alike hZ.alike Ar2.2.1) (g := (mkF m 4 #[.val (.ref a1)] [(.ref a2)])) rfl rfl (b d16_4) t k) ?_
  rw [len_of S2 M2]
  refine g_aloadN X1 hx (b d16_5) rfl rfl ?_
  refine own_cV X1 hx hZ hown (w77 hw) (w78 hw) (notFace_of_selects (args := #[]) (mvT hZ (w80 hw))) (w80 hw) (w79 hw) (w13 hw) (w81 hw) (rm17_2 hw a1 p8 O0 P4 P5 P6) e1 1 (by decide) (by decide) (by rw [hml]; rfl) P3 [] [(.int (4 : Int32))] (lenOf pd_15 rfl) rfl rfl (Nat.le_of_eq rfl) (b d16_6) ?_
  rintro T3 _ L3 X3 ⟨rfl, M3, eh3⟩
  have N3 := Fr.app N0 M3
  refine g_ishrZ X3 hx (4 : Int32) (b d16_9) rfl ?_
  exact own_eI X3 hx hret (b d16_10) eh3 (by decide) ⟨rfl, N3, rfl⟩
theorem rm18_8 (hw : HW Z a0) (a1 a2 : Addr) (kz3 : ClassId) (p4 p5 p6 p7 p8 : Int32) (O0 : Old Z n0 h0) (P1 : Exa Z h0 a1 "java/lang/String") (P2 : Fld Z h0 a1 "java/lang/String" "value" "[B" (.ref a2)) (P3 : Arv Z h0 a2 kz3 .byte (4 : Int32) [(.int (((own_c p4).toInt8.toInt32).toInt8.toInt32)), (.int (((own_c p5).toInt8.toInt32).toInt8.toInt32)), (.int (((own_c p6).toInt8.toInt32).toInt8.toInt32)), (.int (((own_c p7).toInt8.toInt32).toInt8.toInt32))] (.int (0 : Int32))) (P4 : Sta Z Z.heap "java/lang/String" "COMPACT_STRINGS" "Z" (.int p8)) (P5 : ¬ (p8 = (0 : Int32))) (P6 : Fld Z h0 a1 "java/lang/String" "coder" "B" (.int (0 : Int32))) :
    MM l mn26 jdk_42_method_59_code 3 (some .int) (R4 2 0 0 29) #[(.ref a1), (.int (0 : Int32)), (.int (4 : Int32))] Z h0 (fun v h L => v = some (.int (4 : Int32)) ∧ Fr n0 L ∧ h = h0) := by
  refine own_hN n0 rfl pn_3 ?_
  intro p e s m below meth c s₁ hx b hml hret hZ hown hnm X0 e0 N0
  refine own_ct (mkF m 0 #[.val (.ref a1), .val (.int (0 : Int32)), .val (.int (4 : Int32))] []) rfl ?_
  refine g_iloadN X0 hx (b d18_0) rfl ?_
  refine g_iloadN X0 hx (b d18_1) rfl ?_
  refine g_aloadN X0 hx (b d18_2) rfl rfl ?_
  refine own_cV X0 hx hZ hown (w87 hw) (w73 hw) (notFace_of_selects (args := #[]) (mvT hZ (w75 hw))) (w75 hw) (w74 hw) (w13 hw) (w76 hw) (rm16_8 hw a1 a2 kz3 p4 p5 p6 p7 p8 O0 P2 P3 P1 P4 P5 P6) e0 2 (by decide) (by decide) (by rw [hml]; rfl) P1 [] [(.int (4 : Int32)), (.int (0 : Int32))] (lenOf pd_16 rfl) rfl rfl (Nat.le_of_eq rfl) (b d18_3) ?_
  rintro T1 _ L1 X1 ⟨rfl, M1, eh1⟩
  have N1 := Fr.app N0 M1
  refine own_cS X1 hx hZ hown (w88 hw) (w89 hw) (w90 hw) (w91 hw) (rm19_4 hw O0) eh1 0 (by decide) (by decide) (by rw [hml]; rfl) [(.int (0 : Int32)), (.int (4 : Int32)), (.int (4 : Int32))] [] (lenOf pd_18 rfl) rfl rfl (Nat.le_of_eq rfl) (b d18_6) ?_
  rintro T2 _ L2 X2 ⟨rfl, M2, eh2⟩
  have N2 := Fr.app N1 M2
  refine Go.st (fun t k => XS.pop X2.here hx rfl (b d18_9) rfl rfl k) ?_
  refine g_aloadN X2 hx (b d18_10) rfl rfl ?_
  refine own_cV X2 hx hZ hown (w96 hw) (w97 hw) (notFace_of_selects (args := #[]) (mvT hZ (w99 hw))) (w99 hw) (w98 hw) (w13 hw) (w100 hw) (rm21_2 hw a1 p8 O0 P4 P5 P6) eh2 0 (by decide) (by decide) (by rw [hml]; rfl) P1 [] [] (lenOf pd_12 rfl) rfl rfl (Nat.le_of_eq rfl) (b d18_11) ?_
  rintro T3 _ L3 X3 ⟨rfl, M3, eh3⟩
  have N3 := Fr.app N2 M3
  refine g_ifNo X3 hx (b d18_14) (XT.i0_eq_f (by decide : ¬ ((1 : Int32) = (0 : Int32)))) ?_
  refine g_iloadN X3 hx (b d18_17) rfl ?_
  refine g_iloadN X3 hx (b d18_18) rfl ?_
  refine g_isubZ X3 hx (4 : Int32) (b d18_19) rfl ?_
  exact own_eI X3 hx hret (b d18_20) eh3 (by decide) ⟨rfl, N3, rfl⟩
theorem rm6_16 (hw : HW Z a0) (a1 : Addr) (p2 : Int32) (a3 : Addr) (kz4 : ClassId) (p5 p6 p7 p8 p9 : Int32) (O0 : Old Z n0 h0) (P1 : Exa Z h0 a1 "java/lang/String") (P2 : Fld Z h0 a1 "java/lang/String" "value" "[B" (.ref a3)) (P3 : Arv Z h0 a3 kz4 .byte (4 : Int32) [(.int (((own_c p5).toInt8.toInt32).toInt8.toInt32)), (.int (((own_c p6).toInt8.toInt32).toInt8.toInt32)), (.int (((own_c p7).toInt8.toInt32).toInt8.toInt32)), (.int (((own_c p8).toInt8.toInt32).toInt8.toInt32))] (.int (0 : Int32))) (P4 : Sta Z Z.heap "java/lang/String" "COMPACT_STRINGS" "Z" (.int p9)) (P5 : ¬ (p9 = (0 : Int32))) (P6 : Fld Z h0 a1 "java/lang/String" "coder" "B" (.int (0 : Int32))) (P7 : p2 < (4 : Int32)) :
    MM l mn18 prog_38_method_2_code 2 (some .boolean) (R4 3 0 0 43) #[(.ref a1), (.int p2)] Z h0 (fun v h L => v = some (.int (0 : Int32)) ∧ Fr n0 L ∧ h = h0) := by
  refine own_hN n0 rfl pn_4 ?_
  intro p e s m below meth c s₁ hx b hml hret hZ hown hnm X0 e0 N0
  refine own_ct (mkF m 0 #[.val (.ref a1), .val (.int p2)] []) rfl ?_
  refine g_aloadN X0 hx (b d6_0) rfl rfl ?_
  refine Go.st (fun t k => XS.ifnullNo X0.here hx rfl (b d6_1) rfl k) ?_
  refine g_aloadN X0 hx (b d6_4) rfl rfl ?_
  refine own_cV X0 hx hZ hown (w37 hw) (w38 hw) (notFace_of_selects (args := #[]) (mvT hZ (w40 hw))) (w40 hw) (w39 hw) (w13 hw) (w41 hw) (rm7_9 hw a1 a3 kz4 p5 p6 p7 p8 O0 P2 P3) e0 0 (by decide) (by decide) (by rw [hml]; rfl) P1 [] [] (lenOf pd_12 rfl) rfl rfl (Nat.le_of_eq rfl) (b d6_5) ?_
  rintro T1 _ L1 X1 ⟨rfl, M1, eh1⟩
  have N1 := Fr.app N0 M1
  refine g_ifNo X1 hx (b d6_8) (XT.i0_ne_f (by decide : (0 : Int32) = (0 : Int32))) ?_
  refine g_aloadN X1 hx (b d6_11) rfl rfl ?_
  refine g_iconst X1 hx (0) (b d6_12) rfl ?_
  refine g_aloadN X1 hx (b d6_13) rfl rfl ?_
  refine own_cV X1 hx hZ hown (w72 hw) (w73 hw) (notFace_of_selects (args := #[]) (mvT hZ (w75 hw))) (w75 hw) (w74 hw) (w13 hw) (w76 hw) (rm16_8 hw a1 a3 kz4 p5 p6 p7 p8 p9 O0 P2 P3 P1 P4 P5 P6) eh1 2 (by decide) (by decide) (by rw [hml]; rfl) P1 [] [(.int (0 : Int32)), (.ref a1)] (lenOf pd_16 rfl) rfl rfl (Nat.le_of_eq rfl) (b d6_14) ?_
  rintro T2 _ L2 X2 ⟨rfl, M2, eh2⟩
  have N2 := Fr.app N1 M2
  refine own_cV X2 hx hZ hown (w82 hw) (w83 hw) (notFace_of_selects (args := #[]) (mvT hZ (w85 hw))) (w85 hw) (w84 hw) (w13 hw) (w86 hw) (rm18_8 hw a1 a3 kz4 p5 p6 p7 p8 p9 O0 P1 P2 P3 P4 P5 P6) eh2 0 (by decide) (by decide) (by rw [hml]; rfl) P1 [(.int (0 : Int32)), (.int (4 : Int32))] [] (lenOf pd_21 rfl) rfl rfl (Nat.le_of_eq rfl) (b d6_17) ?_
  rintro T3 _ L3 X3 ⟨rfl, M3, eh3⟩
  have N3 := Fr.app N2 M3
  refine g_iloadN X3 hx (b d6_20) rfl ?_
  refine g_icmpYes X3 hx (pc := 21) 28 (b d6_21) (XT.ii_gt_t P7) (by decide) ?_
  refine g_iconst X3 hx (0) (b d6_28) rfl ?_
  exact own_eB X3 hx hret (by simp) rfl (b d6_29) eh3 (by decide) ⟨rfl, N3, rfl⟩
theorem rm6_17 (hw : HW Z a0) (a1 : Addr) (p2 : Int32) (a3 : Addr) (kz4 : ClassId) (p5 p6 p7 p8 p9 : Int32) (O0 : Old Z n0 h0) (P1 : Exa Z h0 a1 "java/lang/String") (P2 : Fld Z h0 a1 "java/lang/String" "value" "[B" (.ref a3)) (P3 : Arv Z h0 a3 kz4 .byte (4 : Int32) [(.int (((own_c p5).toInt8.toInt32).toInt8.toInt32)), (.int (((own_c p6).toInt8.toInt32).toInt8.toInt32)), (.int (((own_c p7).toInt8.toInt32).toInt8.toInt32)), (.int (((own_c p8).toInt8.toInt32).toInt8.toInt32))] (.int (0 : Int32))) (P4 : Sta Z Z.heap "java/lang/String" "COMPACT_STRINGS" "Z" (.int p9)) (P5 : ¬ (p9 = (0 : Int32))) (P6 : Fld Z h0 a1 "java/lang/String" "coder" "B" (.int (0 : Int32))) (P7 : ¬ (p2 < (4 : Int32))) :
    MM l mn18 prog_38_method_2_code 2 (some .boolean) (R4 3 0 0 43) #[(.ref a1), (.int p2)] Z h0 (fun v h L => v = some (.int (1 : Int32)) ∧ Fr n0 L ∧ h = h0) := by
  refine own_hN n0 rfl pn_4 ?_
  intro p e s m below meth c s₁ hx b hml hret hZ hown hnm X0 e0 N0
  refine own_ct (mkF m 0 #[.val (.ref a1), .val (.int p2)] []) rfl ?_
  refine g_aloadN X0 hx (b d6_0) rfl rfl ?_
  refine Go.st (fun t k => XS.ifnullNo X0.here hx rfl (b d6_1) rfl k) ?_
  refine g_aloadN X0 hx (b d6_4) rfl rfl ?_
  refine own_cV X0 hx hZ hown (w37 hw) (w38 hw) (notFace_of_selects (args := #[]) (mvT hZ (w40 hw))) (w40 hw) (w39 hw) (w13 hw) (w41 hw) (rm7_9 hw a1 a3 kz4 p5 p6 p7 p8 O0 P2 P3) e0 0 (by decide) (by decide) (by rw [hml]; rfl) P1 [] [] (lenOf pd_12 rfl) rfl rfl (Nat.le_of_eq rfl) (b d6_5) ?_
  rintro T1 _ L1 X1 ⟨rfl, M1, eh1⟩
  have N1 := Fr.app N0 M1
  refine g_ifNo X1 hx (b d6_8) (XT.i0_ne_f (by decide : (0 : Int32) = (0 : Int32))) ?_
  refine g_aloadN X1 hx (b d6_11) rfl rfl ?_
  refine g_iconst X1 hx (0) (b d6_12) rfl ?_
  refine g_aloadN X1 hx (b d6_13) rfl rfl ?_
  refine own_cV X1 hx hZ hown (w72 hw) (w73 hw) (notFace_of_selects (args := #[]) (mvT hZ (w75 hw))) (w75 hw) (w74 hw) (w13 hw) (w76 hw) (rm16_8 hw a1 a3 kz4 p5 p6 p7 p8 p9 O0 P2 P3 P1 P4 P5 P6) eh1 2 (by decide) (by decide) (by rw [hml]; rfl) P1 [] [(.int (0 : Int32)), (.ref a1)] (lenOf pd_16 rfl) rfl rfl (Nat.le_of_eq rfl) (b d6_14) ?_
  rintro T2 _ L2 X2 ⟨rfl, M2, eh2⟩
  have N2 := Fr.app N1 M2
  refine own_cV X2 hx hZ hown (w82 hw) (w83 hw) (notFace_of_selects (args := #[]) (mvT hZ (w85 hw))) (w85 hw) (w84 hw) (w13 hw) (w86 hw) (rm18_8 hw a1 a3 kz4 p5 p6 p7 p8 p9 O0 P1 P2 P3 P4 P5 P6) eh2 0 (by decide) (by decide) (by rw [hml]; rfl) P1 [(.int (0 : Int32)), (.int (4 : Int32))] [] (lenOf pd_21 rfl) rfl rfl (Nat.le_of_eq rfl) (b d6_17) ?_
  rintro T3 _ L3 X3 ⟨rfl, M3, eh3⟩
  have N3 := Fr.app N2 M3
  refine g_iloadN X3 hx (b d6_20) rfl ?_
  refine g_icmpNo X3 hx (b d6_21) (XT.ii_gt_f P7) ?_
  refine g_iconst X3 hx (1) (b d6_24) rfl ?_
  refine g_goto X3 hx (pc := 25) 29 (b d6_25) (by decide) ?_
  exact own_eB X3 hx hret (by simp) rfl (b d6_29) eh3 (by decide) ⟨rfl, N3, rfl⟩
theorem rm6_18 (hw : HW Z a0) (p1 : Int32) (O0 : Old Z n0 h0) :
    MM l mn18 prog_38_method_2_code 2 (some .boolean) (R4 0 0 0 0) #[.null, (.int p1)] Z h0 (fun v h L => v = some (.int (0 : Int32)) ∧ Fr n0 L ∧ h = h0) := by
  refine own_hN n0 rfl pn_4 ?_
  intro p e s m below meth c s₁ hx b hml hret hZ hown hnm X0 e0 N0
  refine own_ct (mkF m 0 #[.val .null, .val (.int p1)] []) rfl ?_
  refine g_aloadN X0 hx (b d6_0) rfl rfl ?_
  refine Go.st (fun t k => XS.ifnullYes X0.here hx rfl (pc0 := 1) (pc' := 28) rfl (b d6_1) rfl (by decide) (by decide) k) ?_
  refine g_iconst X0 hx (0) (b d6_28) rfl ?_
  exact own_eB X0 hx hret (by simp) rfl (b d6_29) e0 (by decide) ⟨rfl, N0, rfl⟩
def Q_rm0 (n0 : Nat) (v : Option Value) (L : List Loc) : Prop := v = some (.int (1 : Int32)) ∧ Fr n0 L
set_option maxRecDepth 65536 in
set_option maxHeartbeats 400000000 in
theorem rm0 (l : Launch) (Z : State) (a0 : Array Value) (hw : ∀ d ∈ tables_1, d.before a0 Z = true) (ws : List Jvm.Cond) (i0 : Int32) (i1 : Int32) (i2 : Int32) (i3 : Int32) (i4 : Int32) (i5 : Int32) (w1i : Int32) (h0 : Heap) (n0 : Nat) (O0 : Old Z n0 h0) (Y3 : Sta Z Z.heap "java/lang/String" "COMPACT_STRINGS" "Z" (.int w1i)) (Y4 : ¬ (w1i = (0 : Int32))) (Y10 : Sta Z Z.heap "java/lang/StringUTF16" "$assertionsDisabled" "Z" (.int (1 : Int32))) (Y12 : Sta Z Z.heap "java/lang/StringUTF16" "HI_BYTE_SHIFT" "I" (.int (0 : Int32))) (Y14 : Sta Z Z.heap "java/lang/StringUTF16" "LO_BYTE_SHIFT" "I" (.int (8 : Int32))) (HH_0 : Jvm.Lit.constHeld Z "java/lang/String" 7) (HC : Jvm.Lit.compactW.before a0 Z = true) :
    MetFree l x (head1 (Jvm.Cond.code x code maxLocals ret :: ws) room_1) (fun a U => a = #[(.int i0), (.int i1), (.int i2), (.int i3), (.int i4), (.int i5)] ∧ Z.Warmed39 U.vm ∧ U.heap = h0 ∧ U.vm = Z.vm) (fun _ _ _ _ _ => True) (fun _ U o U' => ∃ v L, o = .returned v ∧ Q_rm0 n0 v L ∧ ReturnedEndW U o U' L room_1.cells room_1.slots) := by
  refine MetFree.of_bodySF (plainFor_of_name pn_0) hisR ?_
  intro p e s m args below meth c s₁ Bd hml0 hP hK
  obtain ⟨rfl, hZ, hh, hvm⟩ := hP
  have hx := Bd.exec
  have hby := Bd.bytes
  have hml : c.maxLocals = 15 := hml0
  have hown : s.vm.findClass "com/example/outbound_courier/outboundcourier/util/CharactersIsOneToPinLaw" = some m.cls := findClass_of_methodNamed Bd.named
  have hnm := (name_of_methodNamed Bd.named Bd.method).1
  have X0 : Stand p l e room_1 s m #[(.int i0), (.int i1), (.int i2), (.int i3), (.int i4), (.int i5)] below meth c s₁ [] 0 0 := Stand.of_body Bd
  have e0 : s₁.heap = h0 := by rw [← hh, Bd.state]; rfl
  have N0 := Fr.nil n0
  have b : ∀ {pc : Nat} {i : Instr} {k : Nat}, decode code pc = .ok (i, k) → decode c.code pc = .ok (i, k) := fun h => hb hby h
  have I0 : IB Z s.vm [] := by rw [hvm]; exact IB.start
  refine Go.start (P := (fun o U' => ∃ v L, o = .returned v ∧ Q_rm0 n0 v L ∧ ReturnedEndW s o U' L room_1.cells room_1.slots)) (castTop (g' := (mkF m 0 #[.val (.int i0), .val (.int i1), .val (.int i2), .val (.int i3), .val (.int i4), .val (.int i5), .unset, .unset, .unset, .unset, .unset, .unset, .unset, .unset, .unset] [])) (by first | rfl | simp [entryFrame, mkF, argsToLocals, Value.category, maxLocals]) (T := s₁)) ?_
  refine g_iloadN X0 hx (b at_0) rfl ?_
  refine own_cS X0 hx hZ hown (w0 hw) (w1 hw) (w2 hw) (w3 hw) (rmP hw i2 O0) e0 0 (by decide) (by decide) (by rw [hml]; rfl) [(.int i2)] [] (lenOf pd_7 rfl) rfl rfl (Nat.le_of_eq rfl) (b at_1) ?_
  rintro T1 _ L1 X1 ⟨cv_1, rfl, M1, eh1, r1_0, r1_1⟩
  have N1 := Fr.app N0 M1
  refine g_istore X1 hx (b at_4) (l' := #[.val (.int i0), .val (.int i1), .val (.int i2), .val (.int i3), .val (.int i4), .val (.int i5), .val (.int cv_1), .unset, .unset, .unset, .unset, .unset, .unset, .unset, .unset]) rfl ?_
  refine g_iloadN X1 hx (b at_6) rfl ?_
  refine own_cS X1 hx hZ hown (w0 hw) (w1 hw) (w2 hw) (w3 hw) (rmP hw i3 O0) eh1 0 (by decide) (by decide) (by rw [hml]; rfl) [(.int i3)] [] (lenOf pd_7 rfl) rfl rfl (Nat.le_of_eq rfl) (b at_7) ?_
  rintro T2 _ L2 X2 ⟨cv_2, rfl, M2, eh2, r2_0, r2_1⟩
  have N2 := Fr.app N1 M2
  refine g_istore X2 hx (b at_10) (l' := #[.val (.int i0), .val (.int i1), .val (.int i2), .val (.int i3), .val (.int i4), .val (.int i5), .val (.int cv_1), .val (.int cv_2), .unset, .unset, .unset, .unset, .unset, .unset, .unset]) rfl ?_
  refine g_iload X2 hx (b at_12) rfl ?_
  refine own_cS X2 hx hZ hown (w0 hw) (w1 hw) (w2 hw) (w3 hw) (rmP hw i4 O0) eh2 0 (by decide) (by decide) (by rw [hml]; rfl) [(.int i4)] [] (lenOf pd_7 rfl) rfl rfl (Nat.le_of_eq rfl) (b at_14) ?_
  rintro T3 _ L3 X3 ⟨cv_3, rfl, M3, eh3, r3_0, r3_1⟩
  have N3 := Fr.app N2 M3
  refine g_istore X3 hx (b at_17) (l' := #[.val (.int i0), .val (.int i1), .val (.int i2), .val (.int i3), .val (.int i4), .val (.int i5), .val (.int cv_1), .val (.int cv_2), .val (.int cv_3), .unset, .unset, .unset, .unset, .unset, .unset]) rfl ?_
  refine g_iload X3 hx (b at_19) rfl ?_
  refine own_cS X3 hx hZ hown (w0 hw) (w1 hw) (w2 hw) (w3 hw) (rmP hw i5 O0) eh3 0 (by decide) (by decide) (by rw [hml]; rfl) [(.int i5)] [] (lenOf pd_7 rfl) rfl rfl (Nat.le_of_eq rfl) (b at_21) ?_
  rintro T4 _ L4 X4 ⟨cv_4, rfl, M4, eh4, r4_0, r4_1⟩
  have N4 := Fr.app N3 M4
  refine g_istore X4 hx (b at_24) (l' := #[.val (.int i0), .val (.int i1), .val (.int i2), .val (.int i3), .val (.int i4), .val (.int i5), .val (.int cv_1), .val (.int cv_2), .val (.int cv_3), .val (.int cv_4), .unset, .unset, .unset, .unset, .unset]) rfl ?_
  refine g_iloadN X4 hx (b at_26) rfl ?_
  refine Go.st (fun t k => X4.ldcI hx hown (mvT hZ (w7 hw)) (g := (mkF m 27 #[.val (.int i0), .val (.int i1), .val (.int i2), .val (.int i3), .val (.int i4), .val (.int i5), .val (.int cv_1), .val (.int cv_2), .val (.int cv_3), .val (.int cv_4), .unset, .unset, .unset, .unset, .unset] [(.int i0)])) rfl (b at_27) k) ?_
  refine g_iand X4 hx (b at_29) ?_
  refine g_bipush X4 hx (6) (b at_30) rfl ?_
  refine Go.st (fun t k => iremM X4 hx rfl (b at_32) rfl (by decide : ¬ ((6 : Int32) = (0 : Int32))) k) ?_
  show Go p e below _ (T4.setTop (mkF m 33 #[.val (.int i0), .val (.int i1), .val (.int i2), .val (.int i3), .val (.int i4), .val (.int i5), .val (.int cv_1), .val (.int cv_2), .val (.int cv_3), .val (.int cv_4), .unset, .unset, .unset, .unset, .unset] [(.int ((i0 &&& (2147483647 : Int32)) % (6 : Int32)))]))
  have tail1 : ∀ (T : State) (H : Heap) (locs : List Loc) (ce sl : Nat) (rv : Int32) (v11 : Value), Stand p l e room_1 s m #[(.int i0), (.int i1), (.int i2), (.int i3), (.int i4), (.int i5)] below meth c T locs ce sl → T.heap = H → Old Z n0 H → Fr n0 locs → ce ≤ room_1.cells → sl ≤ room_1.slots → (rv = (1 : Int32) ∧ ¬ (i1 < (1 : Int32)) ∨ rv = (0 : Int32) ∧ i1 < (1 : Int32)) → Go p e below (fun o U' => ∃ v L, o = .returned v ∧ Q_rm0 n0 v L ∧ ReturnedEndW s o U' L room_1.cells room_1.slots) (T.setTop (mkF m 68 #[.val (.int i0), .val (.int i1), .val (.int i2), .val (.int i3), .val (.int i4), .val (.int i5), .val (.int cv_1), .val (.int cv_2), .val (.int cv_3), .val (.int cv_4), .val (.int (1 : Int32)), .val v11, .unset, .unset, .unset] [(.int rv)])) := by
    intro T H locs ce sl rv v11 X eT Ot N hce hsl hrv
    refine g_istore X hx (b at_68) (l' := #[.val (.int i0), .val (.int i1), .val (.int i2), .val (.int i3), .val (.int i4), .val (.int i5), .val (.int cv_1), .val (.int cv_2), .val (.int cv_3), .val (.int cv_4), .val (.int (1 : Int32)), .val v11, .val (.int rv), .unset, .unset]) rfl ?_
    refine g_iload X hx (b at_70) rfl ?_
    refine g_iconst X hx (5) (b at_72) rfl ?_
    refine g_icmpNo X hx (b at_73) (XT.ii_eq_f (by decide : ¬ ((1 : Int32) = (5 : Int32)))) ?_
    refine g_iload X hx (b at_76) rfl ?_
    refine g_ifYes X hx (pc := 78) 87 (b at_78) (XT.i0_ne_t (by decide : ¬ ((1 : Int32) = (0 : Int32)))) (by decide) ?_
    refine g_iload X hx (b at_87) rfl ?_
    refine g_iload X hx (b at_89) rfl ?_
    refine g_iload X hx (b at_91) rfl ?_
    refine g_iload X hx (b at_93) rfl ?_
    refine g_iconst X hx (1) (b at_95) rfl ?_
    refine g_icmpYes X hx (pc := 96) 103 (b at_96) (XT.ii_le_t (by decide : ¬ ((1 : Int32) < (1 : Int32)))) (by decide) ?_
    refine g_iconst X hx (0) (b at_103) rfl ?_
    refine own_cS X hx hZ hown (w112 hw) (w113 hw) (w2 hw) (w114 hw) (rm25_2 hw cv_1 cv_2 Ot) eT 1 ⟨by decide, by decide, hce, hsl⟩ (by decide) (by rw [hml]; rfl) [(.int cv_1), (.int cv_2), (.int (0 : Int32))] [(.int (1 : Int32))] (lenOf pd_8 rfl) rfl rfl (Nat.le_of_eq rfl) (b at_104) ?_
    rintro T5 _ L5 X5 ⟨rfl, M5, eh5⟩
    have N5 := Fr.app N M5
    refine g_isubZ X5 hx (1 : Int32) (b at_107) rfl ?_
    refine g_iload X5 hx (b at_108) rfl ?_
    refine g_iload X5 hx (b at_110) rfl ?_
    refine g_iload X5 hx (b at_112) rfl ?_
    refine g_iconst X5 hx (2) (b at_114) rfl ?_
    refine g_icmpYes X5 hx (pc := 115) 122 (b at_115) (XT.ii_le_t (by decide : ¬ ((2 : Int32) < (1 : Int32)))) (by decide) ?_
    refine g_iconst X5 hx (0) (b at_122) rfl ?_
    refine own_cS X5 hx hZ hown (w112 hw) (w113 hw) (w2 hw) (w114 hw) (rm25_2 hw cv_2 cv_3 Ot) eh5 1 ⟨by decide, by decide, hce, hsl⟩ (by decide) (by rw [hml]; rfl) [(.int cv_2), (.int cv_3), (.int (0 : Int32))] [(.int (1 : Int32))] (lenOf pd_8 rfl) rfl rfl (Nat.le_of_eq rfl) (b at_123) ?_
    rintro T6 _ L6 X6 ⟨rfl, M6, eh6⟩
    have N6 := Fr.app N5 M6
    refine g_isubZ X6 hx (1 : Int32) (b at_126) rfl ?_
    refine g_iload X6 hx (b at_127) rfl ?_
    refine g_iload X6 hx (b at_129) rfl ?_
    refine g_iload X6 hx (b at_131) rfl ?_
    refine g_iconst X6 hx (3) (b at_133) rfl ?_
    refine g_icmpYes X6 hx (pc := 134) 141 (b at_134) (XT.ii_le_t (by decide : ¬ ((3 : Int32) < (1 : Int32)))) (by decide) ?_
    refine g_iconst X6 hx (0) (b at_141) rfl ?_
    refine own_cS X6 hx hZ hown (w112 hw) (w113 hw) (w2 hw) (w114 hw) (rm25_2 hw cv_3 cv_4 Ot) eh6 1 ⟨by decide, by decide, hce, hsl⟩ (by decide) (by rw [hml]; rfl) [(.int cv_3), (.int cv_4), (.int (0 : Int32))] [(.int (1 : Int32))] (lenOf pd_8 rfl) rfl rfl (Nat.le_of_eq rfl) (b at_142) ?_
    rintro T7 _ L7 X7 ⟨rfl, M7, eh7⟩
    have N7 := Fr.app N6 M7
    refine g_isubZ X7 hx (1 : Int32) (b at_145) rfl ?_
    refine g_istore X7 hx (b at_146) (l' := #[.val (.int i0), .val (.int i1), .val (.int i2), .val (.int i3), .val (.int i4), .val (.int i5), .val (.int cv_1), .val (.int cv_2), .val (.int cv_3), .val (.int cv_4), .val (.int (1 : Int32)), .val v11, .val (.int rv), .unset, .val (.int (1 : Int32))]) rfl ?_
    refine g_iload X7 hx (b at_148) rfl ?_
    refine g_iloadN X7 hx (b at_150) rfl ?_
    by_cases hc8 : i1 < (1 : Int32)
    · refine g_icmpYes X7 hx (pc := 151) 158 (b at_151) (XT.ii_gt_t hc8) (by decide) ?_
      refine g_iconst X7 hx (0) (b at_158) rfl ?_
      refine g_istore X7 hx (b at_159) (l' := #[.val (.int i0), .val (.int i1), .val (.int i2), .val (.int i3), .val (.int i4), .val (.int i5), .val (.int cv_1), .val (.int cv_2), .val (.int cv_3), .val (.int cv_4), .val (.int (1 : Int32)), .val v11, .val (.int rv), .val (.int (0 : Int32)), .val (.int (1 : Int32))]) rfl ?_
      show Go p e below _ (T7.setTop (mkF m 161 #[.val (.int i0), .val (.int i1), .val (.int i2), .val (.int i3), .val (.int i4), .val (.int i5), .val (.int cv_1), .val (.int cv_2), .val (.int cv_3), .val (.int cv_4), .val (.int (1 : Int32)), .val v11, .val (.int rv), .val (.int (0 : Int32)), .val (.int (1 : Int32))] []))
      obtain rfl : rv = (0 : Int32) := hrv.elim (fun q => absurd hc8 q.2) (fun q => q.1)
      refine g_iload X7 hx (b at_161) rfl ?_
      refine g_iload X7 hx (b at_163) rfl ?_
      refine g_icmpNo X7 hx (b at_165) (XT.ii_ne_f (by decide : (0 : Int32) = (0 : Int32))) ?_
      refine g_iconst X7 hx (1) (b at_168) rfl ?_
      refine g_goto X7 hx (pc := 169) 173 (b at_169) (by decide) ?_
      obtain ⟨fs, hr, hrun, hended, hWd, hsame⟩ := X7.leave (v := some (.int (1 : Int32))) (fun h => by rw [Bd.returns] at h; cases h)
      refine ⟨_, _, ?_, hrun, hended, _, _, rfl, ?_, (ReturnedEndW.of_narrow ⟨_, rfl⟩ hWd (hsame.mono hce hsl))⟩
      · exact retN X7 hx (t := .boolean) Bd.returns (by simp) (b at_173) hr
      · exact ⟨rfl, N7⟩
    · refine g_icmpNo X7 hx (b at_151) (XT.ii_gt_f hc8) ?_
      refine g_iconst X7 hx (1) (b at_154) rfl ?_
      refine g_goto X7 hx (pc := 155) 159 (b at_155) (by decide) ?_
      refine g_istore X7 hx (b at_159) (l' := #[.val (.int i0), .val (.int i1), .val (.int i2), .val (.int i3), .val (.int i4), .val (.int i5), .val (.int cv_1), .val (.int cv_2), .val (.int cv_3), .val (.int cv_4), .val (.int (1 : Int32)), .val v11, .val (.int rv), .val (.int (1 : Int32)), .val (.int (1 : Int32))]) rfl ?_
      show Go p e below _ (T7.setTop (mkF m 161 #[.val (.int i0), .val (.int i1), .val (.int i2), .val (.int i3), .val (.int i4), .val (.int i5), .val (.int cv_1), .val (.int cv_2), .val (.int cv_3), .val (.int cv_4), .val (.int (1 : Int32)), .val v11, .val (.int rv), .val (.int (1 : Int32)), .val (.int (1 : Int32))] []))
      obtain rfl : rv = (1 : Int32) := hrv.elim (fun q => q.1) (fun q => absurd q.2 hc8)
      refine g_iload X7 hx (b at_161) rfl ?_
      refine g_iload X7 hx (b at_163) rfl ?_
      refine g_icmpNo X7 hx (b at_165) (XT.ii_ne_f (by decide : (1 : Int32) = (1 : Int32))) ?_
      refine g_iconst X7 hx (1) (b at_168) rfl ?_
      refine g_goto X7 hx (pc := 169) 173 (b at_169) (by decide) ?_
      obtain ⟨fs, hr, hrun, hended, hWd, hsame⟩ := X7.leave (v := some (.int (1 : Int32))) (fun h => by rw [Bd.returns] at h; cases h)
      refine ⟨_, _, ?_, hrun, hended, _, _, rfl, ?_, (ReturnedEndW.of_narrow ⟨_, rfl⟩ hWd (hsame.mono hce hsl))⟩
      · exact retN X7 hx (t := .boolean) Bd.returns (by simp) (b at_173) hr
      · exact ⟨rfl, N7⟩
  have tail2 : ∀ (T : State) (H : Heap) (locs : List Loc) (ce sl : Nat) (rv : Int32) (v11 : Value), Stand p l e room_1 s m #[(.int i0), (.int i1), (.int i2), (.int i3), (.int i4), (.int i5)] below meth c T locs ce sl → T.heap = H → Old Z n0 H → Fr n0 locs → ce ≤ room_1.cells → sl ≤ room_1.slots → (rv = (1 : Int32) ∧ ¬ (i1 < ((((2 : Int32) - (own_pr cv_1 cv_2)) - (0 : Int32)) - (0 : Int32))) ∨ rv = (0 : Int32) ∧ i1 < ((((2 : Int32) - (own_pr cv_1 cv_2)) - (0 : Int32)) - (0 : Int32))) → Go p e below (fun o U' => ∃ v L, o = .returned v ∧ Q_rm0 n0 v L ∧ ReturnedEndW s o U' L room_1.cells room_1.slots) (T.setTop (mkF m 68 #[.val (.int i0), .val (.int i1), .val (.int i2), .val (.int i3), .val (.int i4), .val (.int i5), .val (.int cv_1), .val (.int cv_2), .val (.int cv_3), .val (.int cv_4), .val (.int (2 : Int32)), .val v11, .unset, .unset, .unset] [(.int rv)])) := by
    intro T H locs ce sl rv v11 X eT Ot N hce hsl hrv
    refine g_istore X hx (b at_68) (l' := #[.val (.int i0), .val (.int i1), .val (.int i2), .val (.int i3), .val (.int i4), .val (.int i5), .val (.int cv_1), .val (.int cv_2), .val (.int cv_3), .val (.int cv_4), .val (.int (2 : Int32)), .val v11, .val (.int rv), .unset, .unset]) rfl ?_
    refine g_iload X hx (b at_70) rfl ?_
    refine g_iconst X hx (5) (b at_72) rfl ?_
    refine g_icmpNo X hx (b at_73) (XT.ii_eq_f (by decide : ¬ ((2 : Int32) = (5 : Int32)))) ?_
    refine g_iload X hx (b at_76) rfl ?_
    refine g_ifYes X hx (pc := 78) 87 (b at_78) (XT.i0_ne_t (by decide : ¬ ((2 : Int32) = (0 : Int32)))) (by decide) ?_
    refine g_iload X hx (b at_87) rfl ?_
    refine g_iload X hx (b at_89) rfl ?_
    refine g_iload X hx (b at_91) rfl ?_
    refine g_iload X hx (b at_93) rfl ?_
    refine g_iconst X hx (1) (b at_95) rfl ?_
    refine g_icmpNo X hx (b at_96) (XT.ii_le_f (by decide : (1 : Int32) < (2 : Int32))) ?_
    refine g_iconst X hx (1) (b at_99) rfl ?_
    refine g_goto X hx (pc := 100) 104 (b at_100) (by decide) ?_
    refine own_cS X hx hZ hown (w112 hw) (w113 hw) (w2 hw) (w114 hw) (rmQ hw cv_1 cv_2 Ot) eT 1 ⟨by decide, by decide, hce, hsl⟩ (by decide) (by rw [hml]; rfl) [(.int cv_1), (.int cv_2), (.int (1 : Int32))] [(.int (2 : Int32))] (lenOf pd_8 rfl) rfl rfl (Nat.le_of_eq rfl) (b at_104) ?_
    rintro T9 _ L9 X9 ⟨rfl, M9, eh9⟩
    have N9 := Fr.app N M9
    refine g_isub X9 hx (b at_107) ?_
    refine g_iload X9 hx (b at_108) rfl ?_
    refine g_iload X9 hx (b at_110) rfl ?_
    refine g_iload X9 hx (b at_112) rfl ?_
    refine g_iconst X9 hx (2) (b at_114) rfl ?_
    refine g_icmpYes X9 hx (pc := 115) 122 (b at_115) (XT.ii_le_t (by decide : ¬ ((2 : Int32) < (2 : Int32)))) (by decide) ?_
    refine g_iconst X9 hx (0) (b at_122) rfl ?_
    refine own_cS X9 hx hZ hown (w112 hw) (w113 hw) (w2 hw) (w114 hw) (rm25_2 hw cv_2 cv_3 Ot) eh9 1 ⟨by decide, by decide, hce, hsl⟩ (by decide) (by rw [hml]; rfl) [(.int cv_2), (.int cv_3), (.int (0 : Int32))] [(.int ((2 : Int32) - (own_pr cv_1 cv_2)))] (lenOf pd_8 rfl) rfl rfl (Nat.le_of_eq rfl) (b at_123) ?_
    rintro T10 _ L10 X10 ⟨rfl, M10, eh10⟩
    have N10 := Fr.app N9 M10
    refine g_isub X10 hx (b at_126) ?_
    refine g_iload X10 hx (b at_127) rfl ?_
    refine g_iload X10 hx (b at_129) rfl ?_
    refine g_iload X10 hx (b at_131) rfl ?_
    refine g_iconst X10 hx (3) (b at_133) rfl ?_
    refine g_icmpYes X10 hx (pc := 134) 141 (b at_134) (XT.ii_le_t (by decide : ¬ ((3 : Int32) < (2 : Int32)))) (by decide) ?_
    refine g_iconst X10 hx (0) (b at_141) rfl ?_
    refine own_cS X10 hx hZ hown (w112 hw) (w113 hw) (w2 hw) (w114 hw) (rm25_2 hw cv_3 cv_4 Ot) eh10 1 ⟨by decide, by decide, hce, hsl⟩ (by decide) (by rw [hml]; rfl) [(.int cv_3), (.int cv_4), (.int (0 : Int32))] [(.int (((2 : Int32) - (own_pr cv_1 cv_2)) - (0 : Int32)))] (lenOf pd_8 rfl) rfl rfl (Nat.le_of_eq rfl) (b at_142) ?_
    rintro T11 _ L11 X11 ⟨rfl, M11, eh11⟩
    have N11 := Fr.app N10 M11
    refine g_isub X11 hx (b at_145) ?_
    refine g_istore X11 hx (b at_146) (l' := #[.val (.int i0), .val (.int i1), .val (.int i2), .val (.int i3), .val (.int i4), .val (.int i5), .val (.int cv_1), .val (.int cv_2), .val (.int cv_3), .val (.int cv_4), .val (.int (2 : Int32)), .val v11, .val (.int rv), .unset, .val (.int ((((2 : Int32) - (own_pr cv_1 cv_2)) - (0 : Int32)) - (0 : Int32)))]) rfl ?_
    refine g_iload X11 hx (b at_148) rfl ?_
    refine g_iloadN X11 hx (b at_150) rfl ?_
    by_cases hc12 : i1 < ((((2 : Int32) - (own_pr cv_1 cv_2)) - (0 : Int32)) - (0 : Int32))
    · refine g_icmpYes X11 hx (pc := 151) 158 (b at_151) (XT.ii_gt_t hc12) (by decide) ?_
      refine g_iconst X11 hx (0) (b at_158) rfl ?_
      refine g_istore X11 hx (b at_159) (l' := #[.val (.int i0), .val (.int i1), .val (.int i2), .val (.int i3), .val (.int i4), .val (.int i5), .val (.int cv_1), .val (.int cv_2), .val (.int cv_3), .val (.int cv_4), .val (.int (2 : Int32)), .val v11, .val (.int rv), .val (.int (0 : Int32)), .val (.int ((((2 : Int32) - (own_pr cv_1 cv_2)) - (0 : Int32)) - (0 : Int32)))]) rfl ?_
      show Go p e below _ (T11.setTop (mkF m 161 #[.val (.int i0), .val (.int i1), .val (.int i2), .val (.int i3), .val (.int i4), .val (.int i5), .val (.int cv_1), .val (.int cv_2), .val (.int cv_3), .val (.int cv_4), .val (.int (2 : Int32)), .val v11, .val (.int rv), .val (.int (0 : Int32)), .val (.int ((((2 : Int32) - (own_pr cv_1 cv_2)) - (0 : Int32)) - (0 : Int32)))] []))
      obtain rfl : rv = (0 : Int32) := hrv.elim (fun q => absurd hc12 q.2) (fun q => q.1)
      refine g_iload X11 hx (b at_161) rfl ?_
      refine g_iload X11 hx (b at_163) rfl ?_
      refine g_icmpNo X11 hx (b at_165) (XT.ii_ne_f (by decide : (0 : Int32) = (0 : Int32))) ?_
      refine g_iconst X11 hx (1) (b at_168) rfl ?_
      refine g_goto X11 hx (pc := 169) 173 (b at_169) (by decide) ?_
      obtain ⟨fs, hr, hrun, hended, hWd, hsame⟩ := X11.leave (v := some (.int (1 : Int32))) (fun h => by rw [Bd.returns] at h; cases h)
      refine ⟨_, _, ?_, hrun, hended, _, _, rfl, ?_, (ReturnedEndW.of_narrow ⟨_, rfl⟩ hWd (hsame.mono hce hsl))⟩
      · exact retN X11 hx (t := .boolean) Bd.returns (by simp) (b at_173) hr
      · exact ⟨rfl, N11⟩
    · refine g_icmpNo X11 hx (b at_151) (XT.ii_gt_f hc12) ?_
      refine g_iconst X11 hx (1) (b at_154) rfl ?_
      refine g_goto X11 hx (pc := 155) 159 (b at_155) (by decide) ?_
      refine g_istore X11 hx (b at_159) (l' := #[.val (.int i0), .val (.int i1), .val (.int i2), .val (.int i3), .val (.int i4), .val (.int i5), .val (.int cv_1), .val (.int cv_2), .val (.int cv_3), .val (.int cv_4), .val (.int (2 : Int32)), .val v11, .val (.int rv), .val (.int (1 : Int32)), .val (.int ((((2 : Int32) - (own_pr cv_1 cv_2)) - (0 : Int32)) - (0 : Int32)))]) rfl ?_
      show Go p e below _ (T11.setTop (mkF m 161 #[.val (.int i0), .val (.int i1), .val (.int i2), .val (.int i3), .val (.int i4), .val (.int i5), .val (.int cv_1), .val (.int cv_2), .val (.int cv_3), .val (.int cv_4), .val (.int (2 : Int32)), .val v11, .val (.int rv), .val (.int (1 : Int32)), .val (.int ((((2 : Int32) - (own_pr cv_1 cv_2)) - (0 : Int32)) - (0 : Int32)))] []))
      obtain rfl : rv = (1 : Int32) := hrv.elim (fun q => q.1) (fun q => absurd q.2 hc12)
      refine g_iload X11 hx (b at_161) rfl ?_
      refine g_iload X11 hx (b at_163) rfl ?_
      refine g_icmpNo X11 hx (b at_165) (XT.ii_ne_f (by decide : (1 : Int32) = (1 : Int32))) ?_
      refine g_iconst X11 hx (1) (b at_168) rfl ?_
      refine g_goto X11 hx (pc := 169) 173 (b at_169) (by decide) ?_
      obtain ⟨fs, hr, hrun, hended, hWd, hsame⟩ := X11.leave (v := some (.int (1 : Int32))) (fun h => by rw [Bd.returns] at h; cases h)
      refine ⟨_, _, ?_, hrun, hended, _, _, rfl, ?_, (ReturnedEndW.of_narrow ⟨_, rfl⟩ hWd (hsame.mono hce hsl))⟩
      · exact retN X11 hx (t := .boolean) Bd.returns (by simp) (b at_173) hr
      · exact ⟨rfl, N11⟩
  have tail3 : ∀ (T : State) (H : Heap) (locs : List Loc) (ce sl : Nat) (rv : Int32) (v11 : Value), Stand p l e room_1 s m #[(.int i0), (.int i1), (.int i2), (.int i3), (.int i4), (.int i5)] below meth c T locs ce sl → T.heap = H → Old Z n0 H → Fr n0 locs → ce ≤ room_1.cells → sl ≤ room_1.slots → (rv = (1 : Int32) ∧ ¬ (i1 < ((((3 : Int32) - (own_pr cv_1 cv_2)) - (own_pr cv_2 cv_3)) - (0 : Int32))) ∨ rv = (0 : Int32) ∧ i1 < ((((3 : Int32) - (own_pr cv_1 cv_2)) - (own_pr cv_2 cv_3)) - (0 : Int32))) → Go p e below (fun o U' => ∃ v L, o = .returned v ∧ Q_rm0 n0 v L ∧ ReturnedEndW s o U' L room_1.cells room_1.slots) (T.setTop (mkF m 68 #[.val (.int i0), .val (.int i1), .val (.int i2), .val (.int i3), .val (.int i4), .val (.int i5), .val (.int cv_1), .val (.int cv_2), .val (.int cv_3), .val (.int cv_4), .val (.int (3 : Int32)), .val v11, .unset, .unset, .unset] [(.int rv)])) := by
    intro T H locs ce sl rv v11 X eT Ot N hce hsl hrv
    refine g_istore X hx (b at_68) (l' := #[.val (.int i0), .val (.int i1), .val (.int i2), .val (.int i3), .val (.int i4), .val (.int i5), .val (.int cv_1), .val (.int cv_2), .val (.int cv_3), .val (.int cv_4), .val (.int (3 : Int32)), .val v11, .val (.int rv), .unset, .unset]) rfl ?_
    refine g_iload X hx (b at_70) rfl ?_
    refine g_iconst X hx (5) (b at_72) rfl ?_
    refine g_icmpNo X hx (b at_73) (XT.ii_eq_f (by decide : ¬ ((3 : Int32) = (5 : Int32)))) ?_
    refine g_iload X hx (b at_76) rfl ?_
    refine g_ifYes X hx (pc := 78) 87 (b at_78) (XT.i0_ne_t (by decide : ¬ ((3 : Int32) = (0 : Int32)))) (by decide) ?_
    refine g_iload X hx (b at_87) rfl ?_
    refine g_iload X hx (b at_89) rfl ?_
    refine g_iload X hx (b at_91) rfl ?_
    refine g_iload X hx (b at_93) rfl ?_
    refine g_iconst X hx (1) (b at_95) rfl ?_
    refine g_icmpNo X hx (b at_96) (XT.ii_le_f (by decide : (1 : Int32) < (3 : Int32))) ?_
    refine g_iconst X hx (1) (b at_99) rfl ?_
    refine g_goto X hx (pc := 100) 104 (b at_100) (by decide) ?_
    refine own_cS X hx hZ hown (w112 hw) (w113 hw) (w2 hw) (w114 hw) (rmQ hw cv_1 cv_2 Ot) eT 1 ⟨by decide, by decide, hce, hsl⟩ (by decide) (by rw [hml]; rfl) [(.int cv_1), (.int cv_2), (.int (1 : Int32))] [(.int (3 : Int32))] (lenOf pd_8 rfl) rfl rfl (Nat.le_of_eq rfl) (b at_104) ?_
    rintro T13 _ L13 X13 ⟨rfl, M13, eh13⟩
    have N13 := Fr.app N M13
    refine g_isub X13 hx (b at_107) ?_
    refine g_iload X13 hx (b at_108) rfl ?_
    refine g_iload X13 hx (b at_110) rfl ?_
    refine g_iload X13 hx (b at_112) rfl ?_
    refine g_iconst X13 hx (2) (b at_114) rfl ?_
    refine g_icmpNo X13 hx (b at_115) (XT.ii_le_f (by decide : (2 : Int32) < (3 : Int32))) ?_
    refine g_iconst X13 hx (1) (b at_118) rfl ?_
    refine g_goto X13 hx (pc := 119) 123 (b at_119) (by decide) ?_
    refine own_cS X13 hx hZ hown (w112 hw) (w113 hw) (w2 hw) (w114 hw) (rmQ hw cv_2 cv_3 Ot) eh13 1 ⟨by decide, by decide, hce, hsl⟩ (by decide) (by rw [hml]; rfl) [(.int cv_2), (.int cv_3), (.int (1 : Int32))] [(.int ((3 : Int32) - (own_pr cv_1 cv_2)))] (lenOf pd_8 rfl) rfl rfl (Nat.le_of_eq rfl) (b at_123) ?_
    rintro T14 _ L14 X14 ⟨rfl, M14, eh14⟩
    have N14 := Fr.app N13 M14
    refine g_isub X14 hx (b at_126) ?_
    refine g_iload X14 hx (b at_127) rfl ?_
    refine g_iload X14 hx (b at_129) rfl ?_
    refine g_iload X14 hx (b at_131) rfl ?_
    refine g_iconst X14 hx (3) (b at_133) rfl ?_
    refine g_icmpYes X14 hx (pc := 134) 141 (b at_134) (XT.ii_le_t (by decide : ¬ ((3 : Int32) < (3 : Int32)))) (by decide) ?_
    refine g_iconst X14 hx (0) (b at_141) rfl ?_
    refine own_cS X14 hx hZ hown (w112 hw) (w113 hw) (w2 hw) (w114 hw) (rm25_2 hw cv_3 cv_4 Ot) eh14 1 ⟨by decide, by decide, hce, hsl⟩ (by decide) (by rw [hml]; rfl) [(.int cv_3), (.int cv_4), (.int (0 : Int32))] [(.int (((3 : Int32) - (own_pr cv_1 cv_2)) - (own_pr cv_2 cv_3)))] (lenOf pd_8 rfl) rfl rfl (Nat.le_of_eq rfl) (b at_142) ?_
    rintro T15 _ L15 X15 ⟨rfl, M15, eh15⟩
    have N15 := Fr.app N14 M15
    refine g_isub X15 hx (b at_145) ?_
    refine g_istore X15 hx (b at_146) (l' := #[.val (.int i0), .val (.int i1), .val (.int i2), .val (.int i3), .val (.int i4), .val (.int i5), .val (.int cv_1), .val (.int cv_2), .val (.int cv_3), .val (.int cv_4), .val (.int (3 : Int32)), .val v11, .val (.int rv), .unset, .val (.int ((((3 : Int32) - (own_pr cv_1 cv_2)) - (own_pr cv_2 cv_3)) - (0 : Int32)))]) rfl ?_
    refine g_iload X15 hx (b at_148) rfl ?_
    refine g_iloadN X15 hx (b at_150) rfl ?_
    by_cases hc16 : i1 < ((((3 : Int32) - (own_pr cv_1 cv_2)) - (own_pr cv_2 cv_3)) - (0 : Int32))
    · refine g_icmpYes X15 hx (pc := 151) 158 (b at_151) (XT.ii_gt_t hc16) (by decide) ?_
      refine g_iconst X15 hx (0) (b at_158) rfl ?_
      refine g_istore X15 hx (b at_159) (l' := #[.val (.int i0), .val (.int i1), .val (.int i2), .val (.int i3), .val (.int i4), .val (.int i5), .val (.int cv_1), .val (.int cv_2), .val (.int cv_3), .val (.int cv_4), .val (.int (3 : Int32)), .val v11, .val (.int rv), .val (.int (0 : Int32)), .val (.int ((((3 : Int32) - (own_pr cv_1 cv_2)) - (own_pr cv_2 cv_3)) - (0 : Int32)))]) rfl ?_
      show Go p e below _ (T15.setTop (mkF m 161 #[.val (.int i0), .val (.int i1), .val (.int i2), .val (.int i3), .val (.int i4), .val (.int i5), .val (.int cv_1), .val (.int cv_2), .val (.int cv_3), .val (.int cv_4), .val (.int (3 : Int32)), .val v11, .val (.int rv), .val (.int (0 : Int32)), .val (.int ((((3 : Int32) - (own_pr cv_1 cv_2)) - (own_pr cv_2 cv_3)) - (0 : Int32)))] []))
      obtain rfl : rv = (0 : Int32) := hrv.elim (fun q => absurd hc16 q.2) (fun q => q.1)
      refine g_iload X15 hx (b at_161) rfl ?_
      refine g_iload X15 hx (b at_163) rfl ?_
      refine g_icmpNo X15 hx (b at_165) (XT.ii_ne_f (by decide : (0 : Int32) = (0 : Int32))) ?_
      refine g_iconst X15 hx (1) (b at_168) rfl ?_
      refine g_goto X15 hx (pc := 169) 173 (b at_169) (by decide) ?_
      obtain ⟨fs, hr, hrun, hended, hWd, hsame⟩ := X15.leave (v := some (.int (1 : Int32))) (fun h => by rw [Bd.returns] at h; cases h)
      refine ⟨_, _, ?_, hrun, hended, _, _, rfl, ?_, (ReturnedEndW.of_narrow ⟨_, rfl⟩ hWd (hsame.mono hce hsl))⟩
      · exact retN X15 hx (t := .boolean) Bd.returns (by simp) (b at_173) hr
      · exact ⟨rfl, N15⟩
    · refine g_icmpNo X15 hx (b at_151) (XT.ii_gt_f hc16) ?_
      refine g_iconst X15 hx (1) (b at_154) rfl ?_
      refine g_goto X15 hx (pc := 155) 159 (b at_155) (by decide) ?_
      refine g_istore X15 hx (b at_159) (l' := #[.val (.int i0), .val (.int i1), .val (.int i2), .val (.int i3), .val (.int i4), .val (.int i5), .val (.int cv_1), .val (.int cv_2), .val (.int cv_3), .val (.int cv_4), .val (.int (3 : Int32)), .val v11, .val (.int rv), .val (.int (1 : Int32)), .val (.int ((((3 : Int32) - (own_pr cv_1 cv_2)) - (own_pr cv_2 cv_3)) - (0 : Int32)))]) rfl ?_
      show Go p e below _ (T15.setTop (mkF m 161 #[.val (.int i0), .val (.int i1), .val (.int i2), .val (.int i3), .val (.int i4), .val (.int i5), .val (.int cv_1), .val (.int cv_2), .val (.int cv_3), .val (.int cv_4), .val (.int (3 : Int32)), .val v11, .val (.int rv), .val (.int (1 : Int32)), .val (.int ((((3 : Int32) - (own_pr cv_1 cv_2)) - (own_pr cv_2 cv_3)) - (0 : Int32)))] []))
      obtain rfl : rv = (1 : Int32) := hrv.elim (fun q => q.1) (fun q => absurd q.2 hc16)
      refine g_iload X15 hx (b at_161) rfl ?_
      refine g_iload X15 hx (b at_163) rfl ?_
      refine g_icmpNo X15 hx (b at_165) (XT.ii_ne_f (by decide : (1 : Int32) = (1 : Int32))) ?_
      refine g_iconst X15 hx (1) (b at_168) rfl ?_
      refine g_goto X15 hx (pc := 169) 173 (b at_169) (by decide) ?_
      obtain ⟨fs, hr, hrun, hended, hWd, hsame⟩ := X15.leave (v := some (.int (1 : Int32))) (fun h => by rw [Bd.returns] at h; cases h)
      refine ⟨_, _, ?_, hrun, hended, _, _, rfl, ?_, (ReturnedEndW.of_narrow ⟨_, rfl⟩ hWd (hsame.mono hce hsl))⟩
      · exact retN X15 hx (t := .boolean) Bd.returns (by simp) (b at_173) hr
      · exact ⟨rfl, N15⟩
  have tail4 : ∀ (T : State) (H : Heap) (locs : List Loc) (ce sl : Nat) (rv : Int32) (v11 : Value), Stand p l e room_1 s m #[(.int i0), (.int i1), (.int i2), (.int i3), (.int i4), (.int i5)] below meth c T locs ce sl → T.heap = H → Old Z n0 H → Fr n0 locs → ce ≤ room_1.cells → sl ≤ room_1.slots → (rv = (1 : Int32) ∧ ¬ (i1 < ((((4 : Int32) - (own_pr cv_1 cv_2)) - (own_pr cv_2 cv_3)) - (own_pr cv_3 cv_4))) ∨ rv = (0 : Int32) ∧ i1 < ((((4 : Int32) - (own_pr cv_1 cv_2)) - (own_pr cv_2 cv_3)) - (own_pr cv_3 cv_4))) → Go p e below (fun o U' => ∃ v L, o = .returned v ∧ Q_rm0 n0 v L ∧ ReturnedEndW s o U' L room_1.cells room_1.slots) (T.setTop (mkF m 68 #[.val (.int i0), .val (.int i1), .val (.int i2), .val (.int i3), .val (.int i4), .val (.int i5), .val (.int cv_1), .val (.int cv_2), .val (.int cv_3), .val (.int cv_4), .val (.int (4 : Int32)), .val v11, .unset, .unset, .unset] [(.int rv)])) := by
    intro T H locs ce sl rv v11 X eT Ot N hce hsl hrv
    refine g_istore X hx (b at_68) (l' := #[.val (.int i0), .val (.int i1), .val (.int i2), .val (.int i3), .val (.int i4), .val (.int i5), .val (.int cv_1), .val (.int cv_2), .val (.int cv_3), .val (.int cv_4), .val (.int (4 : Int32)), .val v11, .val (.int rv), .unset, .unset]) rfl ?_
    refine g_iload X hx (b at_70) rfl ?_
    refine g_iconst X hx (5) (b at_72) rfl ?_
    refine g_icmpNo X hx (b at_73) (XT.ii_eq_f (by decide : ¬ ((4 : Int32) = (5 : Int32)))) ?_
    refine g_iload X hx (b at_76) rfl ?_
    refine g_ifYes X hx (pc := 78) 87 (b at_78) (XT.i0_ne_t (by decide : ¬ ((4 : Int32) = (0 : Int32)))) (by decide) ?_
    refine g_iload X hx (b at_87) rfl ?_
    refine g_iload X hx (b at_89) rfl ?_
    refine g_iload X hx (b at_91) rfl ?_
    refine g_iload X hx (b at_93) rfl ?_
    refine g_iconst X hx (1) (b at_95) rfl ?_
    refine g_icmpNo X hx (b at_96) (XT.ii_le_f (by decide : (1 : Int32) < (4 : Int32))) ?_
    refine g_iconst X hx (1) (b at_99) rfl ?_
    refine g_goto X hx (pc := 100) 104 (b at_100) (by decide) ?_
    refine own_cS X hx hZ hown (w112 hw) (w113 hw) (w2 hw) (w114 hw) (rmQ hw cv_1 cv_2 Ot) eT 1 ⟨by decide, by decide, hce, hsl⟩ (by decide) (by rw [hml]; rfl) [(.int cv_1), (.int cv_2), (.int (1 : Int32))] [(.int (4 : Int32))] (lenOf pd_8 rfl) rfl rfl (Nat.le_of_eq rfl) (b at_104) ?_
    rintro T17 _ L17 X17 ⟨rfl, M17, eh17⟩
    have N17 := Fr.app N M17
    refine g_isub X17 hx (b at_107) ?_
    refine g_iload X17 hx (b at_108) rfl ?_
    refine g_iload X17 hx (b at_110) rfl ?_
    refine g_iload X17 hx (b at_112) rfl ?_
    refine g_iconst X17 hx (2) (b at_114) rfl ?_
    refine g_icmpNo X17 hx (b at_115) (XT.ii_le_f (by decide : (2 : Int32) < (4 : Int32))) ?_
    refine g_iconst X17 hx (1) (b at_118) rfl ?_
    refine g_goto X17 hx (pc := 119) 123 (b at_119) (by decide) ?_
    refine own_cS X17 hx hZ hown (w112 hw) (w113 hw) (w2 hw) (w114 hw) (rmQ hw cv_2 cv_3 Ot) eh17 1 ⟨by decide, by decide, hce, hsl⟩ (by decide) (by rw [hml]; rfl) [(.int cv_2), (.int cv_3), (.int (1 : Int32))] [(.int ((4 : Int32) - (own_pr cv_1 cv_2)))] (lenOf pd_8 rfl) rfl rfl (Nat.le_of_eq rfl) (b at_123) ?_
    rintro T18 _ L18 X18 ⟨rfl, M18, eh18⟩
    have N18 := Fr.app N17 M18
    refine g_isub X18 hx (b at_126) ?_
    refine g_iload X18 hx (b at_127) rfl ?_
    refine g_iload X18 hx (b at_129) rfl ?_
    refine g_iload X18 hx (b at_131) rfl ?_
    refine g_iconst X18 hx (3) (b at_133) rfl ?_
    refine g_icmpNo X18 hx (b at_134) (XT.ii_le_f (by decide : (3 : Int32) < (4 : Int32))) ?_
    refine g_iconst X18 hx (1) (b at_137) rfl ?_
    refine g_goto X18 hx (pc := 138) 142 (b at_138) (by decide) ?_
    refine own_cS X18 hx hZ hown (w112 hw) (w113 hw) (w2 hw) (w114 hw) (rmQ hw cv_3 cv_4 Ot) eh18 1 ⟨by decide, by decide, hce, hsl⟩ (by decide) (by rw [hml]; rfl) [(.int cv_3), (.int cv_4), (.int (1 : Int32))] [(.int (((4 : Int32) - (own_pr cv_1 cv_2)) - (own_pr cv_2 cv_3)))] (lenOf pd_8 rfl) rfl rfl (Nat.le_of_eq rfl) (b at_142) ?_
    rintro T19 _ L19 X19 ⟨rfl, M19, eh19⟩
    have N19 := Fr.app N18 M19
    refine g_isub X19 hx (b at_145) ?_
    refine g_istore X19 hx (b at_146) (l' := #[.val (.int i0), .val (.int i1), .val (.int i2), .val (.int i3), .val (.int i4), .val (.int i5), .val (.int cv_1), .val (.int cv_2), .val (.int cv_3), .val (.int cv_4), .val (.int (4 : Int32)), .val v11, .val (.int rv), .unset, .val (.int ((((4 : Int32) - (own_pr cv_1 cv_2)) - (own_pr cv_2 cv_3)) - (own_pr cv_3 cv_4)))]) rfl ?_
    refine g_iload X19 hx (b at_148) rfl ?_
    refine g_iloadN X19 hx (b at_150) rfl ?_
    by_cases hc20 : i1 < ((((4 : Int32) - (own_pr cv_1 cv_2)) - (own_pr cv_2 cv_3)) - (own_pr cv_3 cv_4))
    · refine g_icmpYes X19 hx (pc := 151) 158 (b at_151) (XT.ii_gt_t hc20) (by decide) ?_
      refine g_iconst X19 hx (0) (b at_158) rfl ?_
      refine g_istore X19 hx (b at_159) (l' := #[.val (.int i0), .val (.int i1), .val (.int i2), .val (.int i3), .val (.int i4), .val (.int i5), .val (.int cv_1), .val (.int cv_2), .val (.int cv_3), .val (.int cv_4), .val (.int (4 : Int32)), .val v11, .val (.int rv), .val (.int (0 : Int32)), .val (.int ((((4 : Int32) - (own_pr cv_1 cv_2)) - (own_pr cv_2 cv_3)) - (own_pr cv_3 cv_4)))]) rfl ?_
      show Go p e below _ (T19.setTop (mkF m 161 #[.val (.int i0), .val (.int i1), .val (.int i2), .val (.int i3), .val (.int i4), .val (.int i5), .val (.int cv_1), .val (.int cv_2), .val (.int cv_3), .val (.int cv_4), .val (.int (4 : Int32)), .val v11, .val (.int rv), .val (.int (0 : Int32)), .val (.int ((((4 : Int32) - (own_pr cv_1 cv_2)) - (own_pr cv_2 cv_3)) - (own_pr cv_3 cv_4)))] []))
      obtain rfl : rv = (0 : Int32) := hrv.elim (fun q => absurd hc20 q.2) (fun q => q.1)
      refine g_iload X19 hx (b at_161) rfl ?_
      refine g_iload X19 hx (b at_163) rfl ?_
      refine g_icmpNo X19 hx (b at_165) (XT.ii_ne_f (by decide : (0 : Int32) = (0 : Int32))) ?_
      refine g_iconst X19 hx (1) (b at_168) rfl ?_
      refine g_goto X19 hx (pc := 169) 173 (b at_169) (by decide) ?_
      obtain ⟨fs, hr, hrun, hended, hWd, hsame⟩ := X19.leave (v := some (.int (1 : Int32))) (fun h => by rw [Bd.returns] at h; cases h)
      refine ⟨_, _, ?_, hrun, hended, _, _, rfl, ?_, (ReturnedEndW.of_narrow ⟨_, rfl⟩ hWd (hsame.mono hce hsl))⟩
      · exact retN X19 hx (t := .boolean) Bd.returns (by simp) (b at_173) hr
      · exact ⟨rfl, N19⟩
    · refine g_icmpNo X19 hx (b at_151) (XT.ii_gt_f hc20) ?_
      refine g_iconst X19 hx (1) (b at_154) rfl ?_
      refine g_goto X19 hx (pc := 155) 159 (b at_155) (by decide) ?_
      refine g_istore X19 hx (b at_159) (l' := #[.val (.int i0), .val (.int i1), .val (.int i2), .val (.int i3), .val (.int i4), .val (.int i5), .val (.int cv_1), .val (.int cv_2), .val (.int cv_3), .val (.int cv_4), .val (.int (4 : Int32)), .val v11, .val (.int rv), .val (.int (1 : Int32)), .val (.int ((((4 : Int32) - (own_pr cv_1 cv_2)) - (own_pr cv_2 cv_3)) - (own_pr cv_3 cv_4)))]) rfl ?_
      show Go p e below _ (T19.setTop (mkF m 161 #[.val (.int i0), .val (.int i1), .val (.int i2), .val (.int i3), .val (.int i4), .val (.int i5), .val (.int cv_1), .val (.int cv_2), .val (.int cv_3), .val (.int cv_4), .val (.int (4 : Int32)), .val v11, .val (.int rv), .val (.int (1 : Int32)), .val (.int ((((4 : Int32) - (own_pr cv_1 cv_2)) - (own_pr cv_2 cv_3)) - (own_pr cv_3 cv_4)))] []))
      obtain rfl : rv = (1 : Int32) := hrv.elim (fun q => q.1) (fun q => absurd q.2 hc20)
      refine g_iload X19 hx (b at_161) rfl ?_
      refine g_iload X19 hx (b at_163) rfl ?_
      refine g_icmpNo X19 hx (b at_165) (XT.ii_ne_f (by decide : (1 : Int32) = (1 : Int32))) ?_
      refine g_iconst X19 hx (1) (b at_168) rfl ?_
      refine g_goto X19 hx (pc := 169) 173 (b at_169) (by decide) ?_
      obtain ⟨fs, hr, hrun, hended, hWd, hsame⟩ := X19.leave (v := some (.int (1 : Int32))) (fun h => by rw [Bd.returns] at h; cases h)
      refine ⟨_, _, ?_, hrun, hended, _, _, rfl, ?_, (ReturnedEndW.of_narrow ⟨_, rfl⟩ hWd (hsame.mono hce hsl))⟩
      · exact retN X19 hx (t := .boolean) Bd.returns (by simp) (b at_173) hr
      · exact ⟨rfl, N19⟩
  rcases own_mod6 i0 with hq | hq | hq | hq | hq | hq
  · rw [hq]
    show Go p e below _ (T4.setTop (mkF m 33 #[.val (.int i0), .val (.int i1), .val (.int i2), .val (.int i3), .val (.int i4), .val (.int i5), .val (.int cv_1), .val (.int cv_2), .val (.int cv_3), .val (.int cv_4), .unset, .unset, .unset, .unset, .unset] [(.int (0 : Int32))]))
    refine g_istore X4 hx (b at_33) (l' := #[.val (.int i0), .val (.int i1), .val (.int i2), .val (.int i3), .val (.int i4), .val (.int i5), .val (.int cv_1), .val (.int cv_2), .val (.int cv_3), .val (.int cv_4), .val (.int (0 : Int32)), .unset, .unset, .unset, .unset]) rfl ?_
    refine g_iload X4 hx (b at_35) rfl ?_
    refine g_iconst X4 hx (5) (b at_37) rfl ?_
    refine g_icmpYes X4 hx (pc := 38) 47 (b at_38) (XT.ii_ne_t (by decide : ¬ ((0 : Int32) = (5 : Int32)))) (by decide) ?_
    refine g_iload X4 hx (b at_47) rfl ?_
    refine g_iload X4 hx (b at_49) rfl ?_
    refine g_iload X4 hx (b at_51) rfl ?_
    refine g_iload X4 hx (b at_53) rfl ?_
    refine g_iload X4 hx (b at_55) rfl ?_
    obtain ⟨_, _, ⟨T21, L21, k21, n21⟩, -, X21, hS21, hg21, ⟨Lc21, hQ21, l21, y21, z21⟩, st21⟩ := Jvm.RoadKit.callSS X4 hx (y := mn16) hown (mvT hZ (w8 hw)) (mvT hZ (w9 hw)) (mvT hZ (w2 hw)) (mvT hZ (w10 hw)) (by decide) (own_backOfV (VP := fun vm => IB Z vm []) (Q := Q_rm2_1 Z cv_1 cv_2 cv_3 cv_4 h0 n0) (rm := (R4 3 4 8 43)) (W := 0) (rm2_1 l Z a0 hw [] cv_1 cv_2 cv_3 cv_4 h0 n0 O0 HH_0 HC) hZ (w10 hw) (w2 hw) (by decide) (by decide)) (g := (mkF m 57 #[.val (.int i0), .val (.int i1), .val (.int i2), .val (.int i3), .val (.int i4), .val (.int i5), .val (.int cv_1), .val (.int cv_2), .val (.int cv_3), .val (.int cv_4), .val (.int (0 : Int32)), .unset, .unset, .unset, .unset] [(.int cv_4), (.int cv_3), (.int cv_2), (.int cv_1), (.int (0 : Int32))])) rfl (by rw [hml]; rfl) (argsL := [(.int (0 : Int32)), (.int cv_1), (.int cv_2), (.int cv_3), (.int cv_4)]) (rest := []) (lenOf pd_11 rfl) rfl (by show 2 * 0 + _ ≤ _; exact Nat.le_of_eq rfl) (b at_57) (fun vm₁ hw₁ => ⟨rfl, eh4, (own_ibW I0 hw₁), (by decide : 0 + 4 ≤ _), (by decide : 0 + 8 ≤ _)⟩)
    dsimp only [Pt.U, Pt.locs, Pt.cells, Pt.slots] at X21 l21 y21 z21 st21 hQ21 hS21 hg21
    subst l21 y21 z21
    have hZ : Z.Warmed39 (s.setVm T21.vm).vm := State.Warmed39.trans (t := s) hZ hS21.1
    have hown : (s.setVm T21.vm).vm.findClass "com/example/outbound_courier/outboundcourier/util/CharactersIsOneToPinLaw" = some m.cls := by rw [show (s.setVm T21.vm).vm = T21.vm from rfl, hS21.1.alike.findClass]; exact hown
    have hS210 := hS21.1
    obtain ⟨b2_2_3_21, t2_2_3_21, b1_21, kk2_2_3_21, rfl, M21, K21c, r21_0, r21_1, r21_2, r21_3, r21_4, r21_5, r21_6, r21_7, vq21_0, vq21_1⟩ := hQ21
    have N21 := Fr.app N4 M21
    have g_b1_21 : n0 ≤ b1_21 := Nat.le_trans (own_n0 O0) r21_0
    have O21 : Old Z n0 T21.heap := O0.keep K21c all0
    refine Go.tr st21 ?_
    refine g_astore X21 hx (b at_60) rfl (l' := #[.val (.int i0), .val (.int i1), .val (.int i2), .val (.int i3), .val (.int i4), .val (.int i5), .val (.int cv_1), .val (.int cv_2), .val (.int cv_3), .val (.int cv_4), .val (.int (0 : Int32)), .val (.ref b1_21), .unset, .unset, .unset]) rfl ?_
    refine g_aload X21 hx (b at_62) rfl rfl ?_
    refine g_iloadN X21 hx (b at_64) rfl ?_
    refine own_cS X21 hx hZ hown (w33 hw) (w34 hw) (w35 hw) (w36 hw) (rm6_1 hw b1_21 i1 t2_2_3_21 kk2_2_3_21 O21 r21_1 r21_2 r21_7) rfl 0 (by decide) (by decide) (by rw [hml]; rfl) [(.ref b1_21), (.int i1)] [] (lenOf pd_13 rfl) rfl rfl (Nat.le_of_eq rfl) (b at_65) ?_
    rintro T22 _ L22 X22 ⟨rfl, M22, eh22⟩
    have N22 := Fr.app N21 M22
    show Go p e below _ (T22.setTop (mkF m 68 #[.val (.int i0), .val (.int i1), .val (.int i2), .val (.int i3), .val (.int i4), .val (.int i5), .val (.int cv_1), .val (.int cv_2), .val (.int cv_3), .val (.int cv_4), .val (.int (0 : Int32)), .val (.ref b1_21), .unset, .unset, .unset] [(.int (0 : Int32))]))
    refine g_istore X22 hx (b at_68) (l' := #[.val (.int i0), .val (.int i1), .val (.int i2), .val (.int i3), .val (.int i4), .val (.int i5), .val (.int cv_1), .val (.int cv_2), .val (.int cv_3), .val (.int cv_4), .val (.int (0 : Int32)), .val (.ref b1_21), .val (.int (0 : Int32)), .unset, .unset]) rfl ?_
    refine g_iload X22 hx (b at_70) rfl ?_
    refine g_iconst X22 hx (5) (b at_72) rfl ?_
    refine g_icmpNo X22 hx (b at_73) (XT.ii_eq_f (by decide : ¬ ((0 : Int32) = (5 : Int32)))) ?_
    refine g_iload X22 hx (b at_76) rfl ?_
    refine g_ifNo X22 hx (b at_78) (XT.i0_ne_f (by decide : (0 : Int32) = (0 : Int32))) ?_
    refine g_iconst X22 hx (0) (b at_81) rfl ?_
    refine g_istore X22 hx (b at_82) (l' := #[.val (.int i0), .val (.int i1), .val (.int i2), .val (.int i3), .val (.int i4), .val (.int i5), .val (.int cv_1), .val (.int cv_2), .val (.int cv_3), .val (.int cv_4), .val (.int (0 : Int32)), .val (.ref b1_21), .val (.int (0 : Int32)), .val (.int (0 : Int32)), .unset]) rfl ?_
    refine g_goto X22 hx (pc := 84) 161 (b at_84) (by decide) ?_
    refine g_iload X22 hx (b at_161) rfl ?_
    refine g_iload X22 hx (b at_163) rfl ?_
    refine g_icmpNo X22 hx (b at_165) (XT.ii_ne_f (by decide : (0 : Int32) = (0 : Int32))) ?_
    refine g_iconst X22 hx (1) (b at_168) rfl ?_
    refine g_goto X22 hx (pc := 169) 173 (b at_169) (by decide) ?_
    obtain ⟨fs, hr, hrun, hended, hEnd⟩ := X22.leaveW hS21 (by rw [eh22]; exact (Nat.le_refl _)) (v := some (.int (1 : Int32))) (fun h => by rw [Bd.returns] at h; cases h)
    refine ⟨_, _, ?_, hrun, hended, _, _, rfl, ?_, ⟨hEnd.1, hEnd.2.1, hEnd.2.2.1, hEnd.2.2.2.mono (by decide) (by decide)⟩⟩
    · exact retN X22 hx (t := .boolean) Bd.returns (by simp) (b at_173) hr
    · exact ⟨rfl, N22⟩
  · rw [hq]
    show Go p e below _ (T4.setTop (mkF m 33 #[.val (.int i0), .val (.int i1), .val (.int i2), .val (.int i3), .val (.int i4), .val (.int i5), .val (.int cv_1), .val (.int cv_2), .val (.int cv_3), .val (.int cv_4), .unset, .unset, .unset, .unset, .unset] [(.int (1 : Int32))]))
    refine g_istore X4 hx (b at_33) (l' := #[.val (.int i0), .val (.int i1), .val (.int i2), .val (.int i3), .val (.int i4), .val (.int i5), .val (.int cv_1), .val (.int cv_2), .val (.int cv_3), .val (.int cv_4), .val (.int (1 : Int32)), .unset, .unset, .unset, .unset]) rfl ?_
    refine g_iload X4 hx (b at_35) rfl ?_
    refine g_iconst X4 hx (5) (b at_37) rfl ?_
    refine g_icmpYes X4 hx (pc := 38) 47 (b at_38) (XT.ii_ne_t (by decide : ¬ ((1 : Int32) = (5 : Int32)))) (by decide) ?_
    refine g_iload X4 hx (b at_47) rfl ?_
    refine g_iload X4 hx (b at_49) rfl ?_
    refine g_iload X4 hx (b at_51) rfl ?_
    refine g_iload X4 hx (b at_53) rfl ?_
    refine g_iload X4 hx (b at_55) rfl ?_
    by_cases hc26 : (255 : Int32) < cv_1
    · have he27 := own_N1 cv_1 r1_0 r1_1
      have hn28 : ¬ ((own_c cv_1) < (0 : Int32)) := by
        rw [he27]
        exact r1_0
      have hn29 : ¬ ((65535 : Int32) < (own_c cv_1)) := by
        rw [he27]
        exact r1_1
      have hn30 : (255 : Int32) < (own_c cv_1) := by
        rw [he27]
        exact hc26
      refine own_cS X4 hx hZ hown (w8 hw) (w9 hw) (w2 hw) (w10 hw) (rm2_2 hw cv_1 cv_2 cv_3 cv_4 w1i O0 Y3 Y4 hn28 hn29 hn30 Y10 Y12 Y14) eh4 0 (by decide) (by decide) (by rw [hml]; rfl) [(.int (1 : Int32)), (.int cv_1), (.int cv_2), (.int cv_3), (.int cv_4)] [] (lenOf pd_11 rfl) rfl rfl (Nat.le_of_eq rfl) (b at_57) ?_
      rintro T31 _ L31 X31 ⟨b3_31, bo_3_2_4_31, ko_3_2_4_31, rfl, M31, K31c, r31_0, r31_1, r31_2, r31_3, r31_4, r31_5, r31_6⟩
      have N31 := Fr.app N4 M31
      have g_b3_31 : n0 ≤ b3_31 := Nat.le_trans (own_n0 O0) r31_0
      have g_bo_3_2_4_31 : n0 ≤ bo_3_2_4_31 := Nat.le_trans (own_n0 O0) r31_1
      have O31 : Old Z n0 T31.heap := O0.keep K31c all0
      refine g_astore X31 hx (b at_60) rfl (l' := #[.val (.int i0), .val (.int i1), .val (.int i2), .val (.int i3), .val (.int i4), .val (.int i5), .val (.int cv_1), .val (.int cv_2), .val (.int cv_3), .val (.int cv_4), .val (.int (1 : Int32)), .val (.ref b3_31), .unset, .unset, .unset]) rfl ?_
      refine g_aload X31 hx (b at_62) rfl rfl ?_
      refine g_iloadN X31 hx (b at_64) rfl ?_
      by_cases hc32 : i1 < (1 : Int32)
      · refine own_cS X31 hx hZ hown (w33 hw) (w34 hw) (w35 hw) (w36 hw) (rm6_2 hw b3_31 i1 bo_3_2_4_31 ko_3_2_4_31 cv_1 w1i O31 r31_3 r31_4 r31_6 Y3 Y4 r31_5 hn28 hn29 Y10 hc32) rfl 0 (by decide) (by decide) (by rw [hml]; rfl) [(.ref b3_31), (.int i1)] [] (lenOf pd_13 rfl) rfl rfl (Nat.le_of_eq rfl) (b at_65) ?_
        rintro T33 _ L33 X33 ⟨rfl, M33, eh33⟩
        have N33 := Fr.app N31 M33
        show Go p e below _ (T33.setTop (mkF m 68 #[.val (.int i0), .val (.int i1), .val (.int i2), .val (.int i3), .val (.int i4), .val (.int i5), .val (.int cv_1), .val (.int cv_2), .val (.int cv_3), .val (.int cv_4), .val (.int (1 : Int32)), .val (.ref b3_31), .unset, .unset, .unset] [(.int (0 : Int32))]))
        exact tail1 _ _ _ _ _ _ _ X33 eh33 O31 N33 (by decide) (by decide) (Or.inr ⟨rfl, hc32⟩)
      · refine own_cS X31 hx hZ hown (w33 hw) (w34 hw) (w35 hw) (w36 hw) (rm6_3 hw b3_31 i1 bo_3_2_4_31 ko_3_2_4_31 cv_1 w1i O31 r31_3 r31_4 r31_6 Y3 Y4 r31_5 hn28 hn29 Y10 hc32) rfl 0 (by decide) (by decide) (by rw [hml]; rfl) [(.ref b3_31), (.int i1)] [] (lenOf pd_13 rfl) rfl rfl (Nat.le_of_eq rfl) (b at_65) ?_
        rintro T34 _ L34 X34 ⟨rfl, M34, eh34⟩
        have N34 := Fr.app N31 M34
        show Go p e below _ (T34.setTop (mkF m 68 #[.val (.int i0), .val (.int i1), .val (.int i2), .val (.int i3), .val (.int i4), .val (.int i5), .val (.int cv_1), .val (.int cv_2), .val (.int cv_3), .val (.int cv_4), .val (.int (1 : Int32)), .val (.ref b3_31), .unset, .unset, .unset] [(.int (1 : Int32))]))
        exact tail1 _ _ _ _ _ _ _ X34 eh34 O31 N34 (by decide) (by decide) (Or.inl ⟨rfl, hc32⟩)
    · have he35 := own_N1 cv_1 r1_0 r1_1
      have hn36 : ¬ ((own_c cv_1) < (0 : Int32)) := by
        rw [he35]
        exact r1_0
      have hn37 : ¬ ((65535 : Int32) < (own_c cv_1)) := by
        rw [he35]
        exact r1_1
      have hn38 : ¬ ((255 : Int32) < (own_c cv_1)) := by
        rw [he35]
        exact hc26
      refine own_cS X4 hx hZ hown (w8 hw) (w9 hw) (w2 hw) (w10 hw) (rm2_3 hw cv_1 cv_2 cv_3 cv_4 w1i O0 Y3 Y4 hn36 hn37 hn38) eh4 0 (by decide) (by decide) (by rw [hml]; rfl) [(.int (1 : Int32)), (.int cv_1), (.int cv_2), (.int cv_3), (.int cv_4)] [] (lenOf pd_11 rfl) rfl rfl (Nat.le_of_eq rfl) (b at_57) ?_
      rintro T39 _ L39 X39 ⟨b3_39, b1_3_2_4_39, k1_3_2_4_39, rfl, M39, K39c, r39_0, r39_1, r39_2, r39_3, r39_4, r39_5, r39_6⟩
      have N39 := Fr.app N4 M39
      have g_b3_39 : n0 ≤ b3_39 := Nat.le_trans (own_n0 O0) r39_0
      have g_b1_3_2_4_39 : n0 ≤ b1_3_2_4_39 := Nat.le_trans (own_n0 O0) r39_1
      have O39 : Old Z n0 T39.heap := O0.keep K39c all0
      refine g_astore X39 hx (b at_60) rfl (l' := #[.val (.int i0), .val (.int i1), .val (.int i2), .val (.int i3), .val (.int i4), .val (.int i5), .val (.int cv_1), .val (.int cv_2), .val (.int cv_3), .val (.int cv_4), .val (.int (1 : Int32)), .val (.ref b3_39), .unset, .unset, .unset]) rfl ?_
      refine g_aload X39 hx (b at_62) rfl rfl ?_
      refine g_iloadN X39 hx (b at_64) rfl ?_
      by_cases hc40 : i1 < (1 : Int32)
      · refine own_cS X39 hx hZ hown (w33 hw) (w34 hw) (w35 hw) (w36 hw) (rm6_4 hw b3_39 i1 b1_3_2_4_39 k1_3_2_4_39 cv_1 w1i O39 r39_3 r39_4 r39_6 Y3 Y4 r39_5 hc40) rfl 0 (by decide) (by decide) (by rw [hml]; rfl) [(.ref b3_39), (.int i1)] [] (lenOf pd_13 rfl) rfl rfl (Nat.le_of_eq rfl) (b at_65) ?_
        rintro T41 _ L41 X41 ⟨rfl, M41, eh41⟩
        have N41 := Fr.app N39 M41
        show Go p e below _ (T41.setTop (mkF m 68 #[.val (.int i0), .val (.int i1), .val (.int i2), .val (.int i3), .val (.int i4), .val (.int i5), .val (.int cv_1), .val (.int cv_2), .val (.int cv_3), .val (.int cv_4), .val (.int (1 : Int32)), .val (.ref b3_39), .unset, .unset, .unset] [(.int (0 : Int32))]))
        exact tail1 _ _ _ _ _ _ _ X41 eh41 O39 N41 (by decide) (by decide) (Or.inr ⟨rfl, hc40⟩)
      · refine own_cS X39 hx hZ hown (w33 hw) (w34 hw) (w35 hw) (w36 hw) (rm6_5 hw b3_39 i1 b1_3_2_4_39 k1_3_2_4_39 cv_1 w1i O39 r39_3 r39_4 r39_6 Y3 Y4 r39_5 hc40) rfl 0 (by decide) (by decide) (by rw [hml]; rfl) [(.ref b3_39), (.int i1)] [] (lenOf pd_13 rfl) rfl rfl (Nat.le_of_eq rfl) (b at_65) ?_
        rintro T42 _ L42 X42 ⟨rfl, M42, eh42⟩
        have N42 := Fr.app N39 M42
        show Go p e below _ (T42.setTop (mkF m 68 #[.val (.int i0), .val (.int i1), .val (.int i2), .val (.int i3), .val (.int i4), .val (.int i5), .val (.int cv_1), .val (.int cv_2), .val (.int cv_3), .val (.int cv_4), .val (.int (1 : Int32)), .val (.ref b3_39), .unset, .unset, .unset] [(.int (1 : Int32))]))
        exact tail1 _ _ _ _ _ _ _ X42 eh42 O39 N42 (by decide) (by decide) (Or.inl ⟨rfl, hc40⟩)
  · rw [hq]
    show Go p e below _ (T4.setTop (mkF m 33 #[.val (.int i0), .val (.int i1), .val (.int i2), .val (.int i3), .val (.int i4), .val (.int i5), .val (.int cv_1), .val (.int cv_2), .val (.int cv_3), .val (.int cv_4), .unset, .unset, .unset, .unset, .unset] [(.int (2 : Int32))]))
    refine g_istore X4 hx (b at_33) (l' := #[.val (.int i0), .val (.int i1), .val (.int i2), .val (.int i3), .val (.int i4), .val (.int i5), .val (.int cv_1), .val (.int cv_2), .val (.int cv_3), .val (.int cv_4), .val (.int (2 : Int32)), .unset, .unset, .unset, .unset]) rfl ?_
    refine g_iload X4 hx (b at_35) rfl ?_
    refine g_iconst X4 hx (5) (b at_37) rfl ?_
    refine g_icmpYes X4 hx (pc := 38) 47 (b at_38) (XT.ii_ne_t (by decide : ¬ ((2 : Int32) = (5 : Int32)))) (by decide) ?_
    refine g_iload X4 hx (b at_47) rfl ?_
    refine g_iload X4 hx (b at_49) rfl ?_
    refine g_iload X4 hx (b at_51) rfl ?_
    refine g_iload X4 hx (b at_53) rfl ?_
    refine g_iload X4 hx (b at_55) rfl ?_
    by_cases hc49 : (255 : Int32) < (own_mx cv_1 cv_2)
    · have he50 := own_N1 cv_1 r1_0 r1_1
      have hn51 : ¬ ((own_c cv_1) < (0 : Int32)) := by
        rw [he50]
        exact r1_0
      have hn52 : ¬ ((65535 : Int32) < (own_c cv_1)) := by
        rw [he50]
        exact r1_1
      have he53 := own_N1 cv_2 r2_0 r2_1
      have hn54 : ¬ ((own_c cv_2) < (0 : Int32)) := by
        rw [he53]
        exact r2_0
      have hn55 : ¬ ((65535 : Int32) < (own_c cv_2)) := by
        rw [he53]
        exact r2_1
      have hn56 : (255 : Int32) < (own_mx (own_c cv_1) (own_c cv_2)) := by
        rw [he50, he53]
        exact hc49
      refine own_cS X4 hx hZ hown (w8 hw) (w9 hw) (w2 hw) (w10 hw) (rm2_4 hw cv_1 cv_2 cv_3 cv_4 w1i O0 Y3 Y4 hn51 hn52 hn54 hn55 hn56 Y10 Y12 Y14) eh4 0 (by decide) (by decide) (by rw [hml]; rfl) [(.int (2 : Int32)), (.int cv_1), (.int cv_2), (.int cv_3), (.int cv_4)] [] (lenOf pd_11 rfl) rfl rfl (Nat.le_of_eq rfl) (b at_57) ?_
      rintro T57 _ L57 X57 ⟨b4_57, bo_3_2_5_57, ko_3_2_5_57, rfl, M57, K57c, r57_0, r57_1, r57_2, r57_3, r57_4, r57_5, r57_6⟩
      have N57 := Fr.app N4 M57
      have g_b4_57 : n0 ≤ b4_57 := Nat.le_trans (own_n0 O0) r57_0
      have g_bo_3_2_5_57 : n0 ≤ bo_3_2_5_57 := Nat.le_trans (own_n0 O0) r57_1
      have O57 : Old Z n0 T57.heap := O0.keep K57c all0
      refine g_astore X57 hx (b at_60) rfl (l' := #[.val (.int i0), .val (.int i1), .val (.int i2), .val (.int i3), .val (.int i4), .val (.int i5), .val (.int cv_1), .val (.int cv_2), .val (.int cv_3), .val (.int cv_4), .val (.int (2 : Int32)), .val (.ref b4_57), .unset, .unset, .unset]) rfl ?_
      refine g_aload X57 hx (b at_62) rfl rfl ?_
      refine g_iloadN X57 hx (b at_64) rfl ?_
      by_cases hc58 : i1 < ((2 : Int32) - (own_pr cv_1 cv_2))
      · have hn59 : i1 < ((2 : Int32) - (own_pr (own_c cv_1) (own_c cv_2))) := by
          rw [he50, he53]
          exact hc58
        refine own_cS X57 hx hZ hown (w33 hw) (w34 hw) (w35 hw) (w36 hw) (rm6_6 hw b4_57 i1 bo_3_2_5_57 ko_3_2_5_57 cv_1 cv_2 w1i O57 r57_3 r57_4 r57_6 Y3 Y4 r57_5 hn51 hn52 hn54 hn55 Y10 Y12 Y14 hn59) rfl 0 (by decide) (by decide) (by rw [hml]; rfl) [(.ref b4_57), (.int i1)] [] (lenOf pd_13 rfl) rfl rfl (Nat.le_of_eq rfl) (b at_65) ?_
        rintro T60 _ L60 X60 ⟨rfl, M60, eh60⟩
        have N60 := Fr.app N57 M60
        show Go p e below _ (T60.setTop (mkF m 68 #[.val (.int i0), .val (.int i1), .val (.int i2), .val (.int i3), .val (.int i4), .val (.int i5), .val (.int cv_1), .val (.int cv_2), .val (.int cv_3), .val (.int cv_4), .val (.int (2 : Int32)), .val (.ref b4_57), .unset, .unset, .unset] [(.int (0 : Int32))]))
        exact tail2 _ _ _ _ _ _ _ X60 eh60 O57 N60 (by decide) (by decide) (Or.inr ⟨rfl, (by rw [own_s0, own_s0]; exact hc58)⟩)
      · have hn61 : ¬ (i1 < ((2 : Int32) - (own_pr (own_c cv_1) (own_c cv_2)))) := by
          rw [he50, he53]
          exact hc58
        refine own_cS X57 hx hZ hown (w33 hw) (w34 hw) (w35 hw) (w36 hw) (rm6_7 hw b4_57 i1 bo_3_2_5_57 ko_3_2_5_57 cv_1 cv_2 w1i O57 r57_3 r57_4 r57_6 Y3 Y4 r57_5 hn51 hn52 hn54 hn55 Y10 Y12 Y14 hn61) rfl 0 (by decide) (by decide) (by rw [hml]; rfl) [(.ref b4_57), (.int i1)] [] (lenOf pd_13 rfl) rfl rfl (Nat.le_of_eq rfl) (b at_65) ?_
        rintro T62 _ L62 X62 ⟨rfl, M62, eh62⟩
        have N62 := Fr.app N57 M62
        show Go p e below _ (T62.setTop (mkF m 68 #[.val (.int i0), .val (.int i1), .val (.int i2), .val (.int i3), .val (.int i4), .val (.int i5), .val (.int cv_1), .val (.int cv_2), .val (.int cv_3), .val (.int cv_4), .val (.int (2 : Int32)), .val (.ref b4_57), .unset, .unset, .unset] [(.int (1 : Int32))]))
        exact tail2 _ _ _ _ _ _ _ X62 eh62 O57 N62 (by decide) (by decide) (Or.inl ⟨rfl, (by rw [own_s0, own_s0]; exact hc58)⟩)
    · have he63 := own_N1 cv_1 r1_0 r1_1
      have hn64 : ¬ ((own_c cv_1) < (0 : Int32)) := by
        rw [he63]
        exact r1_0
      have hn65 : ¬ ((65535 : Int32) < (own_c cv_1)) := by
        rw [he63]
        exact r1_1
      have he66 := own_N1 cv_2 r2_0 r2_1
      have hn67 : ¬ ((own_c cv_2) < (0 : Int32)) := by
        rw [he66]
        exact r2_0
      have hn68 : ¬ ((65535 : Int32) < (own_c cv_2)) := by
        rw [he66]
        exact r2_1
      have hn69 : ¬ ((255 : Int32) < (own_mx (own_c cv_1) (own_c cv_2))) := by
        rw [he63, he66]
        exact hc49
      have hp70 : ¬ ((255 : Int32) < cv_1) := by
        have j1 := own_k32 (255 : Int32) (255) (by decide)
        have j2 := own_c32 (cv_1)
        have j3 := own_k32 (0 : Int32) (0) (by decide)
        have j4 := own_nlt32 r1_0
        have j5 := own_k32 (65535 : Int32) (65535) (by decide)
        have j6 := own_nlt32 r1_1
        have j7 : (0 : Int) ≤ (cv_1).toInt ∧ (cv_1).toInt ≤ 65535 := by constructor <;> omega
        have j8 := own_nlt32 r1_0
        have j9 := own_nlt32 r1_1
        have j10 := own_c32 (cv_2)
        have j11 := own_nlt32 r2_0
        have j12 := own_nlt32 r2_1
        have j13 : (0 : Int) ≤ (cv_2).toInt ∧ (cv_2).toInt ≤ 65535 := by constructor <;> omega
        have j14 := own_mxB cv_1 cv_2
        have j15 : (0 : Int) ≤ ((own_mx cv_1 cv_2)).toInt ∧ ((own_mx cv_1 cv_2)).toInt ≤ 65535 := by constructor <;> omega
        have j16 := own_nlt32 hc49
        have j17 : (0 : Int) ≤ ((own_mx cv_1 cv_2)).toInt ∧ ((own_mx cv_1 cv_2)).toInt ≤ 255 := by constructor <;> omega
        have j18 := own_nlt32 hc49
        have j19 := own_nlt32 r2_0
        have j20 := own_nlt32 r2_1
        rw [Int32.lt_iff_toInt_lt]
        omega
      have hn71 : ¬ ((255 : Int32) < (own_c cv_1)) := by
        rw [he63]
        exact hp70
      have hp72 : ¬ ((255 : Int32) < cv_2) := by
        have j1 := own_k32 (255 : Int32) (255) (by decide)
        have j2 := own_c32 (cv_2)
        have j3 := own_k32 (0 : Int32) (0) (by decide)
        have j4 := own_nlt32 r2_0
        have j5 := own_k32 (65535 : Int32) (65535) (by decide)
        have j6 := own_nlt32 r2_1
        have j7 : (0 : Int) ≤ (cv_2).toInt ∧ (cv_2).toInt ≤ 65535 := by constructor <;> omega
        have j8 := own_nlt32 r2_0
        have j9 := own_nlt32 r2_1
        have j10 := own_c32 (cv_1)
        have j11 := own_nlt32 r1_0
        have j12 := own_nlt32 r1_1
        have j13 : (0 : Int) ≤ (cv_1).toInt ∧ (cv_1).toInt ≤ 65535 := by constructor <;> omega
        have j14 := own_mxB cv_1 cv_2
        have j15 : (0 : Int) ≤ ((own_mx cv_1 cv_2)).toInt ∧ ((own_mx cv_1 cv_2)).toInt ≤ 65535 := by constructor <;> omega
        have j16 := own_nlt32 hc49
        have j17 : (0 : Int) ≤ ((own_mx cv_1 cv_2)).toInt ∧ ((own_mx cv_1 cv_2)).toInt ≤ 255 := by constructor <;> omega
        have j18 := own_nlt32 hc49
        have j19 := own_nlt32 r1_0
        have j20 := own_nlt32 r1_1
        rw [Int32.lt_iff_toInt_lt]
        omega
      have hn73 : ¬ ((255 : Int32) < (own_c cv_2)) := by
        rw [he66]
        exact hp72
      refine own_cS X4 hx hZ hown (w8 hw) (w9 hw) (w2 hw) (w10 hw) (rm2_5 hw cv_1 cv_2 cv_3 cv_4 w1i O0 Y3 Y4 hn64 hn65 hn67 hn68 hn69 hn71 hn73) eh4 0 (by decide) (by decide) (by rw [hml]; rfl) [(.int (2 : Int32)), (.int cv_1), (.int cv_2), (.int cv_3), (.int cv_4)] [] (lenOf pd_11 rfl) rfl rfl (Nat.le_of_eq rfl) (b at_57) ?_
      rintro T74 _ L74 X74 ⟨b4_74, b1_3_2_5_74, k1_3_2_5_74, rfl, M74, K74c, r74_0, r74_1, r74_2, r74_3, r74_4, r74_5, r74_6⟩
      have N74 := Fr.app N4 M74
      have g_b4_74 : n0 ≤ b4_74 := Nat.le_trans (own_n0 O0) r74_0
      have g_b1_3_2_5_74 : n0 ≤ b1_3_2_5_74 := Nat.le_trans (own_n0 O0) r74_1
      have O74 : Old Z n0 T74.heap := O0.keep K74c all0
      refine g_astore X74 hx (b at_60) rfl (l' := #[.val (.int i0), .val (.int i1), .val (.int i2), .val (.int i3), .val (.int i4), .val (.int i5), .val (.int cv_1), .val (.int cv_2), .val (.int cv_3), .val (.int cv_4), .val (.int (2 : Int32)), .val (.ref b4_74), .unset, .unset, .unset]) rfl ?_
      refine g_aload X74 hx (b at_62) rfl rfl ?_
      refine g_iloadN X74 hx (b at_64) rfl ?_
      by_cases hc75 : i1 < (2 : Int32)
      · refine own_cS X74 hx hZ hown (w33 hw) (w34 hw) (w35 hw) (w36 hw) (rm6_8 hw b4_74 i1 b1_3_2_5_74 k1_3_2_5_74 cv_1 cv_2 w1i O74 r74_3 r74_4 r74_6 Y3 Y4 r74_5 hc75) rfl 0 (by decide) (by decide) (by rw [hml]; rfl) [(.ref b4_74), (.int i1)] [] (lenOf pd_13 rfl) rfl rfl (Nat.le_of_eq rfl) (b at_65) ?_
        rintro T76 _ L76 X76 ⟨rfl, M76, eh76⟩
        have N76 := Fr.app N74 M76
        show Go p e below _ (T76.setTop (mkF m 68 #[.val (.int i0), .val (.int i1), .val (.int i2), .val (.int i3), .val (.int i4), .val (.int i5), .val (.int cv_1), .val (.int cv_2), .val (.int cv_3), .val (.int cv_4), .val (.int (2 : Int32)), .val (.ref b4_74), .unset, .unset, .unset] [(.int (0 : Int32))]))
        have hp77 : (own_hi cv_1) = (0 : Int32) := by
          have j1 := own_c32 (cv_1)
          have j2 := own_k32 (0 : Int32) (0) (by decide)
          have j3 := own_nlt32 r1_0
          have j4 := own_k32 (65535 : Int32) (65535) (by decide)
          have j5 := own_nlt32 r1_1
          have j6 : (0 : Int) ≤ (cv_1).toInt ∧ (cv_1).toInt ≤ 65535 := by constructor <;> omega
          have j7 := own_hl cv_1
          have j8 := own_hiB cv_1
          have j9 := own_nlt32 r1_0
          have j10 := own_nlt32 r1_1
          have j11 := own_k32 (255 : Int32) (255) (by decide)
          have j12 := own_c32 (cv_2)
          have j13 := own_nlt32 r2_0
          have j14 := own_nlt32 r2_1
          have j15 : (0 : Int) ≤ (cv_2).toInt ∧ (cv_2).toInt ≤ 65535 := by constructor <;> omega
          have j16 := own_mxB cv_1 cv_2
          have j17 : (0 : Int) ≤ ((own_mx cv_1 cv_2)).toInt ∧ ((own_mx cv_1 cv_2)).toInt ≤ 65535 := by constructor <;> omega
          have j18 := own_nlt32 hc49
          have j19 : (0 : Int) ≤ ((own_mx cv_1 cv_2)).toInt ∧ ((own_mx cv_1 cv_2)).toInt ≤ 255 := by constructor <;> omega
          have j20 := own_nlt32 hc49
          have j21 := own_nlt32 r2_0
          have j22 := own_nlt32 r2_1
          have j23 := own_hiI cv_1
          rw [← Int32.toInt_inj]
          omega
        exact tail2 _ _ _ _ _ _ _ X76 eh76 O74 N76 (by decide) (by decide) (Or.inr ⟨rfl, (by rw [(own_pr0a (b := cv_2) hp77), own_s0, own_s0, own_s0]; exact hc75)⟩)
      · refine own_cS X74 hx hZ hown (w33 hw) (w34 hw) (w35 hw) (w36 hw) (rm6_9 hw b4_74 i1 b1_3_2_5_74 k1_3_2_5_74 cv_1 cv_2 w1i O74 r74_3 r74_4 r74_6 Y3 Y4 r74_5 hc75) rfl 0 (by decide) (by decide) (by rw [hml]; rfl) [(.ref b4_74), (.int i1)] [] (lenOf pd_13 rfl) rfl rfl (Nat.le_of_eq rfl) (b at_65) ?_
        rintro T78 _ L78 X78 ⟨rfl, M78, eh78⟩
        have N78 := Fr.app N74 M78
        show Go p e below _ (T78.setTop (mkF m 68 #[.val (.int i0), .val (.int i1), .val (.int i2), .val (.int i3), .val (.int i4), .val (.int i5), .val (.int cv_1), .val (.int cv_2), .val (.int cv_3), .val (.int cv_4), .val (.int (2 : Int32)), .val (.ref b4_74), .unset, .unset, .unset] [(.int (1 : Int32))]))
        have hp79 : (own_hi cv_1) = (0 : Int32) := by
          have j1 := own_c32 (cv_1)
          have j2 := own_k32 (0 : Int32) (0) (by decide)
          have j3 := own_nlt32 r1_0
          have j4 := own_k32 (65535 : Int32) (65535) (by decide)
          have j5 := own_nlt32 r1_1
          have j6 : (0 : Int) ≤ (cv_1).toInt ∧ (cv_1).toInt ≤ 65535 := by constructor <;> omega
          have j7 := own_hl cv_1
          have j8 := own_hiB cv_1
          have j9 := own_nlt32 r1_0
          have j10 := own_nlt32 r1_1
          have j11 := own_k32 (255 : Int32) (255) (by decide)
          have j12 := own_c32 (cv_2)
          have j13 := own_nlt32 r2_0
          have j14 := own_nlt32 r2_1
          have j15 : (0 : Int) ≤ (cv_2).toInt ∧ (cv_2).toInt ≤ 65535 := by constructor <;> omega
          have j16 := own_mxB cv_1 cv_2
          have j17 : (0 : Int) ≤ ((own_mx cv_1 cv_2)).toInt ∧ ((own_mx cv_1 cv_2)).toInt ≤ 65535 := by constructor <;> omega
          have j18 := own_nlt32 hc49
          have j19 : (0 : Int) ≤ ((own_mx cv_1 cv_2)).toInt ∧ ((own_mx cv_1 cv_2)).toInt ≤ 255 := by constructor <;> omega
          have j20 := own_nlt32 hc49
          have j21 := own_nlt32 r2_0
          have j22 := own_nlt32 r2_1
          have j23 := own_hiI cv_1
          rw [← Int32.toInt_inj]
          omega
        exact tail2 _ _ _ _ _ _ _ X78 eh78 O74 N78 (by decide) (by decide) (Or.inl ⟨rfl, (by rw [(own_pr0a (b := cv_2) hp79), own_s0, own_s0, own_s0]; exact hc75)⟩)
  · rw [hq]
    show Go p e below _ (T4.setTop (mkF m 33 #[.val (.int i0), .val (.int i1), .val (.int i2), .val (.int i3), .val (.int i4), .val (.int i5), .val (.int cv_1), .val (.int cv_2), .val (.int cv_3), .val (.int cv_4), .unset, .unset, .unset, .unset, .unset] [(.int (3 : Int32))]))
    refine g_istore X4 hx (b at_33) (l' := #[.val (.int i0), .val (.int i1), .val (.int i2), .val (.int i3), .val (.int i4), .val (.int i5), .val (.int cv_1), .val (.int cv_2), .val (.int cv_3), .val (.int cv_4), .val (.int (3 : Int32)), .unset, .unset, .unset, .unset]) rfl ?_
    refine g_iload X4 hx (b at_35) rfl ?_
    refine g_iconst X4 hx (5) (b at_37) rfl ?_
    refine g_icmpYes X4 hx (pc := 38) 47 (b at_38) (XT.ii_ne_t (by decide : ¬ ((3 : Int32) = (5 : Int32)))) (by decide) ?_
    refine g_iload X4 hx (b at_47) rfl ?_
    refine g_iload X4 hx (b at_49) rfl ?_
    refine g_iload X4 hx (b at_51) rfl ?_
    refine g_iload X4 hx (b at_53) rfl ?_
    refine g_iload X4 hx (b at_55) rfl ?_
    by_cases hc89 : (255 : Int32) < (own_mx (own_mx cv_1 cv_2) cv_3)
    · have he90 := own_N1 cv_1 r1_0 r1_1
      have hn91 : ¬ ((own_c cv_1) < (0 : Int32)) := by
        rw [he90]
        exact r1_0
      have hn92 : ¬ ((65535 : Int32) < (own_c cv_1)) := by
        rw [he90]
        exact r1_1
      have he93 := own_N1 cv_2 r2_0 r2_1
      have hn94 : ¬ ((own_c cv_2) < (0 : Int32)) := by
        rw [he93]
        exact r2_0
      have hn95 : ¬ ((65535 : Int32) < (own_c cv_2)) := by
        rw [he93]
        exact r2_1
      have he96 := own_N1 cv_3 r3_0 r3_1
      have hn97 : ¬ ((own_c cv_3) < (0 : Int32)) := by
        rw [he96]
        exact r3_0
      have hn98 : ¬ ((65535 : Int32) < (own_c cv_3)) := by
        rw [he96]
        exact r3_1
      have hn99 : (255 : Int32) < (own_mx (own_mx (own_c cv_1) (own_c cv_2)) (own_c cv_3)) := by
        rw [he90, he93, he96]
        exact hc89
      refine own_cS X4 hx hZ hown (w8 hw) (w9 hw) (w2 hw) (w10 hw) (rm2_6 hw cv_1 cv_2 cv_3 cv_4 w1i O0 Y3 Y4 hn91 hn92 hn94 hn95 hn97 hn98 hn99 Y10 Y12 Y14) eh4 0 (by decide) (by decide) (by rw [hml]; rfl) [(.int (3 : Int32)), (.int cv_1), (.int cv_2), (.int cv_3), (.int cv_4)] [] (lenOf pd_11 rfl) rfl rfl (Nat.le_of_eq rfl) (b at_57) ?_
      rintro T100 _ L100 X100 ⟨b5_100, bo_3_2_6_100, ko_3_2_6_100, rfl, M100, K100c, r100_0, r100_1, r100_2, r100_3, r100_4, r100_5, r100_6⟩
      have N100 := Fr.app N4 M100
      have g_b5_100 : n0 ≤ b5_100 := Nat.le_trans (own_n0 O0) r100_0
      have g_bo_3_2_6_100 : n0 ≤ bo_3_2_6_100 := Nat.le_trans (own_n0 O0) r100_1
      have O100 : Old Z n0 T100.heap := O0.keep K100c all0
      refine g_astore X100 hx (b at_60) rfl (l' := #[.val (.int i0), .val (.int i1), .val (.int i2), .val (.int i3), .val (.int i4), .val (.int i5), .val (.int cv_1), .val (.int cv_2), .val (.int cv_3), .val (.int cv_4), .val (.int (3 : Int32)), .val (.ref b5_100), .unset, .unset, .unset]) rfl ?_
      refine g_aload X100 hx (b at_62) rfl rfl ?_
      refine g_iloadN X100 hx (b at_64) rfl ?_
      by_cases hc101 : i1 < (((3 : Int32) - (own_pr cv_1 cv_2)) - (own_pr cv_2 cv_3))
      · have hn102 : i1 < (((3 : Int32) - (own_pr (own_c cv_1) (own_c cv_2))) - (own_pr (own_c cv_2) (own_c cv_3))) := by
          rw [he90, he93, he96]
          exact hc101
        refine own_cS X100 hx hZ hown (w33 hw) (w34 hw) (w35 hw) (w36 hw) (rm6_10 hw b5_100 i1 bo_3_2_6_100 ko_3_2_6_100 cv_1 cv_2 cv_3 w1i O100 r100_3 r100_4 r100_6 Y3 Y4 r100_5 hn91 hn92 hn94 hn95 hn97 hn98 Y10 Y12 Y14 hn102) rfl 0 (by decide) (by decide) (by rw [hml]; rfl) [(.ref b5_100), (.int i1)] [] (lenOf pd_13 rfl) rfl rfl (Nat.le_of_eq rfl) (b at_65) ?_
        rintro T103 _ L103 X103 ⟨rfl, M103, eh103⟩
        have N103 := Fr.app N100 M103
        show Go p e below _ (T103.setTop (mkF m 68 #[.val (.int i0), .val (.int i1), .val (.int i2), .val (.int i3), .val (.int i4), .val (.int i5), .val (.int cv_1), .val (.int cv_2), .val (.int cv_3), .val (.int cv_4), .val (.int (3 : Int32)), .val (.ref b5_100), .unset, .unset, .unset] [(.int (0 : Int32))]))
        exact tail3 _ _ _ _ _ _ _ X103 eh103 O100 N103 (by decide) (by decide) (Or.inr ⟨rfl, (by rw [own_s0]; exact hc101)⟩)
      · have hn104 : ¬ (i1 < (((3 : Int32) - (own_pr (own_c cv_1) (own_c cv_2))) - (own_pr (own_c cv_2) (own_c cv_3)))) := by
          rw [he90, he93, he96]
          exact hc101
        refine own_cS X100 hx hZ hown (w33 hw) (w34 hw) (w35 hw) (w36 hw) (rm6_11 hw b5_100 i1 bo_3_2_6_100 ko_3_2_6_100 cv_1 cv_2 cv_3 w1i O100 r100_3 r100_4 r100_6 Y3 Y4 r100_5 hn91 hn92 hn94 hn95 hn97 hn98 Y10 Y12 Y14 hn104) rfl 0 (by decide) (by decide) (by rw [hml]; rfl) [(.ref b5_100), (.int i1)] [] (lenOf pd_13 rfl) rfl rfl (Nat.le_of_eq rfl) (b at_65) ?_
        rintro T105 _ L105 X105 ⟨rfl, M105, eh105⟩
        have N105 := Fr.app N100 M105
        show Go p e below _ (T105.setTop (mkF m 68 #[.val (.int i0), .val (.int i1), .val (.int i2), .val (.int i3), .val (.int i4), .val (.int i5), .val (.int cv_1), .val (.int cv_2), .val (.int cv_3), .val (.int cv_4), .val (.int (3 : Int32)), .val (.ref b5_100), .unset, .unset, .unset] [(.int (1 : Int32))]))
        exact tail3 _ _ _ _ _ _ _ X105 eh105 O100 N105 (by decide) (by decide) (Or.inl ⟨rfl, (by rw [own_s0]; exact hc101)⟩)
    · have he106 := own_N1 cv_1 r1_0 r1_1
      have hn107 : ¬ ((own_c cv_1) < (0 : Int32)) := by
        rw [he106]
        exact r1_0
      have hn108 : ¬ ((65535 : Int32) < (own_c cv_1)) := by
        rw [he106]
        exact r1_1
      have he109 := own_N1 cv_2 r2_0 r2_1
      have hn110 : ¬ ((own_c cv_2) < (0 : Int32)) := by
        rw [he109]
        exact r2_0
      have hn111 : ¬ ((65535 : Int32) < (own_c cv_2)) := by
        rw [he109]
        exact r2_1
      have he112 := own_N1 cv_3 r3_0 r3_1
      have hn113 : ¬ ((own_c cv_3) < (0 : Int32)) := by
        rw [he112]
        exact r3_0
      have hn114 : ¬ ((65535 : Int32) < (own_c cv_3)) := by
        rw [he112]
        exact r3_1
      have hn115 : ¬ ((255 : Int32) < (own_mx (own_mx (own_c cv_1) (own_c cv_2)) (own_c cv_3))) := by
        rw [he106, he109, he112]
        exact hc89
      have hp116 : ¬ ((255 : Int32) < cv_1) := by
        have j1 := own_k32 (255 : Int32) (255) (by decide)
        have j2 := own_c32 (cv_1)
        have j3 := own_k32 (0 : Int32) (0) (by decide)
        have j4 := own_nlt32 r1_0
        have j5 := own_k32 (65535 : Int32) (65535) (by decide)
        have j6 := own_nlt32 r1_1
        have j7 : (0 : Int) ≤ (cv_1).toInt ∧ (cv_1).toInt ≤ 65535 := by constructor <;> omega
        have j8 := own_nlt32 r1_0
        have j9 := own_nlt32 r1_1
        have j10 := own_c32 (cv_2)
        have j11 := own_nlt32 r2_0
        have j12 := own_nlt32 r2_1
        have j13 : (0 : Int) ≤ (cv_2).toInt ∧ (cv_2).toInt ≤ 65535 := by constructor <;> omega
        have j14 := own_mxB cv_1 cv_2
        have j15 : (0 : Int) ≤ ((own_mx cv_1 cv_2)).toInt ∧ ((own_mx cv_1 cv_2)).toInt ≤ 65535 := by constructor <;> omega
        have j16 := own_c32 (cv_3)
        have j17 := own_nlt32 r3_0
        have j18 := own_nlt32 r3_1
        have j19 : (0 : Int) ≤ (cv_3).toInt ∧ (cv_3).toInt ≤ 65535 := by constructor <;> omega
        have j20 := own_mxB (own_mx cv_1 cv_2) cv_3
        have j21 : (0 : Int) ≤ ((own_mx (own_mx cv_1 cv_2) cv_3)).toInt ∧ ((own_mx (own_mx cv_1 cv_2) cv_3)).toInt ≤ 65535 := by constructor <;> omega
        have j22 := own_nlt32 hc89
        have j23 : (0 : Int) ≤ ((own_mx (own_mx cv_1 cv_2) cv_3)).toInt ∧ ((own_mx (own_mx cv_1 cv_2) cv_3)).toInt ≤ 255 := by constructor <;> omega
        have j24 := own_nlt32 hc89
        have j25 := own_nlt32 r2_0
        have j26 := own_nlt32 r2_1
        have j27 := own_nlt32 r3_0
        have j28 := own_nlt32 r3_1
        rw [Int32.lt_iff_toInt_lt]
        omega
      have hn117 : ¬ ((255 : Int32) < (own_c cv_1)) := by
        rw [he106]
        exact hp116
      have hp118 : ¬ ((255 : Int32) < cv_2) := by
        have j1 := own_k32 (255 : Int32) (255) (by decide)
        have j2 := own_c32 (cv_2)
        have j3 := own_k32 (0 : Int32) (0) (by decide)
        have j4 := own_nlt32 r2_0
        have j5 := own_k32 (65535 : Int32) (65535) (by decide)
        have j6 := own_nlt32 r2_1
        have j7 : (0 : Int) ≤ (cv_2).toInt ∧ (cv_2).toInt ≤ 65535 := by constructor <;> omega
        have j8 := own_nlt32 r2_0
        have j9 := own_nlt32 r2_1
        have j10 := own_c32 (cv_1)
        have j11 := own_nlt32 r1_0
        have j12 := own_nlt32 r1_1
        have j13 : (0 : Int) ≤ (cv_1).toInt ∧ (cv_1).toInt ≤ 65535 := by constructor <;> omega
        have j14 := own_mxB cv_1 cv_2
        have j15 : (0 : Int) ≤ ((own_mx cv_1 cv_2)).toInt ∧ ((own_mx cv_1 cv_2)).toInt ≤ 65535 := by constructor <;> omega
        have j16 := own_c32 (cv_3)
        have j17 := own_nlt32 r3_0
        have j18 := own_nlt32 r3_1
        have j19 : (0 : Int) ≤ (cv_3).toInt ∧ (cv_3).toInt ≤ 65535 := by constructor <;> omega
        have j20 := own_mxB (own_mx cv_1 cv_2) cv_3
        have j21 : (0 : Int) ≤ ((own_mx (own_mx cv_1 cv_2) cv_3)).toInt ∧ ((own_mx (own_mx cv_1 cv_2) cv_3)).toInt ≤ 65535 := by constructor <;> omega
        have j22 := own_nlt32 hc89
        have j23 : (0 : Int) ≤ ((own_mx (own_mx cv_1 cv_2) cv_3)).toInt ∧ ((own_mx (own_mx cv_1 cv_2) cv_3)).toInt ≤ 255 := by constructor <;> omega
        have j24 := own_nlt32 hc89
        have j25 := own_nlt32 r1_0
        have j26 := own_nlt32 r1_1
        have j27 := own_nlt32 r3_0
        have j28 := own_nlt32 r3_1
        rw [Int32.lt_iff_toInt_lt]
        omega
      have hn119 : ¬ ((255 : Int32) < (own_c cv_2)) := by
        rw [he109]
        exact hp118
      have hp120 : ¬ ((255 : Int32) < cv_3) := by
        have j1 := own_k32 (255 : Int32) (255) (by decide)
        have j2 := own_c32 (cv_3)
        have j3 := own_k32 (0 : Int32) (0) (by decide)
        have j4 := own_nlt32 r3_0
        have j5 := own_k32 (65535 : Int32) (65535) (by decide)
        have j6 := own_nlt32 r3_1
        have j7 : (0 : Int) ≤ (cv_3).toInt ∧ (cv_3).toInt ≤ 65535 := by constructor <;> omega
        have j8 := own_nlt32 r3_0
        have j9 := own_nlt32 r3_1
        have j10 := own_c32 (cv_1)
        have j11 := own_nlt32 r1_0
        have j12 := own_nlt32 r1_1
        have j13 : (0 : Int) ≤ (cv_1).toInt ∧ (cv_1).toInt ≤ 65535 := by constructor <;> omega
        have j14 := own_c32 (cv_2)
        have j15 := own_nlt32 r2_0
        have j16 := own_nlt32 r2_1
        have j17 : (0 : Int) ≤ (cv_2).toInt ∧ (cv_2).toInt ≤ 65535 := by constructor <;> omega
        have j18 := own_mxB cv_1 cv_2
        have j19 : (0 : Int) ≤ ((own_mx cv_1 cv_2)).toInt ∧ ((own_mx cv_1 cv_2)).toInt ≤ 65535 := by constructor <;> omega
        have j20 := own_mxB (own_mx cv_1 cv_2) cv_3
        have j21 : (0 : Int) ≤ ((own_mx (own_mx cv_1 cv_2) cv_3)).toInt ∧ ((own_mx (own_mx cv_1 cv_2) cv_3)).toInt ≤ 65535 := by constructor <;> omega
        have j22 := own_nlt32 hc89
        have j23 : (0 : Int) ≤ ((own_mx (own_mx cv_1 cv_2) cv_3)).toInt ∧ ((own_mx (own_mx cv_1 cv_2) cv_3)).toInt ≤ 255 := by constructor <;> omega
        have j24 := own_nlt32 hc89
        have j25 := own_nlt32 r1_0
        have j26 := own_nlt32 r1_1
        have j27 := own_nlt32 r2_0
        have j28 := own_nlt32 r2_1
        rw [Int32.lt_iff_toInt_lt]
        omega
      have hn121 : ¬ ((255 : Int32) < (own_c cv_3)) := by
        rw [he112]
        exact hp120
      refine own_cS X4 hx hZ hown (w8 hw) (w9 hw) (w2 hw) (w10 hw) (rm2_7 hw cv_1 cv_2 cv_3 cv_4 w1i O0 Y3 Y4 hn107 hn108 hn110 hn111 hn113 hn114 hn115 hn117 hn119 hn121) eh4 0 (by decide) (by decide) (by rw [hml]; rfl) [(.int (3 : Int32)), (.int cv_1), (.int cv_2), (.int cv_3), (.int cv_4)] [] (lenOf pd_11 rfl) rfl rfl (Nat.le_of_eq rfl) (b at_57) ?_
      rintro T122 _ L122 X122 ⟨b5_122, b1_3_2_6_122, k1_3_2_6_122, rfl, M122, K122c, r122_0, r122_1, r122_2, r122_3, r122_4, r122_5, r122_6⟩
      have N122 := Fr.app N4 M122
      have g_b5_122 : n0 ≤ b5_122 := Nat.le_trans (own_n0 O0) r122_0
      have g_b1_3_2_6_122 : n0 ≤ b1_3_2_6_122 := Nat.le_trans (own_n0 O0) r122_1
      have O122 : Old Z n0 T122.heap := O0.keep K122c all0
      refine g_astore X122 hx (b at_60) rfl (l' := #[.val (.int i0), .val (.int i1), .val (.int i2), .val (.int i3), .val (.int i4), .val (.int i5), .val (.int cv_1), .val (.int cv_2), .val (.int cv_3), .val (.int cv_4), .val (.int (3 : Int32)), .val (.ref b5_122), .unset, .unset, .unset]) rfl ?_
      refine g_aload X122 hx (b at_62) rfl rfl ?_
      refine g_iloadN X122 hx (b at_64) rfl ?_
      by_cases hc123 : i1 < (3 : Int32)
      · refine own_cS X122 hx hZ hown (w33 hw) (w34 hw) (w35 hw) (w36 hw) (rm6_12 hw b5_122 i1 b1_3_2_6_122 k1_3_2_6_122 cv_1 cv_2 cv_3 w1i O122 r122_3 r122_4 r122_6 Y3 Y4 r122_5 hc123) rfl 0 (by decide) (by decide) (by rw [hml]; rfl) [(.ref b5_122), (.int i1)] [] (lenOf pd_13 rfl) rfl rfl (Nat.le_of_eq rfl) (b at_65) ?_
        rintro T124 _ L124 X124 ⟨rfl, M124, eh124⟩
        have N124 := Fr.app N122 M124
        show Go p e below _ (T124.setTop (mkF m 68 #[.val (.int i0), .val (.int i1), .val (.int i2), .val (.int i3), .val (.int i4), .val (.int i5), .val (.int cv_1), .val (.int cv_2), .val (.int cv_3), .val (.int cv_4), .val (.int (3 : Int32)), .val (.ref b5_122), .unset, .unset, .unset] [(.int (0 : Int32))]))
        have hp125 : (own_hi cv_1) = (0 : Int32) := by
          have j1 := own_c32 (cv_1)
          have j2 := own_k32 (0 : Int32) (0) (by decide)
          have j3 := own_nlt32 r1_0
          have j4 := own_k32 (65535 : Int32) (65535) (by decide)
          have j5 := own_nlt32 r1_1
          have j6 : (0 : Int) ≤ (cv_1).toInt ∧ (cv_1).toInt ≤ 65535 := by constructor <;> omega
          have j7 := own_hl cv_1
          have j8 := own_hiB cv_1
          have j9 := own_nlt32 r1_0
          have j10 := own_nlt32 r1_1
          have j11 := own_k32 (255 : Int32) (255) (by decide)
          have j12 := own_c32 (cv_2)
          have j13 := own_nlt32 r2_0
          have j14 := own_nlt32 r2_1
          have j15 : (0 : Int) ≤ (cv_2).toInt ∧ (cv_2).toInt ≤ 65535 := by constructor <;> omega
          have j16 := own_mxB cv_1 cv_2
          have j17 : (0 : Int) ≤ ((own_mx cv_1 cv_2)).toInt ∧ ((own_mx cv_1 cv_2)).toInt ≤ 65535 := by constructor <;> omega
          have j18 := own_c32 (cv_3)
          have j19 := own_nlt32 r3_0
          have j20 := own_nlt32 r3_1
          have j21 : (0 : Int) ≤ (cv_3).toInt ∧ (cv_3).toInt ≤ 65535 := by constructor <;> omega
          have j22 := own_mxB (own_mx cv_1 cv_2) cv_3
          have j23 : (0 : Int) ≤ ((own_mx (own_mx cv_1 cv_2) cv_3)).toInt ∧ ((own_mx (own_mx cv_1 cv_2) cv_3)).toInt ≤ 65535 := by constructor <;> omega
          have j24 := own_nlt32 hc89
          have j25 : (0 : Int) ≤ ((own_mx (own_mx cv_1 cv_2) cv_3)).toInt ∧ ((own_mx (own_mx cv_1 cv_2) cv_3)).toInt ≤ 255 := by constructor <;> omega
          have j26 := own_nlt32 hc89
          have j27 := own_nlt32 r2_0
          have j28 := own_nlt32 r2_1
          have j29 := own_nlt32 r3_0
          have j30 := own_nlt32 r3_1
          have j31 := own_hiI cv_1
          rw [← Int32.toInt_inj]
          omega
        have hp126 : (own_hi cv_2) = (0 : Int32) := by
          have j1 := own_c32 (cv_2)
          have j2 := own_k32 (0 : Int32) (0) (by decide)
          have j3 := own_nlt32 r2_0
          have j4 := own_k32 (65535 : Int32) (65535) (by decide)
          have j5 := own_nlt32 r2_1
          have j6 : (0 : Int) ≤ (cv_2).toInt ∧ (cv_2).toInt ≤ 65535 := by constructor <;> omega
          have j7 := own_hl cv_2
          have j8 := own_hiB cv_2
          have j9 := own_nlt32 r2_0
          have j10 := own_nlt32 r2_1
          have j11 := own_k32 (255 : Int32) (255) (by decide)
          have j12 := own_c32 (cv_1)
          have j13 := own_nlt32 r1_0
          have j14 := own_nlt32 r1_1
          have j15 : (0 : Int) ≤ (cv_1).toInt ∧ (cv_1).toInt ≤ 65535 := by constructor <;> omega
          have j16 := own_mxB cv_1 cv_2
          have j17 : (0 : Int) ≤ ((own_mx cv_1 cv_2)).toInt ∧ ((own_mx cv_1 cv_2)).toInt ≤ 65535 := by constructor <;> omega
          have j18 := own_c32 (cv_3)
          have j19 := own_nlt32 r3_0
          have j20 := own_nlt32 r3_1
          have j21 : (0 : Int) ≤ (cv_3).toInt ∧ (cv_3).toInt ≤ 65535 := by constructor <;> omega
          have j22 := own_mxB (own_mx cv_1 cv_2) cv_3
          have j23 : (0 : Int) ≤ ((own_mx (own_mx cv_1 cv_2) cv_3)).toInt ∧ ((own_mx (own_mx cv_1 cv_2) cv_3)).toInt ≤ 65535 := by constructor <;> omega
          have j24 := own_nlt32 hc89
          have j25 : (0 : Int) ≤ ((own_mx (own_mx cv_1 cv_2) cv_3)).toInt ∧ ((own_mx (own_mx cv_1 cv_2) cv_3)).toInt ≤ 255 := by constructor <;> omega
          have j26 := own_nlt32 hc89
          have j27 := own_nlt32 r1_0
          have j28 := own_nlt32 r1_1
          have j29 := own_nlt32 r3_0
          have j30 := own_nlt32 r3_1
          have j31 := own_hiI cv_2
          rw [← Int32.toInt_inj]
          omega
        exact tail3 _ _ _ _ _ _ _ X124 eh124 O122 N124 (by decide) (by decide) (Or.inr ⟨rfl, (by rw [(own_pr0a (b := cv_2) hp125), (own_pr0a (b := cv_3) hp126), own_s0, own_s0, own_s0]; exact hc123)⟩)
      · refine own_cS X122 hx hZ hown (w33 hw) (w34 hw) (w35 hw) (w36 hw) (rm6_13 hw b5_122 i1 b1_3_2_6_122 k1_3_2_6_122 cv_1 cv_2 cv_3 w1i O122 r122_3 r122_4 r122_6 Y3 Y4 r122_5 hc123) rfl 0 (by decide) (by decide) (by rw [hml]; rfl) [(.ref b5_122), (.int i1)] [] (lenOf pd_13 rfl) rfl rfl (Nat.le_of_eq rfl) (b at_65) ?_
        rintro T127 _ L127 X127 ⟨rfl, M127, eh127⟩
        have N127 := Fr.app N122 M127
        show Go p e below _ (T127.setTop (mkF m 68 #[.val (.int i0), .val (.int i1), .val (.int i2), .val (.int i3), .val (.int i4), .val (.int i5), .val (.int cv_1), .val (.int cv_2), .val (.int cv_3), .val (.int cv_4), .val (.int (3 : Int32)), .val (.ref b5_122), .unset, .unset, .unset] [(.int (1 : Int32))]))
        have hp128 : (own_hi cv_1) = (0 : Int32) := by
          have j1 := own_c32 (cv_1)
          have j2 := own_k32 (0 : Int32) (0) (by decide)
          have j3 := own_nlt32 r1_0
          have j4 := own_k32 (65535 : Int32) (65535) (by decide)
          have j5 := own_nlt32 r1_1
          have j6 : (0 : Int) ≤ (cv_1).toInt ∧ (cv_1).toInt ≤ 65535 := by constructor <;> omega
          have j7 := own_hl cv_1
          have j8 := own_hiB cv_1
          have j9 := own_nlt32 r1_0
          have j10 := own_nlt32 r1_1
          have j11 := own_k32 (255 : Int32) (255) (by decide)
          have j12 := own_c32 (cv_2)
          have j13 := own_nlt32 r2_0
          have j14 := own_nlt32 r2_1
          have j15 : (0 : Int) ≤ (cv_2).toInt ∧ (cv_2).toInt ≤ 65535 := by constructor <;> omega
          have j16 := own_mxB cv_1 cv_2
          have j17 : (0 : Int) ≤ ((own_mx cv_1 cv_2)).toInt ∧ ((own_mx cv_1 cv_2)).toInt ≤ 65535 := by constructor <;> omega
          have j18 := own_c32 (cv_3)
          have j19 := own_nlt32 r3_0
          have j20 := own_nlt32 r3_1
          have j21 : (0 : Int) ≤ (cv_3).toInt ∧ (cv_3).toInt ≤ 65535 := by constructor <;> omega
          have j22 := own_mxB (own_mx cv_1 cv_2) cv_3
          have j23 : (0 : Int) ≤ ((own_mx (own_mx cv_1 cv_2) cv_3)).toInt ∧ ((own_mx (own_mx cv_1 cv_2) cv_3)).toInt ≤ 65535 := by constructor <;> omega
          have j24 := own_nlt32 hc89
          have j25 : (0 : Int) ≤ ((own_mx (own_mx cv_1 cv_2) cv_3)).toInt ∧ ((own_mx (own_mx cv_1 cv_2) cv_3)).toInt ≤ 255 := by constructor <;> omega
          have j26 := own_nlt32 hc89
          have j27 := own_nlt32 r2_0
          have j28 := own_nlt32 r2_1
          have j29 := own_nlt32 r3_0
          have j30 := own_nlt32 r3_1
          have j31 := own_hiI cv_1
          rw [← Int32.toInt_inj]
          omega
        have hp129 : (own_hi cv_2) = (0 : Int32) := by
          have j1 := own_c32 (cv_2)
          have j2 := own_k32 (0 : Int32) (0) (by decide)
          have j3 := own_nlt32 r2_0
          have j4 := own_k32 (65535 : Int32) (65535) (by decide)
          have j5 := own_nlt32 r2_1
          have j6 : (0 : Int) ≤ (cv_2).toInt ∧ (cv_2).toInt ≤ 65535 := by constructor <;> omega
          have j7 := own_hl cv_2
          have j8 := own_hiB cv_2
          have j9 := own_nlt32 r2_0
          have j10 := own_nlt32 r2_1
          have j11 := own_k32 (255 : Int32) (255) (by decide)
          have j12 := own_c32 (cv_1)
          have j13 := own_nlt32 r1_0
          have j14 := own_nlt32 r1_1
          have j15 : (0 : Int) ≤ (cv_1).toInt ∧ (cv_1).toInt ≤ 65535 := by constructor <;> omega
          have j16 := own_mxB cv_1 cv_2
          have j17 : (0 : Int) ≤ ((own_mx cv_1 cv_2)).toInt ∧ ((own_mx cv_1 cv_2)).toInt ≤ 65535 := by constructor <;> omega
          have j18 := own_c32 (cv_3)
          have j19 := own_nlt32 r3_0
          have j20 := own_nlt32 r3_1
          have j21 : (0 : Int) ≤ (cv_3).toInt ∧ (cv_3).toInt ≤ 65535 := by constructor <;> omega
          have j22 := own_mxB (own_mx cv_1 cv_2) cv_3
          have j23 : (0 : Int) ≤ ((own_mx (own_mx cv_1 cv_2) cv_3)).toInt ∧ ((own_mx (own_mx cv_1 cv_2) cv_3)).toInt ≤ 65535 := by constructor <;> omega
          have j24 := own_nlt32 hc89
          have j25 : (0 : Int) ≤ ((own_mx (own_mx cv_1 cv_2) cv_3)).toInt ∧ ((own_mx (own_mx cv_1 cv_2) cv_3)).toInt ≤ 255 := by constructor <;> omega
          have j26 := own_nlt32 hc89
          have j27 := own_nlt32 r1_0
          have j28 := own_nlt32 r1_1
          have j29 := own_nlt32 r3_0
          have j30 := own_nlt32 r3_1
          have j31 := own_hiI cv_2
          rw [← Int32.toInt_inj]
          omega
        exact tail3 _ _ _ _ _ _ _ X127 eh127 O122 N127 (by decide) (by decide) (Or.inl ⟨rfl, (by rw [(own_pr0a (b := cv_2) hp128), (own_pr0a (b := cv_3) hp129), own_s0, own_s0, own_s0]; exact hc123)⟩)
  · rw [hq]
    show Go p e below _ (T4.setTop (mkF m 33 #[.val (.int i0), .val (.int i1), .val (.int i2), .val (.int i3), .val (.int i4), .val (.int i5), .val (.int cv_1), .val (.int cv_2), .val (.int cv_3), .val (.int cv_4), .unset, .unset, .unset, .unset, .unset] [(.int (4 : Int32))]))
    refine g_istore X4 hx (b at_33) (l' := #[.val (.int i0), .val (.int i1), .val (.int i2), .val (.int i3), .val (.int i4), .val (.int i5), .val (.int cv_1), .val (.int cv_2), .val (.int cv_3), .val (.int cv_4), .val (.int (4 : Int32)), .unset, .unset, .unset, .unset]) rfl ?_
    refine g_iload X4 hx (b at_35) rfl ?_
    refine g_iconst X4 hx (5) (b at_37) rfl ?_
    refine g_icmpYes X4 hx (pc := 38) 47 (b at_38) (XT.ii_ne_t (by decide : ¬ ((4 : Int32) = (5 : Int32)))) (by decide) ?_
    refine g_iload X4 hx (b at_47) rfl ?_
    refine g_iload X4 hx (b at_49) rfl ?_
    refine g_iload X4 hx (b at_51) rfl ?_
    refine g_iload X4 hx (b at_53) rfl ?_
    refine g_iload X4 hx (b at_55) rfl ?_
    by_cases hc142 : (255 : Int32) < (own_mx (own_mx (own_mx cv_1 cv_2) cv_3) cv_4)
    · have he143 := own_N1 cv_1 r1_0 r1_1
      have hn144 : ¬ ((own_c cv_1) < (0 : Int32)) := by
        rw [he143]
        exact r1_0
      have hn145 : ¬ ((65535 : Int32) < (own_c cv_1)) := by
        rw [he143]
        exact r1_1
      have he146 := own_N1 cv_2 r2_0 r2_1
      have hn147 : ¬ ((own_c cv_2) < (0 : Int32)) := by
        rw [he146]
        exact r2_0
      have hn148 : ¬ ((65535 : Int32) < (own_c cv_2)) := by
        rw [he146]
        exact r2_1
      have he149 := own_N1 cv_3 r3_0 r3_1
      have hn150 : ¬ ((own_c cv_3) < (0 : Int32)) := by
        rw [he149]
        exact r3_0
      have hn151 : ¬ ((65535 : Int32) < (own_c cv_3)) := by
        rw [he149]
        exact r3_1
      have he152 := own_N1 cv_4 r4_0 r4_1
      have hn153 : ¬ ((own_c cv_4) < (0 : Int32)) := by
        rw [he152]
        exact r4_0
      have hn154 : ¬ ((65535 : Int32) < (own_c cv_4)) := by
        rw [he152]
        exact r4_1
      have hn155 : (255 : Int32) < (own_mx (own_mx (own_mx (own_c cv_1) (own_c cv_2)) (own_c cv_3)) (own_c cv_4)) := by
        rw [he143, he146, he149, he152]
        exact hc142
      refine own_cS X4 hx hZ hown (w8 hw) (w9 hw) (w2 hw) (w10 hw) (rm2_8 hw cv_1 cv_2 cv_3 cv_4 w1i O0 Y3 Y4 hn144 hn145 hn147 hn148 hn150 hn151 hn153 hn154 hn155 Y10 Y12 Y14) eh4 0 (by decide) (by decide) (by rw [hml]; rfl) [(.int (4 : Int32)), (.int cv_1), (.int cv_2), (.int cv_3), (.int cv_4)] [] (lenOf pd_11 rfl) rfl rfl (Nat.le_of_eq rfl) (b at_57) ?_
      rintro T156 _ L156 X156 ⟨b6_156, bo_3_2_7_156, ko_3_2_7_156, rfl, M156, K156c, r156_0, r156_1, r156_2, r156_3, r156_4, r156_5, r156_6⟩
      have N156 := Fr.app N4 M156
      have g_b6_156 : n0 ≤ b6_156 := Nat.le_trans (own_n0 O0) r156_0
      have g_bo_3_2_7_156 : n0 ≤ bo_3_2_7_156 := Nat.le_trans (own_n0 O0) r156_1
      have O156 : Old Z n0 T156.heap := O0.keep K156c all0
      refine g_astore X156 hx (b at_60) rfl (l' := #[.val (.int i0), .val (.int i1), .val (.int i2), .val (.int i3), .val (.int i4), .val (.int i5), .val (.int cv_1), .val (.int cv_2), .val (.int cv_3), .val (.int cv_4), .val (.int (4 : Int32)), .val (.ref b6_156), .unset, .unset, .unset]) rfl ?_
      refine g_aload X156 hx (b at_62) rfl rfl ?_
      refine g_iloadN X156 hx (b at_64) rfl ?_
      by_cases hc157 : i1 < ((((4 : Int32) - (own_pr cv_1 cv_2)) - (own_pr cv_2 cv_3)) - (own_pr cv_3 cv_4))
      · have hn158 : i1 < ((((4 : Int32) - (own_pr (own_c cv_1) (own_c cv_2))) - (own_pr (own_c cv_2) (own_c cv_3))) - (own_pr (own_c cv_3) (own_c cv_4))) := by
          rw [he143, he146, he149, he152]
          exact hc157
        refine own_cS X156 hx hZ hown (w33 hw) (w34 hw) (w35 hw) (w36 hw) (rm6_14 hw b6_156 i1 bo_3_2_7_156 ko_3_2_7_156 cv_1 cv_2 cv_3 cv_4 w1i O156 r156_3 r156_4 r156_6 Y3 Y4 r156_5 hn144 hn145 hn147 hn148 hn150 hn151 hn153 hn154 Y10 Y12 Y14 hn158) rfl 0 (by decide) (by decide) (by rw [hml]; rfl) [(.ref b6_156), (.int i1)] [] (lenOf pd_13 rfl) rfl rfl (Nat.le_of_eq rfl) (b at_65) ?_
        rintro T159 _ L159 X159 ⟨rfl, M159, eh159⟩
        have N159 := Fr.app N156 M159
        show Go p e below _ (T159.setTop (mkF m 68 #[.val (.int i0), .val (.int i1), .val (.int i2), .val (.int i3), .val (.int i4), .val (.int i5), .val (.int cv_1), .val (.int cv_2), .val (.int cv_3), .val (.int cv_4), .val (.int (4 : Int32)), .val (.ref b6_156), .unset, .unset, .unset] [(.int (0 : Int32))]))
        exact tail4 _ _ _ _ _ _ _ X159 eh159 O156 N159 (by decide) (by decide) (Or.inr ⟨rfl, hc157⟩)
      · have hn160 : ¬ (i1 < ((((4 : Int32) - (own_pr (own_c cv_1) (own_c cv_2))) - (own_pr (own_c cv_2) (own_c cv_3))) - (own_pr (own_c cv_3) (own_c cv_4)))) := by
          rw [he143, he146, he149, he152]
          exact hc157
        refine own_cS X156 hx hZ hown (w33 hw) (w34 hw) (w35 hw) (w36 hw) (rm6_15 hw b6_156 i1 bo_3_2_7_156 ko_3_2_7_156 cv_1 cv_2 cv_3 cv_4 w1i O156 r156_3 r156_4 r156_6 Y3 Y4 r156_5 hn144 hn145 hn147 hn148 hn150 hn151 hn153 hn154 Y10 Y12 Y14 hn160) rfl 0 (by decide) (by decide) (by rw [hml]; rfl) [(.ref b6_156), (.int i1)] [] (lenOf pd_13 rfl) rfl rfl (Nat.le_of_eq rfl) (b at_65) ?_
        rintro T161 _ L161 X161 ⟨rfl, M161, eh161⟩
        have N161 := Fr.app N156 M161
        show Go p e below _ (T161.setTop (mkF m 68 #[.val (.int i0), .val (.int i1), .val (.int i2), .val (.int i3), .val (.int i4), .val (.int i5), .val (.int cv_1), .val (.int cv_2), .val (.int cv_3), .val (.int cv_4), .val (.int (4 : Int32)), .val (.ref b6_156), .unset, .unset, .unset] [(.int (1 : Int32))]))
        exact tail4 _ _ _ _ _ _ _ X161 eh161 O156 N161 (by decide) (by decide) (Or.inl ⟨rfl, hc157⟩)
    · have he162 := own_N1 cv_1 r1_0 r1_1
      have hn163 : ¬ ((own_c cv_1) < (0 : Int32)) := by
        rw [he162]
        exact r1_0
      have hn164 : ¬ ((65535 : Int32) < (own_c cv_1)) := by
        rw [he162]
        exact r1_1
      have he165 := own_N1 cv_2 r2_0 r2_1
      have hn166 : ¬ ((own_c cv_2) < (0 : Int32)) := by
        rw [he165]
        exact r2_0
      have hn167 : ¬ ((65535 : Int32) < (own_c cv_2)) := by
        rw [he165]
        exact r2_1
      have he168 := own_N1 cv_3 r3_0 r3_1
      have hn169 : ¬ ((own_c cv_3) < (0 : Int32)) := by
        rw [he168]
        exact r3_0
      have hn170 : ¬ ((65535 : Int32) < (own_c cv_3)) := by
        rw [he168]
        exact r3_1
      have he171 := own_N1 cv_4 r4_0 r4_1
      have hn172 : ¬ ((own_c cv_4) < (0 : Int32)) := by
        rw [he171]
        exact r4_0
      have hn173 : ¬ ((65535 : Int32) < (own_c cv_4)) := by
        rw [he171]
        exact r4_1
      have hn174 : ¬ ((255 : Int32) < (own_mx (own_mx (own_mx (own_c cv_1) (own_c cv_2)) (own_c cv_3)) (own_c cv_4))) := by
        rw [he162, he165, he168, he171]
        exact hc142
      have hp175 : ¬ ((255 : Int32) < cv_1) := by
        have j1 := own_k32 (255 : Int32) (255) (by decide)
        have j2 := own_c32 (cv_1)
        have j3 := own_k32 (0 : Int32) (0) (by decide)
        have j4 := own_nlt32 r1_0
        have j5 := own_k32 (65535 : Int32) (65535) (by decide)
        have j6 := own_nlt32 r1_1
        have j7 : (0 : Int) ≤ (cv_1).toInt ∧ (cv_1).toInt ≤ 65535 := by constructor <;> omega
        have j8 := own_nlt32 r1_0
        have j9 := own_nlt32 r1_1
        have j10 := own_c32 (cv_2)
        have j11 := own_nlt32 r2_0
        have j12 := own_nlt32 r2_1
        have j13 : (0 : Int) ≤ (cv_2).toInt ∧ (cv_2).toInt ≤ 65535 := by constructor <;> omega
        have j14 := own_mxB cv_1 cv_2
        have j15 : (0 : Int) ≤ ((own_mx cv_1 cv_2)).toInt ∧ ((own_mx cv_1 cv_2)).toInt ≤ 65535 := by constructor <;> omega
        have j16 := own_c32 (cv_3)
        have j17 := own_nlt32 r3_0
        have j18 := own_nlt32 r3_1
        have j19 : (0 : Int) ≤ (cv_3).toInt ∧ (cv_3).toInt ≤ 65535 := by constructor <;> omega
        have j20 := own_mxB (own_mx cv_1 cv_2) cv_3
        have j21 : (0 : Int) ≤ ((own_mx (own_mx cv_1 cv_2) cv_3)).toInt ∧ ((own_mx (own_mx cv_1 cv_2) cv_3)).toInt ≤ 65535 := by constructor <;> omega
        have j22 := own_c32 (cv_4)
        have j23 := own_nlt32 r4_0
        have j24 := own_nlt32 r4_1
        have j25 : (0 : Int) ≤ (cv_4).toInt ∧ (cv_4).toInt ≤ 65535 := by constructor <;> omega
        have j26 := own_mxB (own_mx (own_mx cv_1 cv_2) cv_3) cv_4
        have j27 : (0 : Int) ≤ ((own_mx (own_mx (own_mx cv_1 cv_2) cv_3) cv_4)).toInt ∧ ((own_mx (own_mx (own_mx cv_1 cv_2) cv_3) cv_4)).toInt ≤ 65535 := by constructor <;> omega
        have j28 := own_nlt32 hc142
        have j29 : (0 : Int) ≤ ((own_mx (own_mx (own_mx cv_1 cv_2) cv_3) cv_4)).toInt ∧ ((own_mx (own_mx (own_mx cv_1 cv_2) cv_3) cv_4)).toInt ≤ 255 := by constructor <;> omega
        have j30 := own_nlt32 hc142
        have j31 := own_nlt32 r2_0
        have j32 := own_nlt32 r2_1
        have j33 := own_nlt32 r3_0
        have j34 := own_nlt32 r3_1
        have j35 := own_nlt32 r4_0
        have j36 := own_nlt32 r4_1
        rw [Int32.lt_iff_toInt_lt]
        omega
      have hn176 : ¬ ((255 : Int32) < (own_c cv_1)) := by
        rw [he162]
        exact hp175
      have hp177 : ¬ ((255 : Int32) < cv_2) := by
        have j1 := own_k32 (255 : Int32) (255) (by decide)
        have j2 := own_c32 (cv_2)
        have j3 := own_k32 (0 : Int32) (0) (by decide)
        have j4 := own_nlt32 r2_0
        have j5 := own_k32 (65535 : Int32) (65535) (by decide)
        have j6 := own_nlt32 r2_1
        have j7 : (0 : Int) ≤ (cv_2).toInt ∧ (cv_2).toInt ≤ 65535 := by constructor <;> omega
        have j8 := own_nlt32 r2_0
        have j9 := own_nlt32 r2_1
        have j10 := own_c32 (cv_1)
        have j11 := own_nlt32 r1_0
        have j12 := own_nlt32 r1_1
        have j13 : (0 : Int) ≤ (cv_1).toInt ∧ (cv_1).toInt ≤ 65535 := by constructor <;> omega
        have j14 := own_mxB cv_1 cv_2
        have j15 : (0 : Int) ≤ ((own_mx cv_1 cv_2)).toInt ∧ ((own_mx cv_1 cv_2)).toInt ≤ 65535 := by constructor <;> omega
        have j16 := own_c32 (cv_3)
        have j17 := own_nlt32 r3_0
        have j18 := own_nlt32 r3_1
        have j19 : (0 : Int) ≤ (cv_3).toInt ∧ (cv_3).toInt ≤ 65535 := by constructor <;> omega
        have j20 := own_mxB (own_mx cv_1 cv_2) cv_3
        have j21 : (0 : Int) ≤ ((own_mx (own_mx cv_1 cv_2) cv_3)).toInt ∧ ((own_mx (own_mx cv_1 cv_2) cv_3)).toInt ≤ 65535 := by constructor <;> omega
        have j22 := own_c32 (cv_4)
        have j23 := own_nlt32 r4_0
        have j24 := own_nlt32 r4_1
        have j25 : (0 : Int) ≤ (cv_4).toInt ∧ (cv_4).toInt ≤ 65535 := by constructor <;> omega
        have j26 := own_mxB (own_mx (own_mx cv_1 cv_2) cv_3) cv_4
        have j27 : (0 : Int) ≤ ((own_mx (own_mx (own_mx cv_1 cv_2) cv_3) cv_4)).toInt ∧ ((own_mx (own_mx (own_mx cv_1 cv_2) cv_3) cv_4)).toInt ≤ 65535 := by constructor <;> omega
        have j28 := own_nlt32 hc142
        have j29 : (0 : Int) ≤ ((own_mx (own_mx (own_mx cv_1 cv_2) cv_3) cv_4)).toInt ∧ ((own_mx (own_mx (own_mx cv_1 cv_2) cv_3) cv_4)).toInt ≤ 255 := by constructor <;> omega
        have j30 := own_nlt32 hc142
        have j31 := own_nlt32 r1_0
        have j32 := own_nlt32 r1_1
        have j33 := own_nlt32 r3_0
        have j34 := own_nlt32 r3_1
        have j35 := own_nlt32 r4_0
        have j36 := own_nlt32 r4_1
        rw [Int32.lt_iff_toInt_lt]
        omega
      have hn178 : ¬ ((255 : Int32) < (own_c cv_2)) := by
        rw [he165]
        exact hp177
      have hp179 : ¬ ((255 : Int32) < cv_3) := by
        have j1 := own_k32 (255 : Int32) (255) (by decide)
        have j2 := own_c32 (cv_3)
        have j3 := own_k32 (0 : Int32) (0) (by decide)
        have j4 := own_nlt32 r3_0
        have j5 := own_k32 (65535 : Int32) (65535) (by decide)
        have j6 := own_nlt32 r3_1
        have j7 : (0 : Int) ≤ (cv_3).toInt ∧ (cv_3).toInt ≤ 65535 := by constructor <;> omega
        have j8 := own_nlt32 r3_0
        have j9 := own_nlt32 r3_1
        have j10 := own_c32 (cv_1)
        have j11 := own_nlt32 r1_0
        have j12 := own_nlt32 r1_1
        have j13 : (0 : Int) ≤ (cv_1).toInt ∧ (cv_1).toInt ≤ 65535 := by constructor <;> omega
        have j14 := own_c32 (cv_2)
        have j15 := own_nlt32 r2_0
        have j16 := own_nlt32 r2_1
        have j17 : (0 : Int) ≤ (cv_2).toInt ∧ (cv_2).toInt ≤ 65535 := by constructor <;> omega
        have j18 := own_mxB cv_1 cv_2
        have j19 : (0 : Int) ≤ ((own_mx cv_1 cv_2)).toInt ∧ ((own_mx cv_1 cv_2)).toInt ≤ 65535 := by constructor <;> omega
        have j20 := own_mxB (own_mx cv_1 cv_2) cv_3
        have j21 : (0 : Int) ≤ ((own_mx (own_mx cv_1 cv_2) cv_3)).toInt ∧ ((own_mx (own_mx cv_1 cv_2) cv_3)).toInt ≤ 65535 := by constructor <;> omega
        have j22 := own_c32 (cv_4)
        have j23 := own_nlt32 r4_0
        have j24 := own_nlt32 r4_1
        have j25 : (0 : Int) ≤ (cv_4).toInt ∧ (cv_4).toInt ≤ 65535 := by constructor <;> omega
        have j26 := own_mxB (own_mx (own_mx cv_1 cv_2) cv_3) cv_4
        have j27 : (0 : Int) ≤ ((own_mx (own_mx (own_mx cv_1 cv_2) cv_3) cv_4)).toInt ∧ ((own_mx (own_mx (own_mx cv_1 cv_2) cv_3) cv_4)).toInt ≤ 65535 := by constructor <;> omega
        have j28 := own_nlt32 hc142
        have j29 : (0 : Int) ≤ ((own_mx (own_mx (own_mx cv_1 cv_2) cv_3) cv_4)).toInt ∧ ((own_mx (own_mx (own_mx cv_1 cv_2) cv_3) cv_4)).toInt ≤ 255 := by constructor <;> omega
        have j30 := own_nlt32 hc142
        have j31 := own_nlt32 r1_0
        have j32 := own_nlt32 r1_1
        have j33 := own_nlt32 r2_0
        have j34 := own_nlt32 r2_1
        have j35 := own_nlt32 r4_0
        have j36 := own_nlt32 r4_1
        rw [Int32.lt_iff_toInt_lt]
        omega
      have hn180 : ¬ ((255 : Int32) < (own_c cv_3)) := by
        rw [he168]
        exact hp179
      have hp181 : ¬ ((255 : Int32) < cv_4) := by
        have j1 := own_k32 (255 : Int32) (255) (by decide)
        have j2 := own_c32 (cv_4)
        have j3 := own_k32 (0 : Int32) (0) (by decide)
        have j4 := own_nlt32 r4_0
        have j5 := own_k32 (65535 : Int32) (65535) (by decide)
        have j6 := own_nlt32 r4_1
        have j7 : (0 : Int) ≤ (cv_4).toInt ∧ (cv_4).toInt ≤ 65535 := by constructor <;> omega
        have j8 := own_nlt32 r4_0
        have j9 := own_nlt32 r4_1
        have j10 := own_c32 (cv_1)
        have j11 := own_nlt32 r1_0
        have j12 := own_nlt32 r1_1
        have j13 : (0 : Int) ≤ (cv_1).toInt ∧ (cv_1).toInt ≤ 65535 := by constructor <;> omega
        have j14 := own_c32 (cv_2)
        have j15 := own_nlt32 r2_0
        have j16 := own_nlt32 r2_1
        have j17 : (0 : Int) ≤ (cv_2).toInt ∧ (cv_2).toInt ≤ 65535 := by constructor <;> omega
        have j18 := own_mxB cv_1 cv_2
        have j19 : (0 : Int) ≤ ((own_mx cv_1 cv_2)).toInt ∧ ((own_mx cv_1 cv_2)).toInt ≤ 65535 := by constructor <;> omega
        have j20 := own_c32 (cv_3)
        have j21 := own_nlt32 r3_0
        have j22 := own_nlt32 r3_1
        have j23 : (0 : Int) ≤ (cv_3).toInt ∧ (cv_3).toInt ≤ 65535 := by constructor <;> omega
        have j24 := own_mxB (own_mx cv_1 cv_2) cv_3
        have j25 : (0 : Int) ≤ ((own_mx (own_mx cv_1 cv_2) cv_3)).toInt ∧ ((own_mx (own_mx cv_1 cv_2) cv_3)).toInt ≤ 65535 := by constructor <;> omega
        have j26 := own_mxB (own_mx (own_mx cv_1 cv_2) cv_3) cv_4
        have j27 : (0 : Int) ≤ ((own_mx (own_mx (own_mx cv_1 cv_2) cv_3) cv_4)).toInt ∧ ((own_mx (own_mx (own_mx cv_1 cv_2) cv_3) cv_4)).toInt ≤ 65535 := by constructor <;> omega
        have j28 := own_nlt32 hc142
        have j29 : (0 : Int) ≤ ((own_mx (own_mx (own_mx cv_1 cv_2) cv_3) cv_4)).toInt ∧ ((own_mx (own_mx (own_mx cv_1 cv_2) cv_3) cv_4)).toInt ≤ 255 := by constructor <;> omega
        have j30 := own_nlt32 hc142
        have j31 := own_nlt32 r1_0
        have j32 := own_nlt32 r1_1
        have j33 := own_nlt32 r2_0
        have j34 := own_nlt32 r2_1
        have j35 := own_nlt32 r3_0
        have j36 := own_nlt32 r3_1
        rw [Int32.lt_iff_toInt_lt]
        omega
      have hn182 : ¬ ((255 : Int32) < (own_c cv_4)) := by
        rw [he171]
        exact hp181
      refine own_cS X4 hx hZ hown (w8 hw) (w9 hw) (w2 hw) (w10 hw) (rm2_9 hw cv_1 cv_2 cv_3 cv_4 w1i O0 Y3 Y4 hn163 hn164 hn166 hn167 hn169 hn170 hn172 hn173 hn174 hn176 hn178 hn180 hn182) eh4 0 (by decide) (by decide) (by rw [hml]; rfl) [(.int (4 : Int32)), (.int cv_1), (.int cv_2), (.int cv_3), (.int cv_4)] [] (lenOf pd_11 rfl) rfl rfl (Nat.le_of_eq rfl) (b at_57) ?_
      rintro T183 _ L183 X183 ⟨b6_183, b1_3_2_7_183, k1_3_2_7_183, rfl, M183, K183c, r183_0, r183_1, r183_2, r183_3, r183_4, r183_5, r183_6⟩
      have N183 := Fr.app N4 M183
      have g_b6_183 : n0 ≤ b6_183 := Nat.le_trans (own_n0 O0) r183_0
      have g_b1_3_2_7_183 : n0 ≤ b1_3_2_7_183 := Nat.le_trans (own_n0 O0) r183_1
      have O183 : Old Z n0 T183.heap := O0.keep K183c all0
      refine g_astore X183 hx (b at_60) rfl (l' := #[.val (.int i0), .val (.int i1), .val (.int i2), .val (.int i3), .val (.int i4), .val (.int i5), .val (.int cv_1), .val (.int cv_2), .val (.int cv_3), .val (.int cv_4), .val (.int (4 : Int32)), .val (.ref b6_183), .unset, .unset, .unset]) rfl ?_
      refine g_aload X183 hx (b at_62) rfl rfl ?_
      refine g_iloadN X183 hx (b at_64) rfl ?_
      by_cases hc184 : i1 < (4 : Int32)
      · refine own_cS X183 hx hZ hown (w33 hw) (w34 hw) (w35 hw) (w36 hw) (rm6_16 hw b6_183 i1 b1_3_2_7_183 k1_3_2_7_183 cv_1 cv_2 cv_3 cv_4 w1i O183 r183_3 r183_4 r183_6 Y3 Y4 r183_5 hc184) rfl 0 (by decide) (by decide) (by rw [hml]; rfl) [(.ref b6_183), (.int i1)] [] (lenOf pd_13 rfl) rfl rfl (Nat.le_of_eq rfl) (b at_65) ?_
        rintro T185 _ L185 X185 ⟨rfl, M185, eh185⟩
        have N185 := Fr.app N183 M185
        show Go p e below _ (T185.setTop (mkF m 68 #[.val (.int i0), .val (.int i1), .val (.int i2), .val (.int i3), .val (.int i4), .val (.int i5), .val (.int cv_1), .val (.int cv_2), .val (.int cv_3), .val (.int cv_4), .val (.int (4 : Int32)), .val (.ref b6_183), .unset, .unset, .unset] [(.int (0 : Int32))]))
        have hp186 : (own_hi cv_1) = (0 : Int32) := by
          have j1 := own_c32 (cv_1)
          have j2 := own_k32 (0 : Int32) (0) (by decide)
          have j3 := own_nlt32 r1_0
          have j4 := own_k32 (65535 : Int32) (65535) (by decide)
          have j5 := own_nlt32 r1_1
          have j6 : (0 : Int) ≤ (cv_1).toInt ∧ (cv_1).toInt ≤ 65535 := by constructor <;> omega
          have j7 := own_hl cv_1
          have j8 := own_hiB cv_1
          have j9 := own_nlt32 r1_0
          have j10 := own_nlt32 r1_1
          have j11 := own_k32 (255 : Int32) (255) (by decide)
          have j12 := own_c32 (cv_2)
          have j13 := own_nlt32 r2_0
          have j14 := own_nlt32 r2_1
          have j15 : (0 : Int) ≤ (cv_2).toInt ∧ (cv_2).toInt ≤ 65535 := by constructor <;> omega
          have j16 := own_mxB cv_1 cv_2
          have j17 : (0 : Int) ≤ ((own_mx cv_1 cv_2)).toInt ∧ ((own_mx cv_1 cv_2)).toInt ≤ 65535 := by constructor <;> omega
          have j18 := own_c32 (cv_3)
          have j19 := own_nlt32 r3_0
          have j20 := own_nlt32 r3_1
          have j21 : (0 : Int) ≤ (cv_3).toInt ∧ (cv_3).toInt ≤ 65535 := by constructor <;> omega
          have j22 := own_mxB (own_mx cv_1 cv_2) cv_3
          have j23 : (0 : Int) ≤ ((own_mx (own_mx cv_1 cv_2) cv_3)).toInt ∧ ((own_mx (own_mx cv_1 cv_2) cv_3)).toInt ≤ 65535 := by constructor <;> omega
          have j24 := own_c32 (cv_4)
          have j25 := own_nlt32 r4_0
          have j26 := own_nlt32 r4_1
          have j27 : (0 : Int) ≤ (cv_4).toInt ∧ (cv_4).toInt ≤ 65535 := by constructor <;> omega
          have j28 := own_mxB (own_mx (own_mx cv_1 cv_2) cv_3) cv_4
          have j29 : (0 : Int) ≤ ((own_mx (own_mx (own_mx cv_1 cv_2) cv_3) cv_4)).toInt ∧ ((own_mx (own_mx (own_mx cv_1 cv_2) cv_3) cv_4)).toInt ≤ 65535 := by constructor <;> omega
          have j30 := own_nlt32 hc142
          have j31 : (0 : Int) ≤ ((own_mx (own_mx (own_mx cv_1 cv_2) cv_3) cv_4)).toInt ∧ ((own_mx (own_mx (own_mx cv_1 cv_2) cv_3) cv_4)).toInt ≤ 255 := by constructor <;> omega
          have j32 := own_nlt32 hc142
          have j33 := own_nlt32 r2_0
          have j34 := own_nlt32 r2_1
          have j35 := own_nlt32 r3_0
          have j36 := own_nlt32 r3_1
          have j37 := own_nlt32 r4_0
          have j38 := own_nlt32 r4_1
          have j39 := own_hiI cv_1
          rw [← Int32.toInt_inj]
          omega
        have hp187 : (own_hi cv_2) = (0 : Int32) := by
          have j1 := own_c32 (cv_2)
          have j2 := own_k32 (0 : Int32) (0) (by decide)
          have j3 := own_nlt32 r2_0
          have j4 := own_k32 (65535 : Int32) (65535) (by decide)
          have j5 := own_nlt32 r2_1
          have j6 : (0 : Int) ≤ (cv_2).toInt ∧ (cv_2).toInt ≤ 65535 := by constructor <;> omega
          have j7 := own_hl cv_2
          have j8 := own_hiB cv_2
          have j9 := own_nlt32 r2_0
          have j10 := own_nlt32 r2_1
          have j11 := own_k32 (255 : Int32) (255) (by decide)
          have j12 := own_c32 (cv_1)
          have j13 := own_nlt32 r1_0
          have j14 := own_nlt32 r1_1
          have j15 : (0 : Int) ≤ (cv_1).toInt ∧ (cv_1).toInt ≤ 65535 := by constructor <;> omega
          have j16 := own_mxB cv_1 cv_2
          have j17 : (0 : Int) ≤ ((own_mx cv_1 cv_2)).toInt ∧ ((own_mx cv_1 cv_2)).toInt ≤ 65535 := by constructor <;> omega
          have j18 := own_c32 (cv_3)
          have j19 := own_nlt32 r3_0
          have j20 := own_nlt32 r3_1
          have j21 : (0 : Int) ≤ (cv_3).toInt ∧ (cv_3).toInt ≤ 65535 := by constructor <;> omega
          have j22 := own_mxB (own_mx cv_1 cv_2) cv_3
          have j23 : (0 : Int) ≤ ((own_mx (own_mx cv_1 cv_2) cv_3)).toInt ∧ ((own_mx (own_mx cv_1 cv_2) cv_3)).toInt ≤ 65535 := by constructor <;> omega
          have j24 := own_c32 (cv_4)
          have j25 := own_nlt32 r4_0
          have j26 := own_nlt32 r4_1
          have j27 : (0 : Int) ≤ (cv_4).toInt ∧ (cv_4).toInt ≤ 65535 := by constructor <;> omega
          have j28 := own_mxB (own_mx (own_mx cv_1 cv_2) cv_3) cv_4
          have j29 : (0 : Int) ≤ ((own_mx (own_mx (own_mx cv_1 cv_2) cv_3) cv_4)).toInt ∧ ((own_mx (own_mx (own_mx cv_1 cv_2) cv_3) cv_4)).toInt ≤ 65535 := by constructor <;> omega
          have j30 := own_nlt32 hc142
          have j31 : (0 : Int) ≤ ((own_mx (own_mx (own_mx cv_1 cv_2) cv_3) cv_4)).toInt ∧ ((own_mx (own_mx (own_mx cv_1 cv_2) cv_3) cv_4)).toInt ≤ 255 := by constructor <;> omega
          have j32 := own_nlt32 hc142
          have j33 := own_nlt32 r1_0
          have j34 := own_nlt32 r1_1
          have j35 := own_nlt32 r3_0
          have j36 := own_nlt32 r3_1
          have j37 := own_nlt32 r4_0
          have j38 := own_nlt32 r4_1
          have j39 := own_hiI cv_2
          rw [← Int32.toInt_inj]
          omega
        have hp188 : (own_hi cv_3) = (0 : Int32) := by
          have j1 := own_c32 (cv_3)
          have j2 := own_k32 (0 : Int32) (0) (by decide)
          have j3 := own_nlt32 r3_0
          have j4 := own_k32 (65535 : Int32) (65535) (by decide)
          have j5 := own_nlt32 r3_1
          have j6 : (0 : Int) ≤ (cv_3).toInt ∧ (cv_3).toInt ≤ 65535 := by constructor <;> omega
          have j7 := own_hl cv_3
          have j8 := own_hiB cv_3
          have j9 := own_nlt32 r3_0
          have j10 := own_nlt32 r3_1
          have j11 := own_k32 (255 : Int32) (255) (by decide)
          have j12 := own_c32 (cv_1)
          have j13 := own_nlt32 r1_0
          have j14 := own_nlt32 r1_1
          have j15 : (0 : Int) ≤ (cv_1).toInt ∧ (cv_1).toInt ≤ 65535 := by constructor <;> omega
          have j16 := own_c32 (cv_2)
          have j17 := own_nlt32 r2_0
          have j18 := own_nlt32 r2_1
          have j19 : (0 : Int) ≤ (cv_2).toInt ∧ (cv_2).toInt ≤ 65535 := by constructor <;> omega
          have j20 := own_mxB cv_1 cv_2
          have j21 : (0 : Int) ≤ ((own_mx cv_1 cv_2)).toInt ∧ ((own_mx cv_1 cv_2)).toInt ≤ 65535 := by constructor <;> omega
          have j22 := own_mxB (own_mx cv_1 cv_2) cv_3
          have j23 : (0 : Int) ≤ ((own_mx (own_mx cv_1 cv_2) cv_3)).toInt ∧ ((own_mx (own_mx cv_1 cv_2) cv_3)).toInt ≤ 65535 := by constructor <;> omega
          have j24 := own_c32 (cv_4)
          have j25 := own_nlt32 r4_0
          have j26 := own_nlt32 r4_1
          have j27 : (0 : Int) ≤ (cv_4).toInt ∧ (cv_4).toInt ≤ 65535 := by constructor <;> omega
          have j28 := own_mxB (own_mx (own_mx cv_1 cv_2) cv_3) cv_4
          have j29 : (0 : Int) ≤ ((own_mx (own_mx (own_mx cv_1 cv_2) cv_3) cv_4)).toInt ∧ ((own_mx (own_mx (own_mx cv_1 cv_2) cv_3) cv_4)).toInt ≤ 65535 := by constructor <;> omega
          have j30 := own_nlt32 hc142
          have j31 : (0 : Int) ≤ ((own_mx (own_mx (own_mx cv_1 cv_2) cv_3) cv_4)).toInt ∧ ((own_mx (own_mx (own_mx cv_1 cv_2) cv_3) cv_4)).toInt ≤ 255 := by constructor <;> omega
          have j32 := own_nlt32 hc142
          have j33 := own_nlt32 r1_0
          have j34 := own_nlt32 r1_1
          have j35 := own_nlt32 r2_0
          have j36 := own_nlt32 r2_1
          have j37 := own_nlt32 r4_0
          have j38 := own_nlt32 r4_1
          have j39 := own_hiI cv_3
          rw [← Int32.toInt_inj]
          omega
        exact tail4 _ _ _ _ _ _ _ X185 eh185 O183 N185 (by decide) (by decide) (Or.inr ⟨rfl, (by rw [(own_pr0a (b := cv_2) hp186), (own_pr0a (b := cv_3) hp187), (own_pr0a (b := cv_4) hp188), own_s0, own_s0, own_s0]; exact hc184)⟩)
      · refine own_cS X183 hx hZ hown (w33 hw) (w34 hw) (w35 hw) (w36 hw) (rm6_17 hw b6_183 i1 b1_3_2_7_183 k1_3_2_7_183 cv_1 cv_2 cv_3 cv_4 w1i O183 r183_3 r183_4 r183_6 Y3 Y4 r183_5 hc184) rfl 0 (by decide) (by decide) (by rw [hml]; rfl) [(.ref b6_183), (.int i1)] [] (lenOf pd_13 rfl) rfl rfl (Nat.le_of_eq rfl) (b at_65) ?_
        rintro T189 _ L189 X189 ⟨rfl, M189, eh189⟩
        have N189 := Fr.app N183 M189
        show Go p e below _ (T189.setTop (mkF m 68 #[.val (.int i0), .val (.int i1), .val (.int i2), .val (.int i3), .val (.int i4), .val (.int i5), .val (.int cv_1), .val (.int cv_2), .val (.int cv_3), .val (.int cv_4), .val (.int (4 : Int32)), .val (.ref b6_183), .unset, .unset, .unset] [(.int (1 : Int32))]))
        have hp190 : (own_hi cv_1) = (0 : Int32) := by
          have j1 := own_c32 (cv_1)
          have j2 := own_k32 (0 : Int32) (0) (by decide)
          have j3 := own_nlt32 r1_0
          have j4 := own_k32 (65535 : Int32) (65535) (by decide)
          have j5 := own_nlt32 r1_1
          have j6 : (0 : Int) ≤ (cv_1).toInt ∧ (cv_1).toInt ≤ 65535 := by constructor <;> omega
          have j7 := own_hl cv_1
          have j8 := own_hiB cv_1
          have j9 := own_nlt32 r1_0
          have j10 := own_nlt32 r1_1
          have j11 := own_k32 (255 : Int32) (255) (by decide)
          have j12 := own_c32 (cv_2)
          have j13 := own_nlt32 r2_0
          have j14 := own_nlt32 r2_1
          have j15 : (0 : Int) ≤ (cv_2).toInt ∧ (cv_2).toInt ≤ 65535 := by constructor <;> omega
          have j16 := own_mxB cv_1 cv_2
          have j17 : (0 : Int) ≤ ((own_mx cv_1 cv_2)).toInt ∧ ((own_mx cv_1 cv_2)).toInt ≤ 65535 := by constructor <;> omega
          have j18 := own_c32 (cv_3)
          have j19 := own_nlt32 r3_0
          have j20 := own_nlt32 r3_1
          have j21 : (0 : Int) ≤ (cv_3).toInt ∧ (cv_3).toInt ≤ 65535 := by constructor <;> omega
          have j22 := own_mxB (own_mx cv_1 cv_2) cv_3
          have j23 : (0 : Int) ≤ ((own_mx (own_mx cv_1 cv_2) cv_3)).toInt ∧ ((own_mx (own_mx cv_1 cv_2) cv_3)).toInt ≤ 65535 := by constructor <;> omega
          have j24 := own_c32 (cv_4)
          have j25 := own_nlt32 r4_0
          have j26 := own_nlt32 r4_1
          have j27 : (0 : Int) ≤ (cv_4).toInt ∧ (cv_4).toInt ≤ 65535 := by constructor <;> omega
          have j28 := own_mxB (own_mx (own_mx cv_1 cv_2) cv_3) cv_4
          have j29 : (0 : Int) ≤ ((own_mx (own_mx (own_mx cv_1 cv_2) cv_3) cv_4)).toInt ∧ ((own_mx (own_mx (own_mx cv_1 cv_2) cv_3) cv_4)).toInt ≤ 65535 := by constructor <;> omega
          have j30 := own_nlt32 hc142
          have j31 : (0 : Int) ≤ ((own_mx (own_mx (own_mx cv_1 cv_2) cv_3) cv_4)).toInt ∧ ((own_mx (own_mx (own_mx cv_1 cv_2) cv_3) cv_4)).toInt ≤ 255 := by constructor <;> omega
          have j32 := own_nlt32 hc142
          have j33 := own_nlt32 r2_0
          have j34 := own_nlt32 r2_1
          have j35 := own_nlt32 r3_0
          have j36 := own_nlt32 r3_1
          have j37 := own_nlt32 r4_0
          have j38 := own_nlt32 r4_1
          have j39 := own_hiI cv_1
          rw [← Int32.toInt_inj]
          omega
        have hp191 : (own_hi cv_2) = (0 : Int32) := by
          have j1 := own_c32 (cv_2)
          have j2 := own_k32 (0 : Int32) (0) (by decide)
          have j3 := own_nlt32 r2_0
          have j4 := own_k32 (65535 : Int32) (65535) (by decide)
          have j5 := own_nlt32 r2_1
          have j6 : (0 : Int) ≤ (cv_2).toInt ∧ (cv_2).toInt ≤ 65535 := by constructor <;> omega
          have j7 := own_hl cv_2
          have j8 := own_hiB cv_2
          have j9 := own_nlt32 r2_0
          have j10 := own_nlt32 r2_1
          have j11 := own_k32 (255 : Int32) (255) (by decide)
          have j12 := own_c32 (cv_1)
          have j13 := own_nlt32 r1_0
          have j14 := own_nlt32 r1_1
          have j15 : (0 : Int) ≤ (cv_1).toInt ∧ (cv_1).toInt ≤ 65535 := by constructor <;> omega
          have j16 := own_mxB cv_1 cv_2
          have j17 : (0 : Int) ≤ ((own_mx cv_1 cv_2)).toInt ∧ ((own_mx cv_1 cv_2)).toInt ≤ 65535 := by constructor <;> omega
          have j18 := own_c32 (cv_3)
          have j19 := own_nlt32 r3_0
          have j20 := own_nlt32 r3_1
          have j21 : (0 : Int) ≤ (cv_3).toInt ∧ (cv_3).toInt ≤ 65535 := by constructor <;> omega
          have j22 := own_mxB (own_mx cv_1 cv_2) cv_3
          have j23 : (0 : Int) ≤ ((own_mx (own_mx cv_1 cv_2) cv_3)).toInt ∧ ((own_mx (own_mx cv_1 cv_2) cv_3)).toInt ≤ 65535 := by constructor <;> omega
          have j24 := own_c32 (cv_4)
          have j25 := own_nlt32 r4_0
          have j26 := own_nlt32 r4_1
          have j27 : (0 : Int) ≤ (cv_4).toInt ∧ (cv_4).toInt ≤ 65535 := by constructor <;> omega
          have j28 := own_mxB (own_mx (own_mx cv_1 cv_2) cv_3) cv_4
          have j29 : (0 : Int) ≤ ((own_mx (own_mx (own_mx cv_1 cv_2) cv_3) cv_4)).toInt ∧ ((own_mx (own_mx (own_mx cv_1 cv_2) cv_3) cv_4)).toInt ≤ 65535 := by constructor <;> omega
          have j30 := own_nlt32 hc142
          have j31 : (0 : Int) ≤ ((own_mx (own_mx (own_mx cv_1 cv_2) cv_3) cv_4)).toInt ∧ ((own_mx (own_mx (own_mx cv_1 cv_2) cv_3) cv_4)).toInt ≤ 255 := by constructor <;> omega
          have j32 := own_nlt32 hc142
          have j33 := own_nlt32 r1_0
          have j34 := own_nlt32 r1_1
          have j35 := own_nlt32 r3_0
          have j36 := own_nlt32 r3_1
          have j37 := own_nlt32 r4_0
          have j38 := own_nlt32 r4_1
          have j39 := own_hiI cv_2
          rw [← Int32.toInt_inj]
          omega
        have hp192 : (own_hi cv_3) = (0 : Int32) := by
          have j1 := own_c32 (cv_3)
          have j2 := own_k32 (0 : Int32) (0) (by decide)
          have j3 := own_nlt32 r3_0
          have j4 := own_k32 (65535 : Int32) (65535) (by decide)
          have j5 := own_nlt32 r3_1
          have j6 : (0 : Int) ≤ (cv_3).toInt ∧ (cv_3).toInt ≤ 65535 := by constructor <;> omega
          have j7 := own_hl cv_3
          have j8 := own_hiB cv_3
          have j9 := own_nlt32 r3_0
          have j10 := own_nlt32 r3_1
          have j11 := own_k32 (255 : Int32) (255) (by decide)
          have j12 := own_c32 (cv_1)
          have j13 := own_nlt32 r1_0
          have j14 := own_nlt32 r1_1
          have j15 : (0 : Int) ≤ (cv_1).toInt ∧ (cv_1).toInt ≤ 65535 := by constructor <;> omega
          have j16 := own_c32 (cv_2)
          have j17 := own_nlt32 r2_0
          have j18 := own_nlt32 r2_1
          have j19 : (0 : Int) ≤ (cv_2).toInt ∧ (cv_2).toInt ≤ 65535 := by constructor <;> omega
          have j20 := own_mxB cv_1 cv_2
          have j21 : (0 : Int) ≤ ((own_mx cv_1 cv_2)).toInt ∧ ((own_mx cv_1 cv_2)).toInt ≤ 65535 := by constructor <;> omega
          have j22 := own_mxB (own_mx cv_1 cv_2) cv_3
          have j23 : (0 : Int) ≤ ((own_mx (own_mx cv_1 cv_2) cv_3)).toInt ∧ ((own_mx (own_mx cv_1 cv_2) cv_3)).toInt ≤ 65535 := by constructor <;> omega
          have j24 := own_c32 (cv_4)
          have j25 := own_nlt32 r4_0
          have j26 := own_nlt32 r4_1
          have j27 : (0 : Int) ≤ (cv_4).toInt ∧ (cv_4).toInt ≤ 65535 := by constructor <;> omega
          have j28 := own_mxB (own_mx (own_mx cv_1 cv_2) cv_3) cv_4
          have j29 : (0 : Int) ≤ ((own_mx (own_mx (own_mx cv_1 cv_2) cv_3) cv_4)).toInt ∧ ((own_mx (own_mx (own_mx cv_1 cv_2) cv_3) cv_4)).toInt ≤ 65535 := by constructor <;> omega
          have j30 := own_nlt32 hc142
          have j31 : (0 : Int) ≤ ((own_mx (own_mx (own_mx cv_1 cv_2) cv_3) cv_4)).toInt ∧ ((own_mx (own_mx (own_mx cv_1 cv_2) cv_3) cv_4)).toInt ≤ 255 := by constructor <;> omega
          have j32 := own_nlt32 hc142
          have j33 := own_nlt32 r1_0
          have j34 := own_nlt32 r1_1
          have j35 := own_nlt32 r2_0
          have j36 := own_nlt32 r2_1
          have j37 := own_nlt32 r4_0
          have j38 := own_nlt32 r4_1
          have j39 := own_hiI cv_3
          rw [← Int32.toInt_inj]
          omega
        exact tail4 _ _ _ _ _ _ _ X189 eh189 O183 N189 (by decide) (by decide) (Or.inl ⟨rfl, (by rw [(own_pr0a (b := cv_2) hp190), (own_pr0a (b := cv_3) hp191), (own_pr0a (b := cv_4) hp192), own_s0, own_s0, own_s0]; exact hc184)⟩)
  · rw [hq]
    show Go p e below _ (T4.setTop (mkF m 33 #[.val (.int i0), .val (.int i1), .val (.int i2), .val (.int i3), .val (.int i4), .val (.int i5), .val (.int cv_1), .val (.int cv_2), .val (.int cv_3), .val (.int cv_4), .unset, .unset, .unset, .unset, .unset] [(.int (5 : Int32))]))
    refine g_istore X4 hx (b at_33) (l' := #[.val (.int i0), .val (.int i1), .val (.int i2), .val (.int i3), .val (.int i4), .val (.int i5), .val (.int cv_1), .val (.int cv_2), .val (.int cv_3), .val (.int cv_4), .val (.int (5 : Int32)), .unset, .unset, .unset, .unset]) rfl ?_
    refine g_iload X4 hx (b at_35) rfl ?_
    refine g_iconst X4 hx (5) (b at_37) rfl ?_
    refine g_icmpNo X4 hx (b at_38) (XT.ii_ne_f (by decide : (5 : Int32) = (5 : Int32))) ?_
    refine g_aconstNull X4 hx (b at_41) ?_
    refine g_astore X4 hx (b at_42) rfl (l' := #[.val (.int i0), .val (.int i1), .val (.int i2), .val (.int i3), .val (.int i4), .val (.int i5), .val (.int cv_1), .val (.int cv_2), .val (.int cv_3), .val (.int cv_4), .val (.int (5 : Int32)), .val .null, .unset, .unset, .unset]) rfl ?_
    refine g_goto X4 hx (pc := 44) 62 (b at_44) (by decide) ?_
    refine g_aload X4 hx (b at_62) rfl rfl ?_
    refine g_iloadN X4 hx (b at_64) rfl ?_
    refine own_cS X4 hx hZ hown (w33 hw) (w34 hw) (w35 hw) (w36 hw) (rm6_18 hw i1 O0) eh4 0 (by decide) (by decide) (by rw [hml]; rfl) [.null, (.int i1)] [] (lenOf pd_13 rfl) rfl rfl (Nat.le_of_eq rfl) (b at_65) ?_
    rintro T193 _ L193 X193 ⟨rfl, M193, eh193⟩
    have N193 := Fr.app N4 M193
    show Go p e below _ (T193.setTop (mkF m 68 #[.val (.int i0), .val (.int i1), .val (.int i2), .val (.int i3), .val (.int i4), .val (.int i5), .val (.int cv_1), .val (.int cv_2), .val (.int cv_3), .val (.int cv_4), .val (.int (5 : Int32)), .val .null, .unset, .unset, .unset] [(.int (0 : Int32))]))
    refine g_istore X193 hx (b at_68) (l' := #[.val (.int i0), .val (.int i1), .val (.int i2), .val (.int i3), .val (.int i4), .val (.int i5), .val (.int cv_1), .val (.int cv_2), .val (.int cv_3), .val (.int cv_4), .val (.int (5 : Int32)), .val .null, .val (.int (0 : Int32)), .unset, .unset]) rfl ?_
    refine g_iload X193 hx (b at_70) rfl ?_
    refine g_iconst X193 hx (5) (b at_72) rfl ?_
    refine g_icmpYes X193 hx (pc := 73) 81 (b at_73) (XT.ii_eq_t (by decide : (5 : Int32) = (5 : Int32))) (by decide) ?_
    refine g_iconst X193 hx (0) (b at_81) rfl ?_
    refine g_istore X193 hx (b at_82) (l' := #[.val (.int i0), .val (.int i1), .val (.int i2), .val (.int i3), .val (.int i4), .val (.int i5), .val (.int cv_1), .val (.int cv_2), .val (.int cv_3), .val (.int cv_4), .val (.int (5 : Int32)), .val .null, .val (.int (0 : Int32)), .val (.int (0 : Int32)), .unset]) rfl ?_
    refine g_goto X193 hx (pc := 84) 161 (b at_84) (by decide) ?_
    refine g_iload X193 hx (b at_161) rfl ?_
    refine g_iload X193 hx (b at_163) rfl ?_
    refine g_icmpNo X193 hx (b at_165) (XT.ii_ne_f (by decide : (0 : Int32) = (0 : Int32))) ?_
    refine g_iconst X193 hx (1) (b at_168) rfl ?_
    refine g_goto X193 hx (pc := 169) 173 (b at_169) (by decide) ?_
    obtain ⟨fs, hr, hrun, hended, hWd, hsame⟩ := X193.leave (v := some (.int (1 : Int32))) (fun h => by rw [Bd.returns] at h; cases h)
    refine ⟨_, _, ?_, hrun, hended, _, _, rfl, ?_, (ReturnedEndW.of_narrow ⟨_, rfl⟩ hWd (hsame.mono (by decide) (by decide)))⟩
    · exact retN X193 hx (t := .boolean) Bd.returns (by simp) (b at_173) hr
    · exact ⟨rfl, N193⟩
set_option maxRecDepth 65536 in
set_option maxHeartbeats 40000000 in
theorem comes_1 {Post : Tables → Env → Array Value → State → Outcome → State → Prop} (hpost : ∀ tb e args s v u, (limb_1_1.after args s (.returned v) u = true ∧ limb_1_2.after args s (.returned v) u = true ∧ True) → ReturnedEndW s (.returned v) u (Jvm.fieldLocs frame_1_writes args s ++ Jvm.arrayLocs frame_1_arrays args s ++ Jvm.staticLocs frame_1_statics s) 24 1152 → Post tb e args s (.returned v) u) :
    ArmFor flags0 classFile x code maxLocals ret World_1 tables_1 room_1 Calls_1 rest_1 Pre_1 Post := by
  intro l hfl _ _ p e ha hc hk s m args below hf hA hF happ hP
  obtain ⟨hcalls, hrest, hpre⟩ := hP
  obtain ⟨-, -, -, hnamed, -, -, -, hat⟩ := (Spec.applies_iff hf).mp happ
  obtain ⟨hg, hn⟩ := and_e (Cond.before_iff.mp (show (Jvm.Cond.and given_1 narrow_1).before args s = true from hpre))
  obtain ⟨hcnt, hg⟩ := and_e hg
  obtain ⟨hv0, hg⟩ := and_e hg
  obtain ⟨hv1, hg⟩ := and_e hg
  obtain ⟨hv2, hg⟩ := and_e hg
  obtain ⟨hv3, hg⟩ := and_e hg
  obtain ⟨hv4, hg⟩ := and_e hg
  have hv5 := hg
  obtain ⟨w0, w1, w2, w3, w4, w5, rfl⟩ : ∃ w0 w1 w2 w3 w4 w5 : Value, args = #[w0, w1, w2, w3, w4, w5] := by
    have hs : args.size = 6 := by simpa [Cond.value, given_1] using hcnt
    obtain ⟨L⟩ := args
    match L, hs with
    | [w0, w1, w2, w3, w4, w5], _ => exact ⟨w0, w1, w2, w3, w4, w5, rfl⟩
  have hw := fun d (hd : d ∈ tables_1) => atoms_spec (ws := Jvm.Cond.code x code maxLocals ret :: tables_1) hat d (List.mem_cons_of_mem _ hd)
  have hfit : Fit s := fun {y c} hc i hi => by
    obtain ⟨ha, rfl⟩ := Array.getElem?_eq_some_iff.mp hc
    have q := List.all_eq_true.mp ((Array.all_eq_true_iff_forall_mem.mp hF) _ (Array.getElem_mem ha)) i (List.mem_range.mpr hi)
    simpa [Array.getElem?_eq_getElem hi] using q
  obtain ⟨hsets, hown0⟩ := atoms_of _ (rest_1_c_eq ▸ (show rest_1_c.before _ s = true from hrest))
  have hr0 := Cond.before_iff.mp hown0
  obtain ⟨i0, ei0⟩ := is_v hv0
  obtain rfl : w0 = (.int i0) := Option.some.inj ei0
  obtain ⟨i1, ei1⟩ := is_v hv1
  obtain rfl : w1 = (.int i1) := Option.some.inj ei1
  obtain ⟨i2, ei2⟩ := is_v hv2
  obtain rfl : w2 = (.int i2) := Option.some.inj ei2
  obtain ⟨i3, ei3⟩ := is_v hv3
  obtain rfl : w3 = (.int i3) := Option.some.inj ei3
  obtain ⟨i4, ei4⟩ := is_v hv4
  obtain rfl : w4 = (.int i4) := Option.some.inj ei4
  obtain ⟨i5, ei5⟩ := is_v hv5
  obtain rfl : w5 = (.int i5) := Option.some.inj ei5
  obtain ⟨w1i, ev2⟩ := is_v (Cond.before_iff.mp (hsets _ (List.mem_of_getElem? (i := 1) rfl)))
  have Y3 : Sta s s.heap "java/lang/String" "COMPACT_STRINGS" "Z" (.int w1i) := Sta.start ev2 (Or.inl (hsets _ (List.mem_of_getElem? (i := 0) rfl)))
  have Y4 : ¬ (w1i = (0 : Int32)) := own_neI ev2 (Cond.before_iff.mp (hsets _ (List.mem_of_getElem? (i := 2) rfl)))
  have ev9 : (Term.static "java/lang/StringUTF16" "$assertionsDisabled" "Z").eval _ s none [] s = some (.int (1 : Int32)) := own_valI (Cond.before_iff.mp (hsets _ (List.mem_of_getElem? (i := 12) rfl)))
  have Y10 : Sta s s.heap "java/lang/StringUTF16" "$assertionsDisabled" "Z" (.int (1 : Int32)) := Sta.start ev9 (Or.inl (hsets _ (List.mem_of_getElem? (i := 11) rfl)))
  have ev11 : (Term.static "java/lang/StringUTF16" "HI_BYTE_SHIFT" "I").eval _ s none [] s = some (.int (0 : Int32)) := own_valI (Cond.before_iff.mp (hsets _ (List.mem_of_getElem? (i := 15) rfl)))
  have Y12 : Sta s s.heap "java/lang/StringUTF16" "HI_BYTE_SHIFT" "I" (.int (0 : Int32)) := Sta.start ev11 (Or.inl (hsets _ (List.mem_of_getElem? (i := 14) rfl)))
  have ev13 : (Term.static "java/lang/StringUTF16" "LO_BYTE_SHIFT" "I").eval _ s none [] s = some (.int (8 : Int32)) := own_valI (Cond.before_iff.mp (hsets _ (List.mem_of_getElem? (i := 18) rfl)))
  have Y14 : Sta s s.heap "java/lang/StringUTF16" "LO_BYTE_SHIFT" "I" (.int (8 : Int32)) := Sta.start ev13 (Or.inl (hsets _ (List.mem_of_getElem? (i := 17) rfl)))
  obtain ⟨n, o, h1, h2, h3, _, L, rfl, ⟨rfl, N⟩, hq⟩ := rm0 l s _ hw tables_1 i0 i1 i2 i3 i4 i5 w1i s.heap s.heap.size (Old.start s) Y3 Y4 Y10 Y12 Y14 (hcalls.1 _ (List.mem_of_getElem? (i := 0) rfl)) (hsets _ (List.mem_of_getElem? (i := 2) rfl)) p e ha hc hk s m _ below hf ((Spec.applies_iff_loose hf).mp happ).1 ⟨rfl, State.Warmed39.refl s, rfl, rfl⟩ trivial
  refine ⟨n, _, h1, h2, h3, hpost _ _ _ _ _ _ ⟨Cond.after_iff.mpr rfl, Cond.after_iff.mpr (eq_i res_at (Term.int_eval (1)) rfl), trivial⟩ ⟨hq.1, hq.2.1, hq.2.2.1, (hq.2.2.2.sift fun y hy => Or.inr (N y hy)).mono (by decide) (by decide)⟩⟩
theorem main_1_1 : Claimed_1_1 := comes_1 fun _ _ _ _ _ _ h hF => ⟨h.1, hF⟩
theorem main_1_2 : Claimed_1_2 := comes_1 fun _ _ _ _ _ _ h hF => ⟨h.2.1, hF⟩
end Jvm.Pilot.@@N@@
namespace Jvm.Pilot.@@N@@
open Jvm Jvm.ClassFile Sem Op Lib Jvm.Free Jvm.Stand Jvm.Pilot.@@N@@.Jvm.D
/-! MADE BY PROGRAM (witnessworld.py) out of the Statement's table words and the real class files: 22 classes; the members and pool entries that the words name. The judged class is class 1, her method 6. -/
namespace start1
open Jvm.ClassFile
def u (s : String) : CpInfo := .utf8 (stringToUtf16 s)
/-- a pool by its gaps: so many unusable entries, then the entry; so many at the end -/
def gap : Nat → List CpInfo → List CpInfo
  | 0, r => r
  | n + 1, r => .unusable :: gap n r
def poolList (es : List (Nat × CpInfo)) (last : Nat) : List CpInfo := es.foldr (fun e r => gap e.1 (e.2 :: r)) (gap last [])
def pool (es : List (Nat × CpInfo)) (last : Nat) : Array CpInfo := ⟨poolList es last⟩
def fileOf (pool : Array CpInfo) (this : Nat) (attrs : Array Attribute := #[]) (ms : Array MethodInfo := #[]) (fl : Nat := 33) (sup : Nat := 0) (ifs : Array Nat := #[]) (fds : Array FieldInfo := #[]) : ClassFile where
  minorVersion := 0
  majorVersion := 65
  constantPool := pool
  accessFlags := fl
  thisClass := this
  superClass := sup
  interfaces := ifs
  fields := fds
  methods := ms
  attributes := attrs
def plain (name : String) (sup : Option ClassId) : Class where
  name := name
  kind := .ordinary
  loader := none
  accessFlags := 33
  super := sup
  interfaces := #[]
  cf := none
  fields := #[]
  methods := #[]
  instanceTypes := #[]
  staticTypes := #[]
  resolved := #[]
  callSites := []
  init := .initialized
  statics := none
  mirror := none

def pool0 : Array CpInfo := pool [(5, u "<init>"), (0, u "()V"), (1, .class_ 10), (1, u "java/lang/Object")] 113

def k0c0 : Code := { maxStack := 0, maxLocals := 1, code := object_method_1_code, exceptionTable := #[], attributes := #[] }
def k0m0 : Method := { name := "<init>", desc := "()V", sig := { parameters := [], returnType := none }, accessFlags := 1, code := some k0c0 }
/-- java/lang/Object -/
def k0 : Class := { plain "java/lang/Object" none with
  accessFlags := 33
  interfaces := #[]
  cf := some (fileOf pool0 8 #[] #[{ accessFlags := 1, nameIndex := 5, descriptorIndex := 6, attributes := #[] }] 33 0 #[] #[])
  fields := #[]
  methods := #[k0m0]
  instanceTypes := #[]
  staticTypes := #[]
  resolved := Array.replicate 124 none
  statics := none }

def pool1 : Array CpInfo := pool [(2, .class_ 4), (1, u "java/lang/Object"), (0, u "<init>"), (0, u "()V"), (0, .integer 55296), (0, .integer 56320), (0, .integer 65535), (0, .integer 56319), (0, .integer 57343), (0, .methodref 13 14), (0, .class_ 15), (0, .nameAndType 16 17), (0, u "com/example/outbound_courier/outboundcourier/util/CharactersIsOneToPinLaw"), (0, u "isHigh"), (0, u "(C)Z"), (0, .methodref 13 19), (0, .nameAndType 20 17), (0, u "isLow"), (0, .class_ 22), (0, u "java/lang/String"), (0, .methodref 21 24), (0, .nameAndType 5 25), (0, u "([C)V"), (0, .methodref 13 27), (0, .nameAndType 28 29), (0, u "pick"), (0, u "(I)C"), (0, .integer 2147483647), (0, .methodref 13 32), (0, .nameAndType 33 34), (0, u "make"), (0, u "(ICCCC)Ljava/lang/String;"), (0, .methodref 36 37), (0, .class_ 38), (0, .nameAndType 39 40), (0, u "com/example/outbound_courier/outboundcourier/util/Characters"), (0, u "isOneTo"), (0, u "(Ljava/lang/String;I)Z"), (0, .methodref 13 42), (0, .nameAndType 43 44), (0, u "pair"), (0, u "(CCZ)I"), (3, u "law"), (0, u "(IIIIII)Z")] 2

def k1m0 : Method := { name := "<init>", desc := "()V", sig := { parameters := [], returnType := none }, accessFlags := 2, code := none }
def k1c1 : Code := { maxStack := 3, maxLocals := 3, code := method_2_code, exceptionTable := #[], attributes := #[] }
def k1m1 : Method := { name := "pick", desc := "(I)C", sig := { parameters := [.int], returnType := some .char }, accessFlags := 10, code := some k1c1 }
def k1c2 : Code := { maxStack := 2, maxLocals := 1, code := method_3_code, exceptionTable := #[], attributes := #[] }
def k1m2 : Method := { name := "isHigh", desc := "(C)Z", sig := { parameters := [.char], returnType := some .boolean }, accessFlags := 10, code := some k1c2 }
def k1c3 : Code := { maxStack := 2, maxLocals := 1, code := method_4_code, exceptionTable := #[], attributes := #[] }
def k1m3 : Method := { name := "isLow", desc := "(C)Z", sig := { parameters := [.char], returnType := some .boolean }, accessFlags := 10, code := some k1c3 }
def k1c4 : Code := { maxStack := 1, maxLocals := 3, code := method_5_code, exceptionTable := #[], attributes := #[] }
def k1m4 : Method := { name := "pair", desc := "(CCZ)I", sig := { parameters := [.char, .char, .boolean], returnType := some .int }, accessFlags := 10, code := some k1c4 }
def k1c5 : Code := { maxStack := 3, maxLocals := 6, code := method_6_code, exceptionTable := #[], attributes := #[] }
def k1m5 : Method := { name := "make", desc := "(ICCCC)Ljava/lang/String;", sig := { parameters := [.int, .char, .char, .char, .char], returnType := some (.object "java/lang/String") }, accessFlags := 10, code := some k1c5 }
def k1c6 : Code := { maxStack := 5, maxLocals := 15, code := code, exceptionTable := #[], attributes := #[] }
def k1m6 : Method := { name := "law", desc := "(IIIIII)Z", sig := { parameters := [.int, .int, .int, .int, .int, .int], returnType := some .boolean }, accessFlags := 9, code := some k1c6 }
/-- com/example/outbound_courier/outboundcourier/util/CharactersIsOneToPinLaw -/
def k1 : Class := { plain "com/example/outbound_courier/outboundcourier/util/CharactersIsOneToPinLaw" (some 0) with
  accessFlags := 49
  interfaces := #[]
  cf := some (fileOf pool1 13 #[] #[{ accessFlags := 2, nameIndex := 5, descriptorIndex := 6, attributes := #[] }, { accessFlags := 10, nameIndex := 28, descriptorIndex := 29, attributes := #[] }, { accessFlags := 10, nameIndex := 16, descriptorIndex := 17, attributes := #[] }, { accessFlags := 10, nameIndex := 20, descriptorIndex := 17, attributes := #[] }, { accessFlags := 10, nameIndex := 43, descriptorIndex := 44, attributes := #[] }, { accessFlags := 10, nameIndex := 33, descriptorIndex := 34, attributes := #[] }, { accessFlags := 9, nameIndex := 48, descriptorIndex := 49, attributes := #[] }] 49 2 #[] #[])
  fields := #[]
  methods := #[k1m0, k1m1, k1m2, k1m3, k1m4, k1m5, k1m6]
  instanceTypes := #[]
  staticTypes := #[]
  resolved := Array.replicate 52 none
  statics := none }

def pool2 : Array CpInfo := pool [(1, .class_ 2), (0, u "java/io/Serializable"), (0, .class_ 4), (0, u "java/lang/Object")] 2

/-- java/io/Serializable -/
def k2 : Class := { plain "java/io/Serializable" (some 0) with
  accessFlags := 1537
  interfaces := #[]
  cf := some (fileOf pool2 1 #[] #[] 1537 3 #[] #[])
  fields := #[]
  methods := #[]
  instanceTypes := #[]
  staticTypes := #[]
  resolved := Array.replicate 7 none
  statics := none }

def pool3 : Array CpInfo := pool [(1, .class_ 2), (0, u "java/lang/Comparable"), (0, .class_ 4), (0, u "java/lang/Object")] 7

/-- java/lang/Comparable -/
def k3 : Class := { plain "java/lang/Comparable" (some 0) with
  accessFlags := 1537
  interfaces := #[]
  cf := some (fileOf pool3 1 #[] #[] 1537 3 #[] #[])
  fields := #[]
  methods := #[]
  instanceTypes := #[]
  staticTypes := #[]
  resolved := Array.replicate 12 none
  statics := none }

def pool4 : Array CpInfo := pool [(2, .class_ 4), (1, u "java/lang/CharSequence"), (42, .class_ 48), (0, u "java/lang/CharSequence$1CodePointIterator"), (10, .class_ 60), (0, u "java/lang/CharSequence$1CharIterator"), (5, .class_ 67), (0, u "java/lang/Object")] 63

/-- java/lang/CharSequence -/
def k4 : Class := { plain "java/lang/CharSequence" (some 0) with
  accessFlags := 1537
  interfaces := #[]
  cf := some (fileOf pool4 2 #[.nestMembers #[47, 59]] #[] 1537 66 #[] #[])
  fields := #[]
  methods := #[]
  instanceTypes := #[]
  staticTypes := #[]
  resolved := Array.replicate 131 none
  statics := none }

def pool5 : Array CpInfo := pool [(1, .class_ 2), (0, u "java/lang/constant/Constable"), (0, .class_ 4), (0, u "java/lang/Object")] 6

/-- java/lang/constant/Constable -/
def k5 : Class := { plain "java/lang/constant/Constable" (some 0) with
  accessFlags := 1537
  interfaces := #[]
  cf := some (fileOf pool5 1 #[] #[] 1537 3 #[] #[])
  fields := #[]
  methods := #[]
  instanceTypes := #[]
  staticTypes := #[]
  resolved := Array.replicate 11 none
  statics := none }

def pool6 : Array CpInfo := pool [(1, .class_ 2), (0, u "java/lang/constant/ConstantDesc"), (0, .class_ 4), (0, u "java/lang/Object")] 32

/-- java/lang/constant/ConstantDesc -/
def k6 : Class := { plain "java/lang/constant/ConstantDesc" (some 0) with
  accessFlags := 1537
  interfaces := #[]
  cf := some (fileOf pool6 1 #[] #[] 1537 3 #[] #[])
  fields := #[]
  methods := #[]
  instanceTypes := #[]
  staticTypes := #[]
  resolved := Array.replicate 37 none
  statics := none }

def pool7 : Array CpInfo := pool [(1, .methodref 2 3), (0, .class_ 4), (0, .nameAndType 5 6), (0, u "java/lang/Object"), (0, u "<init>"), (0, u "()V"), (0, .string 8), (0, u ""), (0, .fieldref 10 11), (0, .class_ 12), (0, .nameAndType 13 14), (0, u "java/lang/String"), (0, u "value"), (0, u "[B"), (0, .fieldref 10 16), (0, .nameAndType 17 18), (0, u "coder"), (0, u "B"), (2, u "hash"), (0, u "I"), (2, u "hashIsZero"), (0, u "Z"), (0, .methodref 10 28), (0, .nameAndType 5 29), (0, u "([CIILjava/lang/Void;)V"), (7, u "(III)I"), (0, .fieldref 10 39), (0, .nameAndType 40 26), (0, u "COMPACT_STRINGS"), (1, .class_ 44), (1, u "java/lang/StringUTF16"), (0, u "compress"), (1, .methodref 42 48), (0, .nameAndType 49 50), (0, u "coderFromArrayLen"), (0, u "([BI)B"), (28, .class_ 81), (1, u "java/util/Objects"), (15, u "([BII)I"), (44, u "()Z"), (34, .methodref 42 178), (0, .nameAndType 45 179), (0, u "([CII)[B"), (154, u "()I"), (0, .methodref 10 336), (0, .nameAndType 17 337), (0, u "()B"), (154, .methodref 10 493), (0, .nameAndType 494 142), (0, u "isLatin1"), (10, .methodref 10 506), (0, .nameAndType 507 334), (0, u "length"), (3, .methodref 79 512), (0, .nameAndType 513 37), (0, u "checkFromToIndex"), (0, .methodref 42 515), (0, .nameAndType 516 97), (0, u "codePointCount"), (58, .class_ 576), (0, u "java/lang/CharSequence"), (22, u "CASE_INSENSITIVE_ORDER"), (0, u "Ljava/util/Comparator;"), (35, u "(II)I"), (55, u "isEmpty"), (317, u "([C)V"), (90, u "serialPersistentFields"), (0, u "[Ljava/io/ObjectStreamField;"), (0, .class_ 1104), (0, u "java/lang/String$CaseInsensitiveComparator"), (1, .class_ 1107), (0, u "java/io/Serializable"), (0, .class_ 1109), (0, u "java/lang/Comparable"), (0, .class_ 1111), (0, u "java/lang/constant/Constable"), (0, .class_ 1113), (0, u "java/lang/constant/ConstantDesc"), (2, u "serialVersionUID"), (0, u "J"), (3, u "REPL"), (0, u "C"), (2, u "LATIN1"), (1, u "UTF16")] 323

def k7m0 : Method := { name := "<init>", desc := "()V", sig := { parameters := [], returnType := none }, accessFlags := 1, code := none }
def k7c1 : Code := { maxStack := 5, maxLocals := 2, code := jdk_42_method_3_code, exceptionTable := #[], attributes := #[] }
def k7m1 : Method := { name := "<init>", desc := "([C)V", sig := { parameters := [(.array .char)], returnType := none }, accessFlags := 1, code := some k7c1 }
def k7c2 : Code := { maxStack := 2, maxLocals := 1, code := jdk_42_method_54_code, exceptionTable := #[], attributes := #[] }
def k7m2 : Method := { name := "length", desc := "()I", sig := { parameters := [], returnType := some .int }, accessFlags := 1, code := some k7c2 }
def k7c3 : Code := { maxStack := 1, maxLocals := 1, code := jdk_42_method_55_code, exceptionTable := #[], attributes := #[] }
def k7m3 : Method := { name := "isEmpty", desc := "()Z", sig := { parameters := [], returnType := some .boolean }, accessFlags := 1, code := some k7c3 }
def k7c4 : Code := { maxStack := 3, maxLocals := 3, code := jdk_42_method_59_code, exceptionTable := #[], attributes := #[] }
def k7m4 : Method := { name := "codePointCount", desc := "(II)I", sig := { parameters := [.int, .int], returnType := some .int }, accessFlags := 1, code := some k7c4 }
def k7c5 : Code := { maxStack := 4, maxLocals := 6, code := jdk_42_method_149_code, exceptionTable := #[], attributes := #[] }
def k7m5 : Method := { name := "<init>", desc := "([CIILjava/lang/Void;)V", sig := { parameters := [(.array .char), .int, .int, (.object "java/lang/Void")], returnType := none }, accessFlags := 2, code := some k7c5 }
def k7c6 : Code := { maxStack := 1, maxLocals := 1, code := jdk_42_method_152_code, exceptionTable := #[], attributes := #[] }
def k7m6 : Method := { name := "coder", desc := "()B", sig := { parameters := [], returnType := some .byte }, accessFlags := 0, code := some k7c6 }
def k7c7 : Code := { maxStack := 1, maxLocals := 1, code := jdk_42_method_154_code, exceptionTable := #[], attributes := #[] }
def k7m7 : Method := { name := "isLatin1", desc := "()Z", sig := { parameters := [], returnType := some .boolean }, accessFlags := 0, code := some k7c7 }
/-- java/lang/String -/
def k7 : Class := { plain "java/lang/String" (some 0) with
  accessFlags := 49
  interfaces := #[2, 3, 4, 5, 6]
  cf := some (fileOf pool7 10 #[.nestMembers #[1103]] #[{ accessFlags := 1, nameIndex := 5, descriptorIndex := 6, attributes := #[] }, { accessFlags := 1, nameIndex := 5, descriptorIndex := 1010, attributes := #[] }, { accessFlags := 1, nameIndex := 507, descriptorIndex := 334, attributes := #[] }, { accessFlags := 1, nameIndex := 692, descriptorIndex := 142, attributes := #[] }, { accessFlags := 1, nameIndex := 516, descriptorIndex := 636, attributes := #[] }, { accessFlags := 2, nameIndex := 5, descriptorIndex := 29, attributes := #[] }, { accessFlags := 0, nameIndex := 17, descriptorIndex := 337, attributes := #[] }, { accessFlags := 0, nameIndex := 494, descriptorIndex := 142, attributes := #[] }] 49 2 #[1106, 1108, 575, 1110, 1112] #[{ accessFlags := 18, nameIndex := 13, descriptorIndex := 14, attributes := #[] }, { accessFlags := 18, nameIndex := 17, descriptorIndex := 18, attributes := #[] }, { accessFlags := 2, nameIndex := 21, descriptorIndex := 22, attributes := #[] }, { accessFlags := 2, nameIndex := 25, descriptorIndex := 26, attributes := #[] }, { accessFlags := 26, nameIndex := 1116, descriptorIndex := 1117, attributes := #[] }, { accessFlags := 24, nameIndex := 40, descriptorIndex := 26, attributes := #[] }, { accessFlags := 26, nameIndex := 1101, descriptorIndex := 1102, attributes := #[] }, { accessFlags := 26, nameIndex := 1121, descriptorIndex := 1122, attributes := #[] }, { accessFlags := 25, nameIndex := 599, descriptorIndex := 600, attributes := #[] }, { accessFlags := 24, nameIndex := 1125, descriptorIndex := 18, attributes := #[] }, { accessFlags := 24, nameIndex := 1127, descriptorIndex := 18, attributes := #[] }])
  fields := #[{ name := "value", type := (.array .byte), accessFlags := 18, slot := 0, constantValue := 0 }, { name := "coder", type := .byte, accessFlags := 18, slot := 1, constantValue := 0 }, { name := "hash", type := .int, accessFlags := 2, slot := 2, constantValue := 0 }, { name := "hashIsZero", type := .boolean, accessFlags := 2, slot := 3, constantValue := 0 }, { name := "serialVersionUID", type := .long, accessFlags := 26, slot := 0, constantValue := 0 }, { name := "COMPACT_STRINGS", type := .boolean, accessFlags := 24, slot := 1, constantValue := 0 }, { name := "serialPersistentFields", type := (.array (.object "java/io/ObjectStreamField")), accessFlags := 26, slot := 2, constantValue := 0 }, { name := "REPL", type := .char, accessFlags := 26, slot := 3, constantValue := 0 }, { name := "CASE_INSENSITIVE_ORDER", type := (.object "java/util/Comparator"), accessFlags := 25, slot := 4, constantValue := 0 }, { name := "LATIN1", type := .byte, accessFlags := 24, slot := 5, constantValue := 0 }, { name := "UTF16", type := .byte, accessFlags := 24, slot := 6, constantValue := 0 }]
  methods := #[k7m0, k7m1, k7m2, k7m3, k7m4, k7m5, k7m6, k7m7]
  instanceTypes := #[(.array .byte), .byte, .int, .boolean]
  staticTypes := #[.long, .boolean, (.array (.object "java/io/ObjectStreamField")), .char, (.object "java/util/Comparator"), .byte, .byte]
  resolved := Array.replicate 1451 none
  statics := some 0 }

def pool8 : Array CpInfo := pool [(2, .class_ 4), (1, u "java/lang/Object"), (0, u "<init>"), (0, u "()V"), (0, .methodref 8 9), (0, .class_ 10), (0, .nameAndType 11 12), (0, u "java/lang/String"), (0, u "isEmpty"), (0, u "()Z"), (0, .methodref 8 14), (0, .nameAndType 15 16), (0, u "length"), (0, u "()I"), (0, .methodref 8 18), (0, .nameAndType 19 20), (0, u "codePointCount"), (0, u "(II)I"), (23, .class_ 46), (1, u "com/example/outbound_courier/outboundcourier/util/Characters"), (0, u "CODE_POINT_ORDER"), (0, u "Ljava/util/Comparator;"), (4, u "isOneTo"), (0, u "(Ljava/lang/String;I)Z")] 26

def k8m0 : Method := { name := "<init>", desc := "()V", sig := { parameters := [], returnType := none }, accessFlags := 2, code := none }
def k8c1 : Code := { maxStack := 3, maxLocals := 2, code := prog_38_method_2_code, exceptionTable := #[], attributes := #[] }
def k8m1 : Method := { name := "isOneTo", desc := "(Ljava/lang/String;I)Z", sig := { parameters := [(.object "java/lang/String"), .int], returnType := some .boolean }, accessFlags := 9, code := some k8c1 }
/-- com/example/outbound_courier/outboundcourier/util/Characters -/
def k8 : Class := { plain "com/example/outbound_courier/outboundcourier/util/Characters" (some 0) with
  accessFlags := 49
  interfaces := #[]
  cf := some (fileOf pool8 44 #[] #[{ accessFlags := 2, nameIndex := 5, descriptorIndex := 6, attributes := #[] }, { accessFlags := 9, nameIndex := 53, descriptorIndex := 54, attributes := #[] }] 49 2 #[] #[{ accessFlags := 25, nameIndex := 47, descriptorIndex := 48, attributes := #[] }])
  fields := #[{ name := "CODE_POINT_ORDER", type := (.object "java/util/Comparator"), accessFlags := 25, slot := 0, constantValue := 0 }]
  methods := #[k8m0, k8m1]
  instanceTypes := #[]
  staticTypes := #[(.object "java/util/Comparator")]
  resolved := Array.replicate 81 none
  statics := none }

def pool9 : Array CpInfo := pool [(6, .class_ 8), (1, u "java/lang/Object"), (0, u "<init>"), (0, u "()V"), (0, .methodref 12 13), (0, .class_ 14), (0, .nameAndType 15 16), (0, u "java/lang/StringUTF16"), (0, u "newBytesLength"), (0, u "(I)I"), (3, .integer 1073741823), (23, .fieldref 12 45), (0, .nameAndType 46 47), (0, u "$assertionsDisabled"), (0, u "Z"), (11, .fieldref 12 60), (0, .nameAndType 61 62), (0, u "HI_BYTE_SHIFT"), (0, u "I"), (0, .fieldref 12 64), (0, .nameAndType 65 62), (0, u "LO_BYTE_SHIFT"), (5, .methodref 12 72), (0, .nameAndType 73 74), (0, u "getChar"), (0, u "([BI)C"), (0, .methodref 76 77), (0, .class_ 78), (0, .nameAndType 79 80), (0, u "java/lang/Character"), (0, u "isHighSurrogate"), (0, u "(C)Z"), (0, .methodref 76 82), (0, .nameAndType 83 80), (0, u "isLowSurrogate"), (7, u "([BIIZ)I"), (8, .methodref 12 101), (0, .nameAndType 102 91), (0, u "codePointCount"), (4, .methodref 12 108), (0, .nameAndType 109 110), (0, u "newBytesFor"), (0, u "(I)[B"), (0, .methodref 12 112), (0, .nameAndType 113 114), (0, u "putChar"), (0, u "([BII)V"), (0, .methodref 12 116), (0, .nameAndType 117 118), (0, u "compress"), (0, u "([CI[BII)I"), (0, .methodref 12 120), (0, .nameAndType 121 122), (0, u "toBytes"), (0, u "([CII)[B"), (127, u "([BII)I"), (10, u "coderFromArrayLen"), (0, u "([BI)B"), (106, .class_ 371), (1, u "java/lang/StringUTF16$LinesSpliterator"), (58, u "MAX_LENGTH"), (196, .class_ 628), (0, u "java/lang/StringUTF16$CodePointsSpliterator"), (0, .class_ 630), (0, u "java/lang/StringUTF16$CharsSpliterator")] 4

def k9m0 : Method := { name := "<init>", desc := "()V", sig := { parameters := [], returnType := none }, accessFlags := 0, code := none }
def k9c1 : Code := { maxStack := 1, maxLocals := 1, code := jdk_52_method_2_code, exceptionTable := #[], attributes := #[] }
def k9m1 : Method := { name := "newBytesFor", desc := "(I)[B", sig := { parameters := [.int], returnType := some (.array .byte) }, accessFlags := 9, code := some k9c1 }
def k9c2 : Code := { maxStack := 4, maxLocals := 1, code := jdk_52_method_3_code, exceptionTable := #[], attributes := #[] }
def k9m2 : Method := { name := "newBytesLength", desc := "(I)I", sig := { parameters := [.int], returnType := some .int }, accessFlags := 9, code := some k9c2 }
def k9c3 : Code := { maxStack := 4, maxLocals := 3, code := jdk_52_method_4_code, exceptionTable := #[], attributes := #[] }
def k9m3 : Method := { name := "putChar", desc := "([BII)V", sig := { parameters := [(.array .byte), .int, .int], returnType := none }, accessFlags := 8, code := some k9c3 }
def k9c4 : Code := { maxStack := 3, maxLocals := 2, code := jdk_52_method_5_code, exceptionTable := #[], attributes := #[] }
def k9m4 : Method := { name := "getChar", desc := "([BI)C", sig := { parameters := [(.array .byte), .int], returnType := some .char }, accessFlags := 8, code := some k9c4 }
def k9c5 : Code := { maxStack := 3, maxLocals := 6, code := jdk_52_method_11_code, exceptionTable := #[], attributes := #[] }
def k9m5 : Method := { name := "codePointCount", desc := "([BIIZ)I", sig := { parameters := [(.array .byte), .int, .int, .boolean], returnType := some .int }, accessFlags := 10, code := some k9c5 }
def k9c6 : Code := { maxStack := 4, maxLocals := 3, code := jdk_52_method_12_code, exceptionTable := #[], attributes := #[] }
def k9m6 : Method := { name := "codePointCount", desc := "([BII)I", sig := { parameters := [(.array .byte), .int, .int], returnType := some .int }, accessFlags := 9, code := some k9c6 }
def k9c7 : Code := { maxStack := 4, maxLocals := 5, code := jdk_52_method_14_code, exceptionTable := #[], attributes := #[] }
def k9m7 : Method := { name := "toBytes", desc := "([CII)[B", sig := { parameters := [(.array .char), .int, .int], returnType := some (.array .byte) }, accessFlags := 9, code := some k9c7 }
def k9c8 : Code := { maxStack := 2, maxLocals := 2, code := jdk_52_method_15_code, exceptionTable := #[], attributes := #[] }
def k9m8 : Method := { name := "coderFromArrayLen", desc := "([BI)B", sig := { parameters := [(.array .byte), .int], returnType := some .byte }, accessFlags := 8, code := some k9c8 }
def k9c9 : Code := { maxStack := 5, maxLocals := 6, code := jdk_52_method_16_code, exceptionTable := #[], attributes := #[] }
def k9m9 : Method := { name := "compress", desc := "([CII)[B", sig := { parameters := [(.array .char), .int, .int], returnType := some (.array .byte) }, accessFlags := 9, code := some k9c9 }
def k9c10 : Code := { maxStack := 3, maxLocals := 7, code := jdk_52_method_21_code, exceptionTable := #[], attributes := #[] }
def k9m10 : Method := { name := "compress", desc := "([CI[BII)I", sig := { parameters := [(.array .char), .int, (.array .byte), .int, .int], returnType := some .int }, accessFlags := 9, code := some k9c10 }
/-- java/lang/StringUTF16 -/
def k9 : Class := { plain "java/lang/StringUTF16" (some 0) with
  accessFlags := 48
  interfaces := #[]
  cf := some (fileOf pool9 12 #[.nestMembers #[627, 629, 369]] #[{ accessFlags := 0, nameIndex := 9, descriptorIndex := 10, attributes := #[] }, { accessFlags := 9, nameIndex := 109, descriptorIndex := 110, attributes := #[] }, { accessFlags := 9, nameIndex := 15, descriptorIndex := 16, attributes := #[] }, { accessFlags := 8, nameIndex := 113, descriptorIndex := 114, attributes := #[] }, { accessFlags := 8, nameIndex := 73, descriptorIndex := 74, attributes := #[] }, { accessFlags := 10, nameIndex := 102, descriptorIndex := 91, attributes := #[] }, { accessFlags := 9, nameIndex := 102, descriptorIndex := 250, attributes := #[] }, { accessFlags := 9, nameIndex := 121, descriptorIndex := 122, attributes := #[] }, { accessFlags := 8, nameIndex := 261, descriptorIndex := 262, attributes := #[] }, { accessFlags := 9, nameIndex := 117, descriptorIndex := 122, attributes := #[] }, { accessFlags := 9, nameIndex := 117, descriptorIndex := 118, attributes := #[] }] 48 6 #[] #[{ accessFlags := 26, nameIndex := 61, descriptorIndex := 62, attributes := #[] }, { accessFlags := 26, nameIndex := 65, descriptorIndex := 62, attributes := #[] }, { accessFlags := 24, nameIndex := 430, descriptorIndex := 62, attributes := #[] }, { accessFlags := 4120, nameIndex := 46, descriptorIndex := 47, attributes := #[] }])
  fields := #[{ name := "HI_BYTE_SHIFT", type := .int, accessFlags := 26, slot := 0, constantValue := 0 }, { name := "LO_BYTE_SHIFT", type := .int, accessFlags := 26, slot := 1, constantValue := 0 }, { name := "MAX_LENGTH", type := .int, accessFlags := 24, slot := 2, constantValue := 0 }, { name := "$assertionsDisabled", type := .boolean, accessFlags := 4120, slot := 3, constantValue := 0 }]
  methods := #[k9m0, k9m1, k9m2, k9m3, k9m4, k9m5, k9m6, k9m7, k9m8, k9m9, k9m10]
  instanceTypes := #[]
  staticTypes := #[.int, .int, .int, .boolean]
  resolved := Array.replicate 635 none
  statics := some 1 }

def pool10 : Array CpInfo := pool [(2, .class_ 4), (1, u "java/lang/Object"), (0, u "<init>"), (0, u "()V"), (35, .class_ 44), (1, u "java/util/Objects"), (61, .class_ 108), (1, u "jdk/internal/util/Preconditions"), (2, .methodref 106 112), (0, .nameAndType 113 114), (0, u "checkFromToIndex"), (0, u "(IIILjava/util/function/BiFunction;)I"), (60, u "(III)I")] 8

def k10m0 : Method := { name := "<init>", desc := "()V", sig := { parameters := [], returnType := none }, accessFlags := 2, code := none }
def k10c1 : Code := { maxStack := 4, maxLocals := 3, code := jdk_31_method_18_code, exceptionTable := #[], attributes := #[] }
def k10m1 : Method := { name := "checkFromToIndex", desc := "(III)I", sig := { parameters := [.int, .int, .int], returnType := some .int }, accessFlags := 9, code := some k10c1 }
/-- java/util/Objects -/
def k10 : Class := { plain "java/util/Objects" (some 0) with
  accessFlags := 49
  interfaces := #[]
  cf := some (fileOf pool10 42 #[] #[{ accessFlags := 2, nameIndex := 5, descriptorIndex := 6, attributes := #[] }, { accessFlags := 9, nameIndex := 113, descriptorIndex := 175, attributes := #[] }] 49 2 #[] #[])
  fields := #[]
  methods := #[k10m0, k10m1]
  instanceTypes := #[]
  staticTypes := #[]
  resolved := Array.replicate 184 none
  statics := none }

def pool11 : Array CpInfo := pool [(2, .class_ 4), (1, u "java/lang/Object"), (0, u "<init>"), (0, u "()V"), (17, .class_ 26), (1, u "jdk/internal/util/Preconditions"), (20, u "checkFromToIndex"), (7, .class_ 56), (0, u "jdk/internal/util/Preconditions$4"), (57, .class_ 115), (0, u "jdk/internal/util/Preconditions$1"), (7, u "SIOOBE_FORMATTER"), (0, u "Ljava/util/function/BiFunction;"), (0, .class_ 126), (0, u "jdk/internal/util/Preconditions$2"), (3, u "AIOOBE_FORMATTER"), (0, .class_ 132), (0, u "jdk/internal/util/Preconditions$3"), (3, u "IOOBE_FORMATTER"), (46, u "(IIILjava/util/function/BiFunction;)I")] 10

def k11m0 : Method := { name := "<init>", desc := "()V", sig := { parameters := [], returnType := none }, accessFlags := 1, code := none }
def k11c1 : Code := { maxStack := 4, maxLocals := 4, code := jdk_41_method_12_code, exceptionTable := #[], attributes := #[] }
def k11m1 : Method := { name := "checkFromToIndex", desc := "(IIILjava/util/function/BiFunction;)I", sig := { parameters := [.int, .int, .int, (.object "java/util/function/BiFunction")], returnType := some .int }, accessFlags := 9, code := some k11c1 }
/-- jdk/internal/util/Preconditions -/
def k11 : Class := { plain "jdk/internal/util/Preconditions" (some 0) with
  accessFlags := 33
  interfaces := #[]
  cf := some (fileOf pool11 24 #[.nestMembers #[55, 131, 125, 114]] #[{ accessFlags := 1, nameIndex := 5, descriptorIndex := 6, attributes := #[] }, { accessFlags := 9, nameIndex := 47, descriptorIndex := 183, attributes := #[] }] 33 2 #[] #[{ accessFlags := 25, nameIndex := 123, descriptorIndex := 124, attributes := #[] }, { accessFlags := 25, nameIndex := 130, descriptorIndex := 124, attributes := #[] }, { accessFlags := 25, nameIndex := 136, descriptorIndex := 124, attributes := #[] }])
  fields := #[{ name := "SIOOBE_FORMATTER", type := (.object "java/util/function/BiFunction"), accessFlags := 25, slot := 0, constantValue := 0 }, { name := "AIOOBE_FORMATTER", type := (.object "java/util/function/BiFunction"), accessFlags := 25, slot := 1, constantValue := 0 }, { name := "IOOBE_FORMATTER", type := (.object "java/util/function/BiFunction"), accessFlags := 25, slot := 2, constantValue := 0 }]
  methods := #[k11m0, k11m1]
  instanceTypes := #[]
  staticTypes := #[(.object "java/util/function/BiFunction"), (.object "java/util/function/BiFunction"), (.object "java/util/function/BiFunction")]
  resolved := Array.replicate 194 none
  statics := some 2 }

def pool12 : Array CpInfo := pool [(1, .class_ 2), (0, u "java/lang/Character"), (18, u "value"), (0, u "C"), (19, .class_ 44), (1, u "java/lang/Object"), (3, .class_ 50), (1, u "java/lang/Character$CharacterCache"), (24, .integer 55296), (0, .integer 56320), (0, .integer 57344), (2, u "isHighSurrogate"), (0, u "(C)Z"), (2, u "isLowSurrogate"), (199, u "$assertionsDisabled"), (0, u "Z"), (21, .class_ 309), (1, u "java/lang/Character$UnicodeBlock"), (73, u "TYPE"), (0, u "Ljava/lang/Class;"), (0, .class_ 386), (0, u "java/io/Serializable"), (0, .class_ 388), (0, u "java/lang/Comparable"), (0, .class_ 390), (0, u "java/lang/constant/Constable"), (0, u "MIN_RADIX"), (0, u "I"), (2, u "MAX_RADIX"), (1, u "MIN_VALUE"), (1, u "MAX_VALUE"), (3, u "UNASSIGNED"), (0, u "B"), (0, u "UPPERCASE_LETTER"), (1, u "LOWERCASE_LETTER"), (0, u "TITLECASE_LETTER"), (1, u "MODIFIER_LETTER"), (1, u "OTHER_LETTER"), (1, u "NON_SPACING_MARK"), (1, u "ENCLOSING_MARK"), (1, u "COMBINING_SPACING_MARK"), (1, u "DECIMAL_DIGIT_NUMBER"), (1, u "LETTER_NUMBER"), (1, u "OTHER_NUMBER"), (1, u "SPACE_SEPARATOR"), (1, u "LINE_SEPARATOR"), (1, u "PARAGRAPH_SEPARATOR"), (1, u "CONTROL"), (1, u "FORMAT"), (1, u "PRIVATE_USE"), (1, u "SURROGATE"), (1, u "DASH_PUNCTUATION"), (1, u "START_PUNCTUATION"), (1, u "END_PUNCTUATION"), (1, u "CONNECTOR_PUNCTUATION"), (1, u "OTHER_PUNCTUATION"), (1, u "MATH_SYMBOL"), (1, u "CURRENCY_SYMBOL"), (1, u "MODIFIER_SYMBOL"), (1, u "OTHER_SYMBOL"), (1, u "INITIAL_QUOTE_PUNCTUATION"), (1, u "FINAL_QUOTE_PUNCTUATION"), (1, u "ERROR"), (1, u "DIRECTIONALITY_UNDEFINED"), (0, u "DIRECTIONALITY_LEFT_TO_RIGHT"), (0, u "DIRECTIONALITY_RIGHT_TO_LEFT"), (0, u "DIRECTIONALITY_RIGHT_TO_LEFT_ARABIC"), (0, u "DIRECTIONALITY_EUROPEAN_NUMBER"), (0, u "DIRECTIONALITY_EUROPEAN_NUMBER_SEPARATOR"), (0, u "DIRECTIONALITY_EUROPEAN_NUMBER_TERMINATOR"), (0, u "DIRECTIONALITY_ARABIC_NUMBER"), (0, u "DIRECTIONALITY_COMMON_NUMBER_SEPARATOR"), (0, u "DIRECTIONALITY_NONSPACING_MARK"), (0, u "DIRECTIONALITY_BOUNDARY_NEUTRAL"), (0, u "DIRECTIONALITY_PARAGRAPH_SEPARATOR"), (0, u "DIRECTIONALITY_SEGMENT_SEPARATOR"), (0, u "DIRECTIONALITY_WHITESPACE"), (0, u "DIRECTIONALITY_OTHER_NEUTRALS"), (0, u "DIRECTIONALITY_LEFT_TO_RIGHT_EMBEDDING"), (0, u "DIRECTIONALITY_LEFT_TO_RIGHT_OVERRIDE"), (0, u "DIRECTIONALITY_RIGHT_TO_LEFT_EMBEDDING"), (0, u "DIRECTIONALITY_RIGHT_TO_LEFT_OVERRIDE"), (1, u "DIRECTIONALITY_POP_DIRECTIONAL_FORMAT"), (0, u "DIRECTIONALITY_LEFT_TO_RIGHT_ISOLATE"), (0, u "DIRECTIONALITY_RIGHT_TO_LEFT_ISOLATE"), (0, u "DIRECTIONALITY_FIRST_STRONG_ISOLATE"), (0, u "DIRECTIONALITY_POP_DIRECTIONAL_ISOLATE"), (0, u "MIN_HIGH_SURROGATE"), (0, u "MAX_HIGH_SURROGATE"), (1, u "MIN_LOW_SURROGATE"), (0, u "MAX_LOW_SURROGATE"), (1, u "MIN_SURROGATE"), (0, u "MAX_SURROGATE"), (0, u "MIN_SUPPLEMENTARY_CODE_POINT"), (0, u "MIN_CODE_POINT"), (0, u "MAX_CODE_POINT"), (1, u "serialVersionUID"), (0, u "J"), (2, u "SIZE"), (0, u "BYTES"), (88, .class_ 596), (0, u "java/lang/Character$UnicodeScript"), (0, .class_ 598), (0, u "java/lang/Character$Subset")] 5

def k12c0 : Code := { maxStack := 2, maxLocals := 1, code := jdk_89_method_14_code, exceptionTable := #[], attributes := #[] }
def k12m0 : Method := { name := "isHighSurrogate", desc := "(C)Z", sig := { parameters := [.char], returnType := some .boolean }, accessFlags := 9, code := some k12c0 }
def k12c1 : Code := { maxStack := 2, maxLocals := 1, code := jdk_89_method_15_code, exceptionTable := #[], attributes := #[] }
def k12m1 : Method := { name := "isLowSurrogate", desc := "(C)Z", sig := { parameters := [.char], returnType := some .boolean }, accessFlags := 9, code := some k12c1 }
/-- java/lang/Character -/
def k12 : Class := { plain "java/lang/Character" (some 0) with
  accessFlags := 49
  interfaces := #[2, 3, 5]
  cf := some (fileOf pool12 1 #[.nestMembers #[48, 595, 307, 597]] #[{ accessFlags := 9, nameIndex := 80, descriptorIndex := 81, attributes := #[] }, { accessFlags := 9, nameIndex := 84, descriptorIndex := 81, attributes := #[] }] 49 42 #[385, 387, 389] #[{ accessFlags := 25, nameIndex := 391, descriptorIndex := 392, attributes := #[] }, { accessFlags := 25, nameIndex := 395, descriptorIndex := 392, attributes := #[] }, { accessFlags := 25, nameIndex := 397, descriptorIndex := 22, attributes := #[] }, { accessFlags := 25, nameIndex := 399, descriptorIndex := 22, attributes := #[] }, { accessFlags := 25, nameIndex := 383, descriptorIndex := 384, attributes := #[] }, { accessFlags := 25, nameIndex := 403, descriptorIndex := 404, attributes := #[] }, { accessFlags := 25, nameIndex := 405, descriptorIndex := 404, attributes := #[] }, { accessFlags := 25, nameIndex := 407, descriptorIndex := 404, attributes := #[] }, { accessFlags := 25, nameIndex := 408, descriptorIndex := 404, attributes := #[] }, { accessFlags := 25, nameIndex := 410, descriptorIndex := 404, attributes := #[] }, { accessFlags := 25, nameIndex := 412, descriptorIndex := 404, attributes := #[] }, { accessFlags := 25, nameIndex := 414, descriptorIndex := 404, attributes := #[] }, { accessFlags := 25, nameIndex := 416, descriptorIndex := 404, attributes := #[] }, { accessFlags := 25, nameIndex := 418, descriptorIndex := 404, attributes := #[] }, { accessFlags := 25, nameIndex := 420, descriptorIndex := 404, attributes := #[] }, { accessFlags := 25, nameIndex := 422, descriptorIndex := 404, attributes := #[] }, { accessFlags := 25, nameIndex := 424, descriptorIndex := 404, attributes := #[] }, { accessFlags := 25, nameIndex := 426, descriptorIndex := 404, attributes := #[] }, { accessFlags := 25, nameIndex := 428, descriptorIndex := 404, attributes := #[] }, { accessFlags := 25, nameIndex := 430, descriptorIndex := 404, attributes := #[] }, { accessFlags := 25, nameIndex := 432, descriptorIndex := 404, attributes := #[] }, { accessFlags := 25, nameIndex := 434, descriptorIndex := 404, attributes := #[] }, { accessFlags := 25, nameIndex := 436, descriptorIndex := 404, attributes := #[] }, { accessFlags := 25, nameIndex := 438, descriptorIndex := 404, attributes := #[] }, { accessFlags := 25, nameIndex := 440, descriptorIndex := 404, attributes := #[] }, { accessFlags := 25, nameIndex := 442, descriptorIndex := 404, attributes := #[] }, { accessFlags := 25, nameIndex := 444, descriptorIndex := 404, attributes := #[] }, { accessFlags := 25, nameIndex := 446, descriptorIndex := 404, attributes := #[] }, { accessFlags := 25, nameIndex := 448, descriptorIndex := 404, attributes := #[] }, { accessFlags := 25, nameIndex := 450, descriptorIndex := 404, attributes := #[] }, { accessFlags := 25, nameIndex := 452, descriptorIndex := 404, attributes := #[] }, { accessFlags := 25, nameIndex := 454, descriptorIndex := 404, attributes := #[] }, { accessFlags := 25, nameIndex := 456, descriptorIndex := 404, attributes := #[] }, { accessFlags := 25, nameIndex := 458, descriptorIndex := 404, attributes := #[] }, { accessFlags := 25, nameIndex := 460, descriptorIndex := 404, attributes := #[] }, { accessFlags := 24, nameIndex := 462, descriptorIndex := 392, attributes := #[] }, { accessFlags := 25, nameIndex := 464, descriptorIndex := 404, attributes := #[] }, { accessFlags := 25, nameIndex := 465, descriptorIndex := 404, attributes := #[] }, { accessFlags := 25, nameIndex := 466, descriptorIndex := 404, attributes := #[] }, { accessFlags := 25, nameIndex := 467, descriptorIndex := 404, attributes := #[] }, { accessFlags := 25, nameIndex := 468, descriptorIndex := 404, attributes := #[] }, { accessFlags := 25, nameIndex := 469, descriptorIndex := 404, attributes := #[] }, { accessFlags := 25, nameIndex := 470, descriptorIndex := 404, attributes := #[] }, { accessFlags := 25, nameIndex := 471, descriptorIndex := 404, attributes := #[] }, { accessFlags := 25, nameIndex := 472, descriptorIndex := 404, attributes := #[] }, { accessFlags := 25, nameIndex := 473, descriptorIndex := 404, attributes := #[] }, { accessFlags := 25, nameIndex := 474, descriptorIndex := 404, attributes := #[] }, { accessFlags := 25, nameIndex := 475, descriptorIndex := 404, attributes := #[] }, { accessFlags := 25, nameIndex := 476, descriptorIndex := 404, attributes := #[] }, { accessFlags := 25, nameIndex := 477, descriptorIndex := 404, attributes := #[] }, { accessFlags := 25, nameIndex := 478, descriptorIndex := 404, attributes := #[] }, { accessFlags := 25, nameIndex := 479, descriptorIndex := 404, attributes := #[] }, { accessFlags := 25, nameIndex := 480, descriptorIndex := 404, attributes := #[] }, { accessFlags := 25, nameIndex := 481, descriptorIndex := 404, attributes := #[] }, { accessFlags := 25, nameIndex := 482, descriptorIndex := 404, attributes := #[] }, { accessFlags := 25, nameIndex := 484, descriptorIndex := 404, attributes := #[] }, { accessFlags := 25, nameIndex := 485, descriptorIndex := 404, attributes := #[] }, { accessFlags := 25, nameIndex := 486, descriptorIndex := 404, attributes := #[] }, { accessFlags := 25, nameIndex := 487, descriptorIndex := 404, attributes := #[] }, { accessFlags := 25, nameIndex := 488, descriptorIndex := 404, attributes := #[] }, { accessFlags := 25, nameIndex := 489, descriptorIndex := 22, attributes := #[] }, { accessFlags := 25, nameIndex := 490, descriptorIndex := 22, attributes := #[] }, { accessFlags := 25, nameIndex := 492, descriptorIndex := 22, attributes := #[] }, { accessFlags := 25, nameIndex := 493, descriptorIndex := 22, attributes := #[] }, { accessFlags := 25, nameIndex := 495, descriptorIndex := 22, attributes := #[] }, { accessFlags := 25, nameIndex := 496, descriptorIndex := 22, attributes := #[] }, { accessFlags := 25, nameIndex := 497, descriptorIndex := 392, attributes := #[] }, { accessFlags := 25, nameIndex := 498, descriptorIndex := 392, attributes := #[] }, { accessFlags := 25, nameIndex := 499, descriptorIndex := 392, attributes := #[] }, { accessFlags := 18, nameIndex := 21, descriptorIndex := 22, attributes := #[] }, { accessFlags := 26, nameIndex := 501, descriptorIndex := 502, attributes := #[] }, { accessFlags := 25, nameIndex := 505, descriptorIndex := 392, attributes := #[] }, { accessFlags := 25, nameIndex := 506, descriptorIndex := 392, attributes := #[] }, { accessFlags := 4120, nameIndex := 284, descriptorIndex := 285, attributes := #[] }])
  fields := #[{ name := "MIN_RADIX", type := .int, accessFlags := 25, slot := 0, constantValue := 0 }, { name := "MAX_RADIX", type := .int, accessFlags := 25, slot := 1, constantValue := 0 }, { name := "MIN_VALUE", type := .char, accessFlags := 25, slot := 2, constantValue := 0 }, { name := "MAX_VALUE", type := .char, accessFlags := 25, slot := 3, constantValue := 0 }, { name := "TYPE", type := (.object "java/lang/Class"), accessFlags := 25, slot := 4, constantValue := 0 }, { name := "UNASSIGNED", type := .byte, accessFlags := 25, slot := 5, constantValue := 0 }, { name := "UPPERCASE_LETTER", type := .byte, accessFlags := 25, slot := 6, constantValue := 0 }, { name := "LOWERCASE_LETTER", type := .byte, accessFlags := 25, slot := 7, constantValue := 0 }, { name := "TITLECASE_LETTER", type := .byte, accessFlags := 25, slot := 8, constantValue := 0 }, { name := "MODIFIER_LETTER", type := .byte, accessFlags := 25, slot := 9, constantValue := 0 }, { name := "OTHER_LETTER", type := .byte, accessFlags := 25, slot := 10, constantValue := 0 }, { name := "NON_SPACING_MARK", type := .byte, accessFlags := 25, slot := 11, constantValue := 0 }, { name := "ENCLOSING_MARK", type := .byte, accessFlags := 25, slot := 12, constantValue := 0 }, { name := "COMBINING_SPACING_MARK", type := .byte, accessFlags := 25, slot := 13, constantValue := 0 }, { name := "DECIMAL_DIGIT_NUMBER", type := .byte, accessFlags := 25, slot := 14, constantValue := 0 }, { name := "LETTER_NUMBER", type := .byte, accessFlags := 25, slot := 15, constantValue := 0 }, { name := "OTHER_NUMBER", type := .byte, accessFlags := 25, slot := 16, constantValue := 0 }, { name := "SPACE_SEPARATOR", type := .byte, accessFlags := 25, slot := 17, constantValue := 0 }, { name := "LINE_SEPARATOR", type := .byte, accessFlags := 25, slot := 18, constantValue := 0 }, { name := "PARAGRAPH_SEPARATOR", type := .byte, accessFlags := 25, slot := 19, constantValue := 0 }, { name := "CONTROL", type := .byte, accessFlags := 25, slot := 20, constantValue := 0 }, { name := "FORMAT", type := .byte, accessFlags := 25, slot := 21, constantValue := 0 }, { name := "PRIVATE_USE", type := .byte, accessFlags := 25, slot := 22, constantValue := 0 }, { name := "SURROGATE", type := .byte, accessFlags := 25, slot := 23, constantValue := 0 }, { name := "DASH_PUNCTUATION", type := .byte, accessFlags := 25, slot := 24, constantValue := 0 }, { name := "START_PUNCTUATION", type := .byte, accessFlags := 25, slot := 25, constantValue := 0 }, { name := "END_PUNCTUATION", type := .byte, accessFlags := 25, slot := 26, constantValue := 0 }, { name := "CONNECTOR_PUNCTUATION", type := .byte, accessFlags := 25, slot := 27, constantValue := 0 }, { name := "OTHER_PUNCTUATION", type := .byte, accessFlags := 25, slot := 28, constantValue := 0 }, { name := "MATH_SYMBOL", type := .byte, accessFlags := 25, slot := 29, constantValue := 0 }, { name := "CURRENCY_SYMBOL", type := .byte, accessFlags := 25, slot := 30, constantValue := 0 }, { name := "MODIFIER_SYMBOL", type := .byte, accessFlags := 25, slot := 31, constantValue := 0 }, { name := "OTHER_SYMBOL", type := .byte, accessFlags := 25, slot := 32, constantValue := 0 }, { name := "INITIAL_QUOTE_PUNCTUATION", type := .byte, accessFlags := 25, slot := 33, constantValue := 0 }, { name := "FINAL_QUOTE_PUNCTUATION", type := .byte, accessFlags := 25, slot := 34, constantValue := 0 }, { name := "ERROR", type := .int, accessFlags := 24, slot := 35, constantValue := 0 }, { name := "DIRECTIONALITY_UNDEFINED", type := .byte, accessFlags := 25, slot := 36, constantValue := 0 }, { name := "DIRECTIONALITY_LEFT_TO_RIGHT", type := .byte, accessFlags := 25, slot := 37, constantValue := 0 }, { name := "DIRECTIONALITY_RIGHT_TO_LEFT", type := .byte, accessFlags := 25, slot := 38, constantValue := 0 }, { name := "DIRECTIONALITY_RIGHT_TO_LEFT_ARABIC", type := .byte, accessFlags := 25, slot := 39, constantValue := 0 }, { name := "DIRECTIONALITY_EUROPEAN_NUMBER", type := .byte, accessFlags := 25, slot := 40, constantValue := 0 }, { name := "DIRECTIONALITY_EUROPEAN_NUMBER_SEPARATOR", type := .byte, accessFlags := 25, slot := 41, constantValue := 0 }, { name := "DIRECTIONALITY_EUROPEAN_NUMBER_TERMINATOR", type := .byte, accessFlags := 25, slot := 42, constantValue := 0 }, { name := "DIRECTIONALITY_ARABIC_NUMBER", type := .byte, accessFlags := 25, slot := 43, constantValue := 0 }, { name := "DIRECTIONALITY_COMMON_NUMBER_SEPARATOR", type := .byte, accessFlags := 25, slot := 44, constantValue := 0 }, { name := "DIRECTIONALITY_NONSPACING_MARK", type := .byte, accessFlags := 25, slot := 45, constantValue := 0 }, { name := "DIRECTIONALITY_BOUNDARY_NEUTRAL", type := .byte, accessFlags := 25, slot := 46, constantValue := 0 }, { name := "DIRECTIONALITY_PARAGRAPH_SEPARATOR", type := .byte, accessFlags := 25, slot := 47, constantValue := 0 }, { name := "DIRECTIONALITY_SEGMENT_SEPARATOR", type := .byte, accessFlags := 25, slot := 48, constantValue := 0 }, { name := "DIRECTIONALITY_WHITESPACE", type := .byte, accessFlags := 25, slot := 49, constantValue := 0 }, { name := "DIRECTIONALITY_OTHER_NEUTRALS", type := .byte, accessFlags := 25, slot := 50, constantValue := 0 }, { name := "DIRECTIONALITY_LEFT_TO_RIGHT_EMBEDDING", type := .byte, accessFlags := 25, slot := 51, constantValue := 0 }, { name := "DIRECTIONALITY_LEFT_TO_RIGHT_OVERRIDE", type := .byte, accessFlags := 25, slot := 52, constantValue := 0 }, { name := "DIRECTIONALITY_RIGHT_TO_LEFT_EMBEDDING", type := .byte, accessFlags := 25, slot := 53, constantValue := 0 }, { name := "DIRECTIONALITY_RIGHT_TO_LEFT_OVERRIDE", type := .byte, accessFlags := 25, slot := 54, constantValue := 0 }, { name := "DIRECTIONALITY_POP_DIRECTIONAL_FORMAT", type := .byte, accessFlags := 25, slot := 55, constantValue := 0 }, { name := "DIRECTIONALITY_LEFT_TO_RIGHT_ISOLATE", type := .byte, accessFlags := 25, slot := 56, constantValue := 0 }, { name := "DIRECTIONALITY_RIGHT_TO_LEFT_ISOLATE", type := .byte, accessFlags := 25, slot := 57, constantValue := 0 }, { name := "DIRECTIONALITY_FIRST_STRONG_ISOLATE", type := .byte, accessFlags := 25, slot := 58, constantValue := 0 }, { name := "DIRECTIONALITY_POP_DIRECTIONAL_ISOLATE", type := .byte, accessFlags := 25, slot := 59, constantValue := 0 }, { name := "MIN_HIGH_SURROGATE", type := .char, accessFlags := 25, slot := 60, constantValue := 0 }, { name := "MAX_HIGH_SURROGATE", type := .char, accessFlags := 25, slot := 61, constantValue := 0 }, { name := "MIN_LOW_SURROGATE", type := .char, accessFlags := 25, slot := 62, constantValue := 0 }, { name := "MAX_LOW_SURROGATE", type := .char, accessFlags := 25, slot := 63, constantValue := 0 }, { name := "MIN_SURROGATE", type := .char, accessFlags := 25, slot := 64, constantValue := 0 }, { name := "MAX_SURROGATE", type := .char, accessFlags := 25, slot := 65, constantValue := 0 }, { name := "MIN_SUPPLEMENTARY_CODE_POINT", type := .int, accessFlags := 25, slot := 66, constantValue := 0 }, { name := "MIN_CODE_POINT", type := .int, accessFlags := 25, slot := 67, constantValue := 0 }, { name := "MAX_CODE_POINT", type := .int, accessFlags := 25, slot := 68, constantValue := 0 }, { name := "value", type := .char, accessFlags := 18, slot := 0, constantValue := 0 }, { name := "serialVersionUID", type := .long, accessFlags := 26, slot := 69, constantValue := 0 }, { name := "SIZE", type := .int, accessFlags := 25, slot := 70, constantValue := 0 }, { name := "BYTES", type := .int, accessFlags := 25, slot := 71, constantValue := 0 }, { name := "$assertionsDisabled", type := .boolean, accessFlags := 4120, slot := 72, constantValue := 0 }]
  methods := #[k12m0, k12m1]
  instanceTypes := #[.char]
  staticTypes := #[.int, .int, .char, .char, (.object "java/lang/Class"), .byte, .byte, .byte, .byte, .byte, .byte, .byte, .byte, .byte, .byte, .byte, .byte, .byte, .byte, .byte, .byte, .byte, .byte, .byte, .byte, .byte, .byte, .byte, .byte, .byte, .byte, .byte, .byte, .byte, .byte, .int, .byte, .byte, .byte, .byte, .byte, .byte, .byte, .byte, .byte, .byte, .byte, .byte, .byte, .byte, .byte, .byte, .byte, .byte, .byte, .byte, .byte, .byte, .byte, .byte, .char, .char, .char, .char, .char, .char, .int, .int, .int, .long, .int, .int, .boolean]
  resolved := Array.replicate 604 none
  statics := none }

def pool13 : Array CpInfo := pool [(4, .class_ 6), (1, u "java/lang/Object"), (0, u "<init>"), (0, u "()V"), (5, .class_ 16), (1, u "java/lang/StringLatin1"), (104, u "$assertionsDisabled"), (0, u "Z"), (98, .class_ 223), (1, u "java/lang/StringLatin1$LinesSpliterator"), (166, .class_ 391), (0, u "java/lang/StringLatin1$CharsSpliterator")] 3

def k13m0 : Method := { name := "<init>", desc := "()V", sig := { parameters := [], returnType := none }, accessFlags := 0, code := none }
/-- java/lang/StringLatin1 -/
def k13 : Class := { plain "java/lang/StringLatin1" (some 0) with
  accessFlags := 48
  interfaces := #[]
  cf := some (fileOf pool13 14 #[.nestMembers #[390, 221]] #[{ accessFlags := 0, nameIndex := 7, descriptorIndex := 8, attributes := #[] }] 48 4 #[] #[{ accessFlags := 4120, nameIndex := 121, descriptorIndex := 122, attributes := #[] }])
  fields := #[{ name := "$assertionsDisabled", type := .boolean, accessFlags := 4120, slot := 0, constantValue := 0 }]
  methods := #[k13m0]
  instanceTypes := #[]
  staticTypes := #[.boolean]
  resolved := Array.replicate 395 none
  statics := none }

def pool14 : Array CpInfo := pool [(9, u "<init>"), (6, .class_ 18), (1, u "java/lang/Object"), (0, u "()V"), (1, .class_ 23), (1, u "jdk/internal/util/ArraysSupport"), (0, u "LOG2_ARRAY_LONG_INDEX_SCALE"), (0, u "I"), (2, u "U"), (0, u "Ljdk/internal/misc/Unsafe;"), (8, u "BIG_ENDIAN"), (0, u "Z"), (8, u "LOG2_BYTE_BIT_SIZE"), (4, u "LOG2_ARRAY_INT_INDEX_SCALE"), (54, u "JLA"), (0, u "Ljdk/internal/access/JavaLangAccess;"), (11, u "LOG2_ARRAY_BOOLEAN_INDEX_SCALE"), (9, u "LOG2_ARRAY_BYTE_INDEX_SCALE"), (5, u "LOG2_ARRAY_CHAR_INDEX_SCALE"), (5, u "LOG2_ARRAY_SHORT_INDEX_SCALE"), (18, u "LOG2_ARRAY_FLOAT_INDEX_SCALE"), (24, u "LOG2_ARRAY_DOUBLE_INDEX_SCALE"), (89, u "T_BOOLEAN"), (2, u "T_CHAR"), (1, u "T_FLOAT"), (1, u "T_DOUBLE"), (1, u "T_BYTE"), (1, u "T_SHORT"), (1, u "T_INT"), (1, u "T_LONG"), (1, u "SOFT_MAX_ARRAY_LENGTH")] 83

def k14m0 : Method := { name := "<init>", desc := "()V", sig := { parameters := [], returnType := none }, accessFlags := 2, code := none }
/-- jdk/internal/util/ArraysSupport -/
def k14 : Class := { plain "jdk/internal/util/ArraysSupport" (some 0) with
  accessFlags := 33
  interfaces := #[]
  cf := some (fileOf pool14 21 #[] #[{ accessFlags := 2, nameIndex := 9, descriptorIndex := 19, attributes := #[] }] 33 16 #[] #[{ accessFlags := 24, nameIndex := 28, descriptorIndex := 29, attributes := #[] }, { accessFlags := 26, nameIndex := 38, descriptorIndex := 39, attributes := #[] }, { accessFlags := 25, nameIndex := 121, descriptorIndex := 25, attributes := #[] }, { accessFlags := 25, nameIndex := 131, descriptorIndex := 25, attributes := #[] }, { accessFlags := 25, nameIndex := 137, descriptorIndex := 25, attributes := #[] }, { accessFlags := 25, nameIndex := 143, descriptorIndex := 25, attributes := #[] }, { accessFlags := 25, nameIndex := 53, descriptorIndex := 25, attributes := #[] }, { accessFlags := 25, nameIndex := 24, descriptorIndex := 25, attributes := #[] }, { accessFlags := 25, nameIndex := 162, descriptorIndex := 25, attributes := #[] }, { accessFlags := 25, nameIndex := 187, descriptorIndex := 25, attributes := #[] }, { accessFlags := 26, nameIndex := 48, descriptorIndex := 25, attributes := #[] }, { accessFlags := 25, nameIndex := 277, descriptorIndex := 25, attributes := #[] }, { accessFlags := 25, nameIndex := 280, descriptorIndex := 25, attributes := #[] }, { accessFlags := 25, nameIndex := 282, descriptorIndex := 25, attributes := #[] }, { accessFlags := 25, nameIndex := 284, descriptorIndex := 25, attributes := #[] }, { accessFlags := 25, nameIndex := 286, descriptorIndex := 25, attributes := #[] }, { accessFlags := 25, nameIndex := 288, descriptorIndex := 25, attributes := #[] }, { accessFlags := 25, nameIndex := 290, descriptorIndex := 25, attributes := #[] }, { accessFlags := 25, nameIndex := 292, descriptorIndex := 25, attributes := #[] }, { accessFlags := 26, nameIndex := 108, descriptorIndex := 109, attributes := #[] }, { accessFlags := 25, nameIndex := 294, descriptorIndex := 25, attributes := #[] }])
  fields := #[{ name := "U", type := (.object "jdk/internal/misc/Unsafe"), accessFlags := 24, slot := 0, constantValue := 0 }, { name := "BIG_ENDIAN", type := .boolean, accessFlags := 26, slot := 1, constantValue := 0 }, { name := "LOG2_ARRAY_BOOLEAN_INDEX_SCALE", type := .int, accessFlags := 25, slot := 2, constantValue := 0 }, { name := "LOG2_ARRAY_BYTE_INDEX_SCALE", type := .int, accessFlags := 25, slot := 3, constantValue := 0 }, { name := "LOG2_ARRAY_CHAR_INDEX_SCALE", type := .int, accessFlags := 25, slot := 4, constantValue := 0 }, { name := "LOG2_ARRAY_SHORT_INDEX_SCALE", type := .int, accessFlags := 25, slot := 5, constantValue := 0 }, { name := "LOG2_ARRAY_INT_INDEX_SCALE", type := .int, accessFlags := 25, slot := 6, constantValue := 0 }, { name := "LOG2_ARRAY_LONG_INDEX_SCALE", type := .int, accessFlags := 25, slot := 7, constantValue := 0 }, { name := "LOG2_ARRAY_FLOAT_INDEX_SCALE", type := .int, accessFlags := 25, slot := 8, constantValue := 0 }, { name := "LOG2_ARRAY_DOUBLE_INDEX_SCALE", type := .int, accessFlags := 25, slot := 9, constantValue := 0 }, { name := "LOG2_BYTE_BIT_SIZE", type := .int, accessFlags := 26, slot := 10, constantValue := 0 }, { name := "T_BOOLEAN", type := .int, accessFlags := 25, slot := 11, constantValue := 0 }, { name := "T_CHAR", type := .int, accessFlags := 25, slot := 12, constantValue := 0 }, { name := "T_FLOAT", type := .int, accessFlags := 25, slot := 13, constantValue := 0 }, { name := "T_DOUBLE", type := .int, accessFlags := 25, slot := 14, constantValue := 0 }, { name := "T_BYTE", type := .int, accessFlags := 25, slot := 15, constantValue := 0 }, { name := "T_SHORT", type := .int, accessFlags := 25, slot := 16, constantValue := 0 }, { name := "T_INT", type := .int, accessFlags := 25, slot := 17, constantValue := 0 }, { name := "T_LONG", type := .int, accessFlags := 25, slot := 18, constantValue := 0 }, { name := "JLA", type := (.object "jdk/internal/access/JavaLangAccess"), accessFlags := 26, slot := 19, constantValue := 0 }, { name := "SOFT_MAX_ARRAY_LENGTH", type := .int, accessFlags := 25, slot := 20, constantValue := 0 }]
  methods := #[k14m0]
  instanceTypes := #[]
  staticTypes := #[(.object "jdk/internal/misc/Unsafe"), .boolean, .int, .int, .int, .int, .int, .int, .int, .int, .int, .int, .int, .int, .int, .int, .int, .int, .int, (.object "jdk/internal/access/JavaLangAccess"), .int]
  resolved := Array.replicate 378 none
  statics := none }

def pool15 : Array CpInfo := pool [(1, u "java/lang/Cloneable"), (0, .class_ 1), (0, u "java/lang/Object"), (0, .class_ 3)] 3

/-- java/lang/Cloneable -/
def k15 : Class := { plain "java/lang/Cloneable" (some 0) with
  accessFlags := 1537
  interfaces := #[]
  cf := some (fileOf pool15 2 #[] #[] 1537 4 #[] #[])
  fields := #[]
  methods := #[]
  instanceTypes := #[]
  staticTypes := #[]
  resolved := Array.replicate 8 none
  statics := none }

/-- the primitive byte -/
def k16 : Class := { plain "byte" none with kind := .primitive 'B', accessFlags := 0x411 }
/-- [B -/
def k17 : Class := { plain "[B" (some 0) with kind := .array 16 .byte, interfaces := #[15, 2], accessFlags := 1041 }

/-- the primitive char -/
def k18 : Class := { plain "char" none with kind := .primitive 'C', accessFlags := 0x411 }
/-- [C -/
def k19 : Class := { plain "[C" (some 0) with kind := .array 18 .char, interfaces := #[15, 2], accessFlags := 1041 }

/-- the primitive int -/
def k20 : Class := { plain "int" none with kind := .primitive 'I', accessFlags := 0x411 }
/-- [I -/
def k21 : Class := { plain "[I" (some 0) with kind := .array 20 .int, interfaces := #[15, 2], accessFlags := 1041 }

def heap : Heap := #[{ cls := 7, slots := #[.long 0, .int 1, .null, .int 0, .null, .int 0, .int 0], vm := .statics 7 },
  { cls := 9, slots := #[.int 0, .int 8, .int 0, .int 1], vm := .statics 9 },
  { cls := 11, slots := #[.null, .null, .null], vm := .statics 11 }]
def classes : Array Class := #[k0, k1, k2, k3, k4, k5, k6, k7, k8, k9, k10, k11, k12, k13, k14, k15, k16, k17, k18, k19, k20, k21]
def interned : List (Array UInt16 × Addr) := []
def slotsUsed : Nat := 14
def theMethod : MethodId := ⟨1, 6⟩
def args0 : Array Value := #[.int 1, .int 2, .int 3, .int 1, .int 2, .int 3]
def aboutOver (below : List Frame) : State where
  vm := { classes := classes, interned := interned.toArray }
  heap := heap
  slotsUsed := slotsUsed
  threads := #[{ frames := .invoking theMethod args0 :: below }]
def below0 : List Frame := [.native { method := ⟨0, 0⟩, args := #[] }]
def about1 : State := aboutOver below0
def p0 : Program := .bare "" "" ""
def e0 : Env := launch0.env 0 0 0
theorem w_frames : about1.frames = Frame.invoking theMethod args0 :: below0 := rfl
set_option maxRecDepth 65536 in
theorem w_args : argsFit about1.vm theMethod args0 = true := by decide +kernel
set_option maxRecDepth 65536 in
theorem w_heap : heapFits about1 = true := by decide +kernel
set_option maxRecDepth 65536 in
theorem w_runnable : about1.curStatus? = some .runnable := by decide +kernel
set_option maxRecDepth 65536 in
theorem w_alone : about1.alone = true := by decide +kernel
set_option maxRecDepth 65536 in
theorem w_named : about1.methodNamed? x = some theMethod := by decide +kernel
set_option maxRecDepth 65536 in
theorem w_hears : about1.hears theMethod below0 = true := by decide +kernel
set_option maxRecDepth 65536 in
theorem w_ripe : about1.ripe theMethod args0 below0 = true := by decide +kernel
theorem w_running : about1.status = .running := rfl
set_option maxRecDepth 65536 in
theorem w_room : about1.hasRoom e0.platform room_1 = true :=
  launch0.hasRoom_least _ room_1 (by decide +kernel) (by decide +kernel) (by decide +kernel) (by decide +kernel) (by decide +kernel) (by decide +kernel)
theorem allAtoms_all (ts : List Jvm.Cond) (a : Array Jvm.Value) (st : Jvm.State) : (allAtoms ts).before a st = ts.all (fun c => c.before a st) := by
  induction ts with
  | nil => rfl
  | cons c t ih =>
    show (Jvm.Cond.and c (allAtoms t)).before a st = _
    rw [Jvm.Cond.before_and, ih, List.all_cons]
def words1 : List Jvm.Cond := Jvm.Cond.code x code maxLocals ret :: tables_1
/-- a 'code' word, met by the world's own term for the bytes: nothing is compared byte by byte -/
theorem code_word {y : MethodName} {bytes : ByteArray} {mx : Nat} {rt : Option FieldType} {a : Array Value} {s : State} {m : MethodId} {meth : Method} {c : Code} (h1 : s.methodNamed? y = some m) (h2 : s.vm.method? m = some meth) (h3 : meth.code = some c) (h4 : c.code = bytes)
    (h5 : (c.maxLocals == mx && c.exceptionTable.isEmpty && decide (c.maxStack ≤ mostOperands) && decide (meth.sig.returnType = rt) && !meth.locks && decide (parseMethodDescriptor y.desc = some meth.sig)) = true) : (Jvm.Cond.code y bytes mx rt).before a s = true := by
  simp only [Bool.and_eq_true, beq_iff_eq, Bool.not_eq_true', decide_eq_true_eq] at h5
  obtain ⟨⟨⟨⟨⟨g1, g2⟩, g3⟩, g4⟩, g5⟩, g6⟩ := h5
  simp [Cond.before, Cond.holds, Cond.value, h1, h2, h3, h4, g1, g2, g3, g4, g5, g6]
def isCode : Jvm.Cond → Bool
  | .code _ _ _ _ => true
  | _ => false
theorem all_split {L : List Jvm.Cond} {P : Jvm.Cond → Bool} (h1 : L.all (fun c => isCode c || P c) = true) (h2 : ∀ c ∈ L.filter isCode, P c = true) : L.all P = true := by
  refine List.all_eq_true.mpr fun c hc => ?_
  have h := List.all_eq_true.mp h1 c hc
  rcases Bool.eq_false_or_eq_true (isCode c) with hi | hi
  · exact h2 c (List.mem_filter.mpr ⟨hc, hi⟩)
  · simpa [hi] using h
set_option maxRecDepth 65536 in
theorem w_c0 : (Jvm.Cond.code x code maxLocals ret).before args0 about1 = true := code_word (m := ⟨1, 6⟩) (meth := k1m6) (c := k1c6) (by decide +kernel) rfl rfl rfl (by decide +kernel)
set_option maxRecDepth 65536 in
theorem w_c1 : (Jvm.Cond.code ({ cls := "com/example/outbound_courier/outboundcourier/util/CharactersIsOneToPinLaw", name := "pick", desc := "(I)C" } : Jvm.MethodName) method_2_code (3 : Nat) (Option.some Jvm.ClassFile.FieldType.char)).before args0 about1 = true := code_word (m := ⟨1, 1⟩) (meth := k1m1) (c := k1c1) (by decide +kernel) rfl rfl rfl (by decide +kernel)
set_option maxRecDepth 65536 in
theorem w_c2 : (Jvm.Cond.code ({ cls := "com/example/outbound_courier/outboundcourier/util/CharactersIsOneToPinLaw", name := "make", desc := "(ICCCC)Ljava/lang/String;" } : Jvm.MethodName) method_6_code (6 : Nat) (Option.some (Jvm.ClassFile.FieldType.object "java/lang/String"))).before args0 about1 = true := code_word (m := ⟨1, 5⟩) (meth := k1m5) (c := k1c5) (by decide +kernel) rfl rfl rfl (by decide +kernel)
set_option maxRecDepth 65536 in
theorem w_c3 : (Jvm.Cond.code ({ cls := "java/lang/String", name := "<init>", desc := "([C)V" } : Jvm.MethodName) jdk_42_method_3_code (2 : Nat) (Option.none : Option Jvm.ClassFile.FieldType)).before args0 about1 = true := code_word (m := ⟨7, 1⟩) (meth := k7m1) (c := k7c1) (by decide +kernel) rfl rfl rfl (by decide +kernel)
set_option maxRecDepth 65536 in
theorem w_c4 : (Jvm.Cond.code ({ cls := "java/lang/String", name := "<init>", desc := "([CIILjava/lang/Void;)V" } : Jvm.MethodName) jdk_42_method_149_code (6 : Nat) (Option.none : Option Jvm.ClassFile.FieldType)).before args0 about1 = true := code_word (m := ⟨7, 5⟩) (meth := k7m5) (c := k7c5) (by decide +kernel) rfl rfl rfl (by decide +kernel)
set_option maxRecDepth 65536 in
theorem w_c5 : (Jvm.Cond.code ({ cls := "java/lang/Object", name := "<init>", desc := "()V" } : Jvm.MethodName) object_method_1_code (1 : Nat) (Option.none : Option Jvm.ClassFile.FieldType)).before args0 about1 = true := code_word (m := ⟨0, 0⟩) (meth := k0m0) (c := k0c0) (by decide +kernel) rfl rfl rfl (by decide +kernel)
set_option maxRecDepth 65536 in
theorem w_c6 : (Jvm.Cond.code ({ cls := "com/example/outbound_courier/outboundcourier/util/Characters", name := "isOneTo", desc := "(Ljava/lang/String;I)Z" } : Jvm.MethodName) prog_38_method_2_code (2 : Nat) (Option.some Jvm.ClassFile.FieldType.boolean)).before args0 about1 = true := code_word (m := ⟨8, 1⟩) (meth := k8m1) (c := k8c1) (by decide +kernel) rfl rfl rfl (by decide +kernel)
set_option maxRecDepth 65536 in
theorem w_c7 : (Jvm.Cond.code ({ cls := "java/lang/String", name := "isEmpty", desc := "()Z" } : Jvm.MethodName) jdk_42_method_55_code (1 : Nat) (Option.some Jvm.ClassFile.FieldType.boolean)).before args0 about1 = true := code_word (m := ⟨7, 3⟩) (meth := k7m3) (c := k7c3) (by decide +kernel) rfl rfl rfl (by decide +kernel)
set_option maxRecDepth 65536 in
theorem w_c8 : (Jvm.Cond.code ({ cls := "java/lang/StringUTF16", name := "compress", desc := "([CII)[B" } : Jvm.MethodName) jdk_52_method_16_code (6 : Nat) (Option.some (Jvm.ClassFile.FieldType.array Jvm.ClassFile.FieldType.byte))).before args0 about1 = true := code_word (m := ⟨9, 9⟩) (meth := k9m9) (c := k9c9) (by decide +kernel) rfl rfl rfl (by decide +kernel)
set_option maxRecDepth 65536 in
theorem w_c9 : (Jvm.Cond.code ({ cls := "java/lang/StringUTF16", name := "compress", desc := "([CI[BII)I" } : Jvm.MethodName) jdk_52_method_21_code (7 : Nat) (Option.some Jvm.ClassFile.FieldType.int)).before args0 about1 = true := code_word (m := ⟨9, 10⟩) (meth := k9m10) (c := k9c10) (by decide +kernel) rfl rfl rfl (by decide +kernel)
set_option maxRecDepth 65536 in
theorem w_c10 : (Jvm.Cond.code ({ cls := "java/lang/StringUTF16", name := "toBytes", desc := "([CII)[B" } : Jvm.MethodName) jdk_52_method_14_code (5 : Nat) (Option.some (Jvm.ClassFile.FieldType.array Jvm.ClassFile.FieldType.byte))).before args0 about1 = true := code_word (m := ⟨9, 7⟩) (meth := k9m7) (c := k9c7) (by decide +kernel) rfl rfl rfl (by decide +kernel)
set_option maxRecDepth 65536 in
theorem w_c11 : (Jvm.Cond.code ({ cls := "java/lang/StringUTF16", name := "newBytesFor", desc := "(I)[B" } : Jvm.MethodName) jdk_52_method_2_code (1 : Nat) (Option.some (Jvm.ClassFile.FieldType.array Jvm.ClassFile.FieldType.byte))).before args0 about1 = true := code_word (m := ⟨9, 1⟩) (meth := k9m1) (c := k9c1) (by decide +kernel) rfl rfl rfl (by decide +kernel)
set_option maxRecDepth 65536 in
theorem w_c12 : (Jvm.Cond.code ({ cls := "java/lang/StringUTF16", name := "newBytesLength", desc := "(I)I" } : Jvm.MethodName) jdk_52_method_3_code (1 : Nat) (Option.some Jvm.ClassFile.FieldType.int)).before args0 about1 = true := code_word (m := ⟨9, 2⟩) (meth := k9m2) (c := k9c2) (by decide +kernel) rfl rfl rfl (by decide +kernel)
set_option maxRecDepth 65536 in
theorem w_c13 : (Jvm.Cond.code ({ cls := "java/lang/StringUTF16", name := "putChar", desc := "([BII)V" } : Jvm.MethodName) jdk_52_method_4_code (3 : Nat) (Option.none : Option Jvm.ClassFile.FieldType)).before args0 about1 = true := code_word (m := ⟨9, 3⟩) (meth := k9m3) (c := k9c3) (by decide +kernel) rfl rfl rfl (by decide +kernel)
set_option maxRecDepth 65536 in
theorem w_c14 : (Jvm.Cond.code ({ cls := "java/lang/StringUTF16", name := "getChar", desc := "([BI)C" } : Jvm.MethodName) jdk_52_method_5_code (2 : Nat) (Option.some Jvm.ClassFile.FieldType.char)).before args0 about1 = true := code_word (m := ⟨9, 4⟩) (meth := k9m4) (c := k9c4) (by decide +kernel) rfl rfl rfl (by decide +kernel)
set_option maxRecDepth 65536 in
theorem w_c15 : (Jvm.Cond.code ({ cls := "java/lang/StringUTF16", name := "coderFromArrayLen", desc := "([BI)B" } : Jvm.MethodName) jdk_52_method_15_code (2 : Nat) (Option.some Jvm.ClassFile.FieldType.byte)).before args0 about1 = true := code_word (m := ⟨9, 8⟩) (meth := k9m8) (c := k9c8) (by decide +kernel) rfl rfl rfl (by decide +kernel)
set_option maxRecDepth 65536 in
theorem w_c16 : (Jvm.Cond.code ({ cls := "java/lang/String", name := "length", desc := "()I" } : Jvm.MethodName) jdk_42_method_54_code (1 : Nat) (Option.some Jvm.ClassFile.FieldType.int)).before args0 about1 = true := code_word (m := ⟨7, 2⟩) (meth := k7m2) (c := k7c2) (by decide +kernel) rfl rfl rfl (by decide +kernel)
set_option maxRecDepth 65536 in
theorem w_c17 : (Jvm.Cond.code ({ cls := "java/lang/String", name := "coder", desc := "()B" } : Jvm.MethodName) jdk_42_method_152_code (1 : Nat) (Option.some Jvm.ClassFile.FieldType.byte)).before args0 about1 = true := code_word (m := ⟨7, 6⟩) (meth := k7m6) (c := k7c6) (by decide +kernel) rfl rfl rfl (by decide +kernel)
set_option maxRecDepth 65536 in
theorem w_c18 : (Jvm.Cond.code ({ cls := "java/lang/String", name := "codePointCount", desc := "(II)I" } : Jvm.MethodName) jdk_42_method_59_code (3 : Nat) (Option.some Jvm.ClassFile.FieldType.int)).before args0 about1 = true := code_word (m := ⟨7, 4⟩) (meth := k7m4) (c := k7c4) (by decide +kernel) rfl rfl rfl (by decide +kernel)
set_option maxRecDepth 65536 in
theorem w_c19 : (Jvm.Cond.code ({ cls := "java/util/Objects", name := "checkFromToIndex", desc := "(III)I" } : Jvm.MethodName) jdk_31_method_18_code (3 : Nat) (Option.some Jvm.ClassFile.FieldType.int)).before args0 about1 = true := code_word (m := ⟨10, 1⟩) (meth := k10m1) (c := k10c1) (by decide +kernel) rfl rfl rfl (by decide +kernel)
set_option maxRecDepth 65536 in
theorem w_c20 : (Jvm.Cond.code ({ cls := "jdk/internal/util/Preconditions", name := "checkFromToIndex", desc := "(IIILjava/util/function/BiFunction;)I" } : Jvm.MethodName) jdk_41_method_12_code (4 : Nat) (Option.some Jvm.ClassFile.FieldType.int)).before args0 about1 = true := code_word (m := ⟨11, 1⟩) (meth := k11m1) (c := k11c1) (by decide +kernel) rfl rfl rfl (by decide +kernel)
set_option maxRecDepth 65536 in
theorem w_c21 : (Jvm.Cond.code ({ cls := "java/lang/String", name := "isLatin1", desc := "()Z" } : Jvm.MethodName) jdk_42_method_154_code (1 : Nat) (Option.some Jvm.ClassFile.FieldType.boolean)).before args0 about1 = true := code_word (m := ⟨7, 7⟩) (meth := k7m7) (c := k7c7) (by decide +kernel) rfl rfl rfl (by decide +kernel)
set_option maxRecDepth 65536 in
theorem w_c22 : (Jvm.Cond.code ({ cls := "java/lang/StringUTF16", name := "codePointCount", desc := "([BII)I" } : Jvm.MethodName) jdk_52_method_12_code (3 : Nat) (Option.some Jvm.ClassFile.FieldType.int)).before args0 about1 = true := code_word (m := ⟨9, 6⟩) (meth := k9m6) (c := k9c6) (by decide +kernel) rfl rfl rfl (by decide +kernel)
set_option maxRecDepth 65536 in
theorem w_c23 : (Jvm.Cond.code ({ cls := "java/lang/StringUTF16", name := "codePointCount", desc := "([BIIZ)I" } : Jvm.MethodName) jdk_52_method_11_code (6 : Nat) (Option.some Jvm.ClassFile.FieldType.int)).before args0 about1 = true := code_word (m := ⟨9, 5⟩) (meth := k9m5) (c := k9c5) (by decide +kernel) rfl rfl rfl (by decide +kernel)
set_option maxRecDepth 65536 in
theorem w_c24 : (Jvm.Cond.code ({ cls := "java/lang/Character", name := "isHighSurrogate", desc := "(C)Z" } : Jvm.MethodName) jdk_89_method_14_code (1 : Nat) (Option.some Jvm.ClassFile.FieldType.boolean)).before args0 about1 = true := code_word (m := ⟨12, 0⟩) (meth := k12m0) (c := k12c0) (by decide +kernel) rfl rfl rfl (by decide +kernel)
set_option maxRecDepth 65536 in
theorem w_c25 : (Jvm.Cond.code ({ cls := "com/example/outbound_courier/outboundcourier/util/CharactersIsOneToPinLaw", name := "pair", desc := "(CCZ)I" } : Jvm.MethodName) method_5_code (3 : Nat) (Option.some Jvm.ClassFile.FieldType.int)).before args0 about1 = true := code_word (m := ⟨1, 4⟩) (meth := k1m4) (c := k1c4) (by decide +kernel) rfl rfl rfl (by decide +kernel)
set_option maxRecDepth 65536 in
theorem w_c26 : (Jvm.Cond.code ({ cls := "com/example/outbound_courier/outboundcourier/util/CharactersIsOneToPinLaw", name := "isHigh", desc := "(C)Z" } : Jvm.MethodName) method_3_code (1 : Nat) (Option.some Jvm.ClassFile.FieldType.boolean)).before args0 about1 = true := code_word (m := ⟨1, 2⟩) (meth := k1m2) (c := k1c2) (by decide +kernel) rfl rfl rfl (by decide +kernel)
set_option maxRecDepth 65536 in
theorem w_c27 : (Jvm.Cond.code ({ cls := "java/lang/Character", name := "isLowSurrogate", desc := "(C)Z" } : Jvm.MethodName) jdk_89_method_15_code (1 : Nat) (Option.some Jvm.ClassFile.FieldType.boolean)).before args0 about1 = true := code_word (m := ⟨12, 1⟩) (meth := k12m1) (c := k12c1) (by decide +kernel) rfl rfl rfl (by decide +kernel)
set_option maxRecDepth 65536 in
theorem w_c28 : (Jvm.Cond.code ({ cls := "com/example/outbound_courier/outboundcourier/util/CharactersIsOneToPinLaw", name := "isLow", desc := "(C)Z" } : Jvm.MethodName) method_4_code (1 : Nat) (Option.some Jvm.ClassFile.FieldType.boolean)).before args0 about1 = true := code_word (m := ⟨1, 3⟩) (meth := k1m3) (c := k1c3) (by decide +kernel) rfl rfl rfl (by decide +kernel)
def codes1 : List Jvm.Cond := [Jvm.Cond.code x code maxLocals ret, Jvm.Cond.code ({ cls := "com/example/outbound_courier/outboundcourier/util/CharactersIsOneToPinLaw", name := "pick", desc := "(I)C" } : Jvm.MethodName) method_2_code (3 : Nat) (Option.some Jvm.ClassFile.FieldType.char), Jvm.Cond.code ({ cls := "com/example/outbound_courier/outboundcourier/util/CharactersIsOneToPinLaw", name := "make", desc := "(ICCCC)Ljava/lang/String;" } : Jvm.MethodName) method_6_code (6 : Nat) (Option.some (Jvm.ClassFile.FieldType.object "java/lang/String")), Jvm.Cond.code ({ cls := "java/lang/String", name := "<init>", desc := "([C)V" } : Jvm.MethodName) jdk_42_method_3_code (2 : Nat) (Option.none : Option Jvm.ClassFile.FieldType), Jvm.Cond.code ({ cls := "java/lang/String", name := "<init>", desc := "([CIILjava/lang/Void;)V" } : Jvm.MethodName) jdk_42_method_149_code (6 : Nat) (Option.none : Option Jvm.ClassFile.FieldType), Jvm.Cond.code ({ cls := "java/lang/Object", name := "<init>", desc := "()V" } : Jvm.MethodName) object_method_1_code (1 : Nat) (Option.none : Option Jvm.ClassFile.FieldType), Jvm.Cond.code ({ cls := "com/example/outbound_courier/outboundcourier/util/Characters", name := "isOneTo", desc := "(Ljava/lang/String;I)Z" } : Jvm.MethodName) prog_38_method_2_code (2 : Nat) (Option.some Jvm.ClassFile.FieldType.boolean), Jvm.Cond.code ({ cls := "java/lang/String", name := "isEmpty", desc := "()Z" } : Jvm.MethodName) jdk_42_method_55_code (1 : Nat) (Option.some Jvm.ClassFile.FieldType.boolean), Jvm.Cond.code ({ cls := "java/lang/StringUTF16", name := "compress", desc := "([CII)[B" } : Jvm.MethodName) jdk_52_method_16_code (6 : Nat) (Option.some (Jvm.ClassFile.FieldType.array Jvm.ClassFile.FieldType.byte)), Jvm.Cond.code ({ cls := "java/lang/StringUTF16", name := "compress", desc := "([CI[BII)I" } : Jvm.MethodName) jdk_52_method_21_code (7 : Nat) (Option.some Jvm.ClassFile.FieldType.int), Jvm.Cond.code ({ cls := "java/lang/StringUTF16", name := "toBytes", desc := "([CII)[B" } : Jvm.MethodName) jdk_52_method_14_code (5 : Nat) (Option.some (Jvm.ClassFile.FieldType.array Jvm.ClassFile.FieldType.byte)), Jvm.Cond.code ({ cls := "java/lang/StringUTF16", name := "newBytesFor", desc := "(I)[B" } : Jvm.MethodName) jdk_52_method_2_code (1 : Nat) (Option.some (Jvm.ClassFile.FieldType.array Jvm.ClassFile.FieldType.byte)), Jvm.Cond.code ({ cls := "java/lang/StringUTF16", name := "newBytesLength", desc := "(I)I" } : Jvm.MethodName) jdk_52_method_3_code (1 : Nat) (Option.some Jvm.ClassFile.FieldType.int), Jvm.Cond.code ({ cls := "java/lang/StringUTF16", name := "putChar", desc := "([BII)V" } : Jvm.MethodName) jdk_52_method_4_code (3 : Nat) (Option.none : Option Jvm.ClassFile.FieldType), Jvm.Cond.code ({ cls := "java/lang/StringUTF16", name := "getChar", desc := "([BI)C" } : Jvm.MethodName) jdk_52_method_5_code (2 : Nat) (Option.some Jvm.ClassFile.FieldType.char), Jvm.Cond.code ({ cls := "java/lang/StringUTF16", name := "coderFromArrayLen", desc := "([BI)B" } : Jvm.MethodName) jdk_52_method_15_code (2 : Nat) (Option.some Jvm.ClassFile.FieldType.byte), Jvm.Cond.code ({ cls := "java/lang/String", name := "length", desc := "()I" } : Jvm.MethodName) jdk_42_method_54_code (1 : Nat) (Option.some Jvm.ClassFile.FieldType.int), Jvm.Cond.code ({ cls := "java/lang/String", name := "coder", desc := "()B" } : Jvm.MethodName) jdk_42_method_152_code (1 : Nat) (Option.some Jvm.ClassFile.FieldType.byte), Jvm.Cond.code ({ cls := "java/lang/String", name := "codePointCount", desc := "(II)I" } : Jvm.MethodName) jdk_42_method_59_code (3 : Nat) (Option.some Jvm.ClassFile.FieldType.int), Jvm.Cond.code ({ cls := "java/util/Objects", name := "checkFromToIndex", desc := "(III)I" } : Jvm.MethodName) jdk_31_method_18_code (3 : Nat) (Option.some Jvm.ClassFile.FieldType.int), Jvm.Cond.code ({ cls := "jdk/internal/util/Preconditions", name := "checkFromToIndex", desc := "(IIILjava/util/function/BiFunction;)I" } : Jvm.MethodName) jdk_41_method_12_code (4 : Nat) (Option.some Jvm.ClassFile.FieldType.int), Jvm.Cond.code ({ cls := "java/lang/String", name := "isLatin1", desc := "()Z" } : Jvm.MethodName) jdk_42_method_154_code (1 : Nat) (Option.some Jvm.ClassFile.FieldType.boolean), Jvm.Cond.code ({ cls := "java/lang/StringUTF16", name := "codePointCount", desc := "([BII)I" } : Jvm.MethodName) jdk_52_method_12_code (3 : Nat) (Option.some Jvm.ClassFile.FieldType.int), Jvm.Cond.code ({ cls := "java/lang/StringUTF16", name := "codePointCount", desc := "([BIIZ)I" } : Jvm.MethodName) jdk_52_method_11_code (6 : Nat) (Option.some Jvm.ClassFile.FieldType.int), Jvm.Cond.code ({ cls := "java/lang/Character", name := "isHighSurrogate", desc := "(C)Z" } : Jvm.MethodName) jdk_89_method_14_code (1 : Nat) (Option.some Jvm.ClassFile.FieldType.boolean), Jvm.Cond.code ({ cls := "com/example/outbound_courier/outboundcourier/util/CharactersIsOneToPinLaw", name := "pair", desc := "(CCZ)I" } : Jvm.MethodName) method_5_code (3 : Nat) (Option.some Jvm.ClassFile.FieldType.int), Jvm.Cond.code ({ cls := "com/example/outbound_courier/outboundcourier/util/CharactersIsOneToPinLaw", name := "isHigh", desc := "(C)Z" } : Jvm.MethodName) method_3_code (1 : Nat) (Option.some Jvm.ClassFile.FieldType.boolean), Jvm.Cond.code ({ cls := "java/lang/Character", name := "isLowSurrogate", desc := "(C)Z" } : Jvm.MethodName) jdk_89_method_15_code (1 : Nat) (Option.some Jvm.ClassFile.FieldType.boolean), Jvm.Cond.code ({ cls := "com/example/outbound_courier/outboundcourier/util/CharactersIsOneToPinLaw", name := "isLow", desc := "(C)Z" } : Jvm.MethodName) method_4_code (1 : Nat) (Option.some Jvm.ClassFile.FieldType.boolean)]
set_option maxRecDepth 65536 in
theorem codes_eq : words1.filter isCode = codes1 := rfl
theorem w_codes : ∀ c ∈ words1.filter isCode, c.before args0 about1 = true := by
  rw [codes_eq]
  intro c hc
  simp only [codes1, List.mem_cons, List.not_mem_nil, or_false] at hc
  rcases hc with rfl | rfl | rfl | rfl | rfl | rfl | rfl | rfl | rfl | rfl | rfl | rfl | rfl | rfl | rfl | rfl | rfl | rfl | rfl | rfl | rfl | rfl | rfl | rfl | rfl | rfl | rfl | rfl | rfl
  · exact w_c0
  · exact w_c1
  · exact w_c2
  · exact w_c3
  · exact w_c4
  · exact w_c5
  · exact w_c6
  · exact w_c7
  · exact w_c8
  · exact w_c9
  · exact w_c10
  · exact w_c11
  · exact w_c12
  · exact w_c13
  · exact w_c14
  · exact w_c15
  · exact w_c16
  · exact w_c17
  · exact w_c18
  · exact w_c19
  · exact w_c20
  · exact w_c21
  · exact w_c22
  · exact w_c23
  · exact w_c24
  · exact w_c25
  · exact w_c26
  · exact w_c27
  · exact w_c28
set_option maxRecDepth 65536 in
theorem w_t1 : (words1.take 24).all (fun c => isCode c || c.before args0 about1) = true := by decide +kernel
set_option maxRecDepth 65536 in
theorem w_t2 : ((words1.drop 24).take 24).all (fun c => isCode c || c.before args0 about1) = true := by decide +kernel
set_option maxRecDepth 65536 in
theorem w_t3 : (((words1.drop 24).drop 24).take 24).all (fun c => isCode c || c.before args0 about1) = true := by decide +kernel
set_option maxRecDepth 65536 in
theorem w_t4 : ((((words1.drop 24).drop 24).drop 24).take 24).all (fun c => isCode c || c.before args0 about1) = true := by decide +kernel
set_option maxRecDepth 65536 in
theorem w_t5 : (((((words1.drop 24).drop 24).drop 24).drop 24).take 24).all (fun c => isCode c || c.before args0 about1) = true := by decide +kernel
set_option maxRecDepth 65536 in
theorem w_t6 : (((((words1.drop 24).drop 24).drop 24).drop 24).drop 24).all (fun c => isCode c || c.before args0 about1) = true := by decide +kernel
theorem w_tables : (allAtoms (Jvm.Cond.code x code maxLocals ret :: tables_1)).before args0 about1 = true := by
  rw [allAtoms_all]
  show words1.all (fun c => c.before args0 about1) = true
  refine all_split ?_ w_codes
  rw [← List.take_append_drop 24 words1, List.all_append, w_t1, ← List.take_append_drop 24 (words1.drop 24), List.all_append, w_t2, ← List.take_append_drop 24 ((words1.drop 24).drop 24), List.all_append, w_t3, ← List.take_append_drop 24 (((words1.drop 24).drop 24).drop 24), List.all_append, w_t4, ← List.take_append_drop 24 ((((words1.drop 24).drop 24).drop 24).drop 24), List.all_append, w_t5, w_t6]
  rfl
set_option maxRecDepth 65536 in
theorem w_rest : rest_1_c.before args0 about1 = true := by decide +kernel
set_option maxRecDepth 65536 in
theorem w_case : (Jvm.Cond.and given_1 narrow_1).before args0 about1 = true := by decide +kernel
set_option maxRecDepth 65536 in
theorem w_consts : constsHeld consts_1 about1 := Jvm.Lit.constsHeldB_iff.mp (by decide +kernel)
theorem w_applies : (headSpec (Jvm.Cond.code x code maxLocals ret :: tables_1) room_1).applies x e0.platform about1 = true :=
  (Spec.applies_iff w_frames).mpr ⟨w_running, w_runnable, w_alone, w_named, w_hears, w_ripe, w_room, w_tables⟩
theorem atStart : AtStart classFile x code maxLocals ret World_1 tables_1 room_1 Calls_1 rest_1 Pre_1 launch0 p0 e0 about1 theMethod args0 below0 :=
  ⟨lists_1, trivial, launch0.admits_env _ _ _, launch0.least_env, fairChoices_fair.cas, fairChoices_fair.clock, w_frames, w_args, w_heap, w_applies, ⟨w_consts, trivial⟩, w_rest, w_case⟩
end start1
theorem witness_1 : WitnessClaimed_1 := ⟨start1.p0, start1.e0, start1.about1, start1.theMethod, start1.args0, start1.below0, start1.atStart⟩
end Jvm.Pilot.@@N@@
