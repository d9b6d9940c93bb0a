import JvmDerived
import JvmDerived.Pilot.@@N@@Statement
import JvmDerived.Pilot.@@N@@Code
set_option linter.unusedVariables false
set_option linter.unusedSimpArgs false
namespace Jvm.RoadKit
open Sem ClassFile Op Lib Jvm.Stand Jvm.Free Jvm.LawKit
section New
variable {p : Program} {l : Launch} {e : Env} {R : Room} {s : State} {m : MethodId} {args : Array Value} {below : List Frame} {meth : Method} {c : Code} {T : State} {locs : List Loc} {cells slots : Nat}
theorem retI (X : Stand p l e R s m args below meth c T locs cells slots) (hx : p.tables.exec = Jvm.exec) {pc : Nat} {Ls : Array Slot} {z : Int32} {rest : List Value} (hret : meth.sig.returnType = some .int) (hd : decode c.code pc = .ok (.ireturn, 1)) {fs : List Frame}
    (hl : ∀ (f : JFrame) (acts : List Action), f.method = m → f.locked = none → f.entered = [] → (doReturn e (T.setTop f) acts (some (.int z))).1 = T.setFrames fs) : Steps p.tables e below (T.setTop (mkF m pc Ls (.int z :: rest))) (T.setFrames fs) := by
  have hm' : T.vm.method? m = some meth := X.method'
  have hn : narrow .int (.int z) = .int z := rfl
  show Steps p.tables e below (T.setTop { method := m, pc := pc, locals := Ls, stack := _ :: rest, locked := none }) _
  jvm_step X.here [X.here.top, hx, hd, hm', hret, hn]
  first | (intro acts; rw [hl _ acts rfl rfl rfl]) | rw [hl _ _ rfl rfl rfl]
  exact Steps.refl _
theorem own_retA (X : Stand p l e R s m args below meth c T locs cells slots) (hx : p.tables.exec = Jvm.exec) {pc : Nat} {Ls : Array Slot} {z : Value} {ty : FieldType} {rest : List Value} (hret : meth.sig.returnType = some ty) (hty : ty.isReference = true) (hz : z.isRef = true) (hd : decode c.code pc = .ok (.areturn, 1)) {fs : List Frame}
    (hl : ∀ (f : JFrame) (acts : List Action), f.method = m → f.locked = none → f.entered = [] → (doReturn e (T.setTop f) acts (some z)).1 = T.setFrames fs) : Steps p.tables e below (T.setTop (mkF m pc Ls (z :: rest))) (T.setFrames fs) := by
  have hm' : T.vm.method? m = some meth := X.method'
  show Steps p.tables e below (T.setTop { method := m, pc := pc, locals := Ls, stack := _ :: rest, locked := none }) _
  jvm_step X.here [X.here.top, hx, hd, hm', hret, hz, hty]
  first | (intro acts; rw [hl _ acts rfl rfl rfl]) | rw [hl _ _ rfl rfl rfl]
  exact Steps.refl _
theorem own_lremM {g : JFrame} {target : State} (X : Stand p l e R s m args below meth c T locs cells slots) (hx : p.tables.exec = Jvm.exec) (hg : g.method = m) {x y : Int64} {rest : List Value} (hd : decode c.code g.pc = .ok (.lrem, 1)) (hs : g.stack = .long y :: .long x :: rest) (hy : y ≠ 0)
    (hr : Steps p.tables e below (T.setTop { g with pc := g.pc + 1, stack := .long (x % y) :: rest }) target) : Steps p.tables e below (T.setTop g) target :=
  XS.lrem X.here hx hg hd hs hy (by rw [lrem_mod]; exact hr)
end New
end Jvm.RoadKit
namespace Jvm.Pilot.@@N@@
open Jvm Jvm.ClassFile Sem Op Lib Jvm.Free Jvm.Stand Jvm.LawKit Jvm.RoadKit Bundle Jvm.Pilot.@@N@@.Jvm.D
theorem own_selP {Z s : State} {args a0 : Array Value} {y : MethodName} {n : Nat} (hZ : Z.Warmed39 s.vm) (wi : (Jvm.Cond.instantiable y.cls n).before a0 Z = true) (wp : (Jvm.Cond.privateMethod y).before a0 Z = true) (wm : (Jvm.Cond.instanceMethod y).before a0 Z = true) (hy : y.cls ≠ "java/lang/invoke/MethodHandle" ∧ y.cls ≠ "java/lang/invoke/VarHandle") : (Jvm.Cond.selects y.cls y y).before args s = true := by
  obtain ⟨c, k, h1, h2, -, h3, -⟩ := Cond.instantiable_spec (mv (args := args) hZ wi)
  exact Jvm.Stand.selects_self_of_private h1 h2 (by simp only [Bool.or_eq_false_iff] at h3; exact h3.1) (Cond.privateMethod_at (mvP hZ wp (args := args))) (mv hZ wm) hy
theorem own_fitC {Z : State} {h : Heap} {a : Addr} {cl : Cell} {ty : FieldType} {vs : List Value} {dv : Value} (A : Arr Z h a cl ty) (H : Has cl vs dv) (G : ∀ i, i < cl.slots.size → fits ty (vs.getD i dv) = true) : FitC Z cl := fun i v hv => by
  obtain ⟨hi, -⟩ := Array.getElem?_eq_some_iff.mp hv
  obtain ⟨hs, k, hk, comp, hkind⟩ := A.2.1
  have e : Z.slotType? cl.cls .none i = some ty := by simp [State.slotType?, hk, hkind]
  have q := G i hi
  have hv' : v = vs.getD i dv := Option.some.inj (hv.symm.trans (H i hi))
  rw [State.fitsSlot, e, hv']
  exact q
theorem own_ibW {Z s : State} {vm₁ : Vm} {Ts : List String} (I : IB Z s.vm Ts) (h : s.WarmedH vm₁) : IB Z vm₁ Ts := by
  obtain ⟨more, q1, q2⟩ := I
  exact ⟨more, by rw [h.interned_eq]; exact q1, q2⟩
theorem own_litS {Z s : State} {vm₁ : Vm} {own : String} {i : Nat} {a : Addr} (L : Lit s own i a) (h : s.Warmed39 vm₁) : Lit (Z.setVm vm₁) own i a := State.resolvedAt?_warmed39 (s := s) h L
theorem own_litW {Z s : State} {vm₁ : Vm} {own : String} {i : Nat} {a : Addr} (L : Lit s own i a) (h : s.WarmedH vm₁) : Lit (Z.setVm vm₁) own i a := own_litS L h.wide
theorem own_backOfV {p : Program} {l : Launch} {e : Env} {R : Room} {s : State} {args : Array Value} {below : List Frame} {Z : State} {a0 : Array Value} {h : Heap} {y : MethodName} {bytes : ByteArray} {maxL : Nat} {ret : Option FieldType} {rm : Room} {len W : Nat} {as' : Array Value} {VP : Vm → Prop} {Q : Option Value → Heap → Vm → List Loc → Prop}
    (hM : MetFree l y (head1 [Jvm.Cond.code y bytes maxL ret] rm) (fun a U => a = as' ∧ Z.Warmed39 U.vm ∧ U.heap = h ∧ VP U.vm) (fun _ _ _ _ _ => True) (fun _ U o U' => ∃ v L, o = .returned v ∧ Q v U'.heap U'.vm L ∧ ReturnedEndW U o U' L rm.cells rm.slots))
    (hZ : Z.Warmed39 s.vm) (wc : (Jvm.Cond.code y bytes maxL ret).before a0 Z = true) (wz : (Jvm.Cond.initialized y.cls).before a0 Z = true) (hf : rm.frames + 1 ≤ R.frames) (hl : W + (maxL + 11) + rm.locals ≤ R.locals) :
    BackS l R p e below s args y len W (fun A a => a = as' ∧ A.U.heap = h ∧ VP A.U.vm ∧ A.cells + rm.cells ≤ R.cells ∧ A.slots + rm.slots ≤ R.slots)
      (fun A _ v B => ∃ L, Q v B.U.heap B.U.vm L ∧ B.locs = A.locs ++ L ∧ B.cells = A.cells + rm.cells ∧ B.slots = A.slots + rm.slots) := by
  refine BackS.of_freeW (bytes := bytes) (maxL := maxL) (ret := ret) (E := fun _ _ o t L k n => k = rm.cells ∧ n = rm.slots ∧ ∃ v, o = .returned v ∧ Q v t.heap t.vm L) hM hf hl ?_ ?_ (fun _ _ _ _ _ _ _ _ _ => trivial) ?_ ?_
  · intro m meth c A a Y hp
    have hU : Z.Warmed39 A.U.vm := wtrans hZ Y.warmed
    refine ⟨?_, mv hU wc, mv hU wz, hp.2.2.2.1, hp.2.2.2.2⟩
    show (Jvm.Cond.and _ .tt).before a A.U = true
    rw [Cond.before_and, mv hU wc]
    rfl
  · intro m meth c A a g mk Y hp
    exact ⟨hp.1, wtrans hZ Y.warmed, hp.2.1, hp.2.2.1⟩
  · rintro _ _ _ _ ⟨v, L, h1, h2, h3⟩
    exact ⟨L, _, _, h3, rfl, rfl, v, h1, h2⟩
  · rintro m meth c A a g mk v t L k n Y hp _ _ ⟨e1, e2, v', e3, e4⟩
    cases e3
    subst e1 e2
    exact ⟨L, e4, rfl, rfl, rfl⟩
theorem own_n0 {Z : State} {n0 : Nat} {h : Heap} (X : Old Z n0 h) : n0 ≤ h.size := X.1 ▸ X.2.1
/-- the run comes from U to an end of which P says enough -/
def Go (p : Program) (e : Env) (below : List Frame) (P : Outcome → State → Prop) (U : State) : Prop := ∃ s₂ o, Steps p.tables e below U s₂ ∧ s₂.status = .running ∧ Ended s₂ below o ∧ P o s₂
theorem Go.st {p : Program} {e : Env} {below : List Frame} {P : Outcome → State → Prop} {U V : State} (k : ∀ t, Steps p.tables e below V t → Steps p.tables e below U t) (g : Go p e below P V) : Go p e below P U := by
  obtain ⟨a, b, h, r⟩ := g
  exact ⟨a, b, k _ h, r⟩
theorem Go.tr {p : Program} {e : Env} {below : List Frame} {P : Outcome → State → Prop} {U V : State} (k : Steps p.tables e below U V) (g : Go p e below P V) : Go p e below P U := by
  obtain ⟨a, b, h, r⟩ := g
  exact ⟨a, b, k.trans h, r⟩
theorem Go.start {p : Program} {e : Env} {below : List Frame} {P : Outcome → State → Prop} {U V : State} (k : ∀ {t}, Steps p.tables e below V t → Steps p.tables e below U t) (g : Go p e below P V) : ∃ s₂ o, Steps p.tables e below U s₂ ∧ s₂.status = .running ∧ Ended s₂ below o ∧ P o s₂ := by
  obtain ⟨a, b, h, r⟩ := g
  exact ⟨a, b, k h, r⟩
theorem own_valI {args : Array Value} {s : State} {t : Term} {k : Int32} (h : (Cond.eq t (.int k)).value args s none s [] = some true) : t.eval args s none [] s = some (.int k) := by
  obtain ⟨x, y, h1, h2, h3, -⟩ := cmp_v (Or.inl h)
  have e2 : y = .int k := (Option.some.inj h2).symm
  subst e2
  cases x <;> simp [Kin, Value.isRef] at h3
  simp only [Cond.value, h1, h2] at h
  simp at h
  rw [h1, h]
theorem own_valJ {args : Array Value} {s : State} {t : Term} {k : Int64} (h : (Cond.eq t (.long k)).value args s none s [] = some true) : t.eval args s none [] s = some (.long k) := by
  obtain ⟨x, y, h1, h2, h3, -⟩ := cmp_v (Or.inl h)
  have e2 : y = .long k := (Option.some.inj h2).symm
  subst e2
  cases x <;> simp [Kin, Value.isRef] at h3
  simp only [Cond.value, h1, h2] at h
  simp at h
  rw [h1, h]
theorem own_eqR {args : Array Value} {s : State} {t u : Term} {a : Addr} (ev : t.eval args s none [] s = some (.ref a)) (h : (Cond.eq t u).value args s none s [] = some true) : u.eval args s none [] s = some (.ref a) := by
  obtain ⟨x, y, h1, h2, h3, -⟩ := cmp_v (Or.inl h)
  cases h1.symm.trans ev
  have hy : y.isRef = true := h3.2
  have q := gotT (eq_R h1 h2 rfl hy) h
  rw [h2, ← q]
theorem own_eqL {args : Array Value} {s : State} {t u : Term} {a : Addr} (ev : u.eval args s none [] s = some (.ref a)) (h : (Cond.eq t u).value args s none s [] = some true) : t.eval args s none [] s = some (.ref a) := by
  obtain ⟨x, y, h1, h2, -, h4⟩ := cmp_v (Or.inl h)
  cases h2.symm.trans ev
  have hx : x.isRef = true := h4.2
  have q := gotT (eq_R h1 h2 hx rfl) h
  rw [h1, q]
theorem own_elI {Z : State} {args : Array Value} {t : Term} {a : Addr} {cl : Cell} {ty : FieldType} {i k : Int32} (A : Arr Z Z.heap a cl ty) (ev : t.eval args Z none [] Z = some (.ref a)) (h : (Cond.eq (.elem t (.int i)) (.int k)).value args Z none Z [] = some true) : cl.slots[i.toNatClampNeg]? = some (.int k) := (elem_in (own_valI h) ev rfl A.1).2
theorem own_elJ {Z : State} {args : Array Value} {t : Term} {a : Addr} {cl : Cell} {ty : FieldType} {i : Int32} {k : Int64} (A : Arr Z Z.heap a cl ty) (ev : t.eval args Z none [] Z = some (.ref a)) (h : (Cond.eq (.elem t (.int i)) (.long k)).value args Z none Z [] = some true) : cl.slots[i.toNatClampNeg]? = some (.long k) := (elem_in (own_valJ h) ev rfl A.1).2
theorem own_elR {Z : State} {args : Array Value} {t u : Term} {a b : Addr} {cl : Cell} {ty : FieldType} {i : Int32} (A : Arr Z Z.heap a cl ty) (ev : t.eval args Z none [] Z = some (.ref a)) (eu : u.eval args Z none [] Z = some (.ref b)) (h : (Cond.eq (.elem t (.int i)) u).value args Z none Z [] = some true) : cl.slots[i.toNatClampNeg]? = some (.ref b) := (elem_in (own_eqL eu h) ev rfl A.1).2
theorem own_arv {Z : State} {args : Array Value} {t : Term} {a : Addr} {cl : Cell} {ty : FieldType} {z : Int32} {vs : List Value} {dv : Value} (hf : Fit Z) (A : Arr Z Z.heap a cl ty) (ev : t.eval args Z none [] Z = some (.ref a)) (h : (Cond.eq (.length t) (.int z)).value args Z none Z [] = some true) (hz : ¬ z < 0) (hl : z.toNatClampNeg = vs.length) (H : HasL cl 0 vs) : Arv Z Z.heap a cl.cls ty z vs dv := by
  have hv := own_valI h
  have hA : Z.arrayAt? a = some cl := A.fin (Vm.Alike.refl _)
  have q : cl.slots.size < 2 ^ 31 := by
    simp only [Term.eval, ev, hA] at hv
    by_cases hq : cl.slots.size < 2 ^ 31
    · exact hq
    · simp [hA, hq] at hv
  have e : cl.slots.size.toInt32 = z := by
    have := len_f (args := args) (first := Z) (o := none) (idx := []) ev hA q
    rw [this] at hv
    exact Value.int.inj (Option.some.inj hv)
  exact Arv.start hf A q e hz hl H
theorem own_neI {args : Array Value} {s : State} {t : Term} {x k : Int32} (ev : t.eval args s none [] s = some (.int x)) (h : (Cond.not (Cond.eq t (.int k))).value args s none s [] = some true) : ¬ (x = k) := by
  have h' := not_v h
  intro e
  subst e
  simp [Cond.value, ev, Term.eval] at h'
theorem own_mod9 (k : Int32) : (k &&& (2147483647 : Int32)) % (9 : Int32) = (0 : Int32) ∨ (k &&& (2147483647 : Int32)) % (9 : Int32) = (1 : Int32) ∨ (k &&& (2147483647 : Int32)) % (9 : Int32) = (2 : Int32) ∨ (k &&& (2147483647 : Int32)) % (9 : Int32) = (3 : Int32) ∨ (k &&& (2147483647 : Int32)) % (9 : Int32) = (4 : Int32) ∨ (k &&& (2147483647 : Int32)) % (9 : Int32) = (5 : Int32) ∨ (k &&& (2147483647 : Int32)) % (9 : Int32) = (6 : Int32) ∨ (k &&& (2147483647 : Int32)) % (9 : Int32) = (7 : Int32) ∨ (k &&& (2147483647 : Int32)) % (9 : Int32) = (8 : Int32) := by
  obtain ⟨h0, -⟩ := c_and k (2147483647 : Int32) (by decide)
  obtain ⟨h1, -⟩ := c_irem (k &&& (2147483647 : Int32)) (9 : Int32) 9 (by decide)
  have h2 := h1 h0
  simp only [← Int32.toInt_inj]
  rw [h2, show (0 : Int32).toInt = 0 from by decide, show (1 : Int32).toInt = 1 from by decide, show (2 : Int32).toInt = 2 from by decide, show (3 : Int32).toInt = 3 from by decide, show (4 : Int32).toInt = 4 from by decide, show (5 : Int32).toInt = 5 from by decide, show (6 : Int32).toInt = 6 from by decide, show (7 : Int32).toInt = 7 from by decide, show (8 : Int32).toInt = 8 from by decide]
  omega

theorem w0 {Z : State} {a0 : Array Value} (hw : ∀ d ∈ tables_1, d.before a0 Z = true) : (Jvm.Cond.classLink "com/example/cropmark/cropmark/VarietalTypeGroupPinLaw" (7 : Nat) "com/example/cropmark/cropmark/VarietalType").before a0 Z = true := hw _ (List.mem_of_getElem? (i := 0) rfl)
theorem w1 {Z : State} {a0 : Array Value} (hw : ∀ d ∈ tables_1, d.before a0 Z = true) : (Jvm.Cond.arrayOver (Jvm.ClassFile.FieldType.object "com/example/cropmark/cropmark/VarietalType")).before a0 Z = true := hw _ (List.mem_of_getElem? (i := 1) rfl)
theorem w2 {Z : State} {a0 : Array Value} (hw : ∀ d ∈ tables_1, d.before a0 Z = true) : (Jvm.Cond.fieldLink "com/example/cropmark/cropmark/VarietalTypeGroupPinLaw" (9 : Nat) "com/example/cropmark/cropmark/VarietalType" "NATURAL_SEEDLESS" "Lcom/example/cropmark/cropmark/VarietalType;").before a0 Z = true := hw _ (List.mem_of_getElem? (i := 2) rfl)
theorem w3 {Z : State} {a0 : Array Value} (hw : ∀ d ∈ tables_1, d.before a0 Z = true) : (Jvm.Cond.initialized "com/example/cropmark/cropmark/VarietalType").before a0 Z = true := hw _ (List.mem_of_getElem? (i := 3) rfl)
theorem w4 {Z : State} {a0 : Array Value} (hw : ∀ d ∈ tables_1, d.before a0 Z = true) : (Jvm.Cond.laysStatic "com/example/cropmark/cropmark/VarietalType" "NATURAL_SEEDLESS" "Lcom/example/cropmark/cropmark/VarietalType;").before a0 Z = true := hw _ (List.mem_of_getElem? (i := 4) rfl)
theorem w6 {Z : State} {a0 : Array Value} (hw : ∀ d ∈ tables_1, d.before a0 Z = true) : (Jvm.Cond.fieldLink "com/example/cropmark/cropmark/VarietalTypeGroupPinLaw" (13 : Nat) "com/example/cropmark/cropmark/VarietalType" "GOLDEN_SEEDLESS" "Lcom/example/cropmark/cropmark/VarietalType;").before a0 Z = true := hw _ (List.mem_of_getElem? (i := 6) rfl)
theorem w7 {Z : State} {a0 : Array Value} (hw : ∀ d ∈ tables_1, d.before a0 Z = true) : (Jvm.Cond.laysStatic "com/example/cropmark/cropmark/VarietalType" "GOLDEN_SEEDLESS" "Lcom/example/cropmark/cropmark/VarietalType;").before a0 Z = true := hw _ (List.mem_of_getElem? (i := 7) rfl)
theorem w8 {Z : State} {a0 : Array Value} (hw : ∀ d ∈ tables_1, d.before a0 Z = true) : (Jvm.Cond.fieldLink "com/example/cropmark/cropmark/VarietalTypeGroupPinLaw" (16 : Nat) "com/example/cropmark/cropmark/VarietalType" "DIPPED_SEEDLESS" "Lcom/example/cropmark/cropmark/VarietalType;").before a0 Z = true := hw _ (List.mem_of_getElem? (i := 8) rfl)
theorem w9 {Z : State} {a0 : Array Value} (hw : ∀ d ∈ tables_1, d.before a0 Z = true) : (Jvm.Cond.laysStatic "com/example/cropmark/cropmark/VarietalType" "DIPPED_SEEDLESS" "Lcom/example/cropmark/cropmark/VarietalType;").before a0 Z = true := hw _ (List.mem_of_getElem? (i := 9) rfl)
theorem w10 {Z : State} {a0 : Array Value} (hw : ∀ d ∈ tables_1, d.before a0 Z = true) : (Jvm.Cond.fieldLink "com/example/cropmark/cropmark/VarietalTypeGroupPinLaw" (19 : Nat) "com/example/cropmark/cropmark/VarietalType" "MONUKKA" "Lcom/example/cropmark/cropmark/VarietalType;").before a0 Z = true := hw _ (List.mem_of_getElem? (i := 10) rfl)
theorem w11 {Z : State} {a0 : Array Value} (hw : ∀ d ∈ tables_1, d.before a0 Z = true) : (Jvm.Cond.laysStatic "com/example/cropmark/cropmark/VarietalType" "MONUKKA" "Lcom/example/cropmark/cropmark/VarietalType;").before a0 Z = true := hw _ (List.mem_of_getElem? (i := 11) rfl)
theorem w12 {Z : State} {a0 : Array Value} (hw : ∀ d ∈ tables_1, d.before a0 Z = true) : (Jvm.Cond.fieldLink "com/example/cropmark/cropmark/VarietalTypeGroupPinLaw" (22 : Nat) "com/example/cropmark/cropmark/VarietalType" "OTHER_SEEDLESS" "Lcom/example/cropmark/cropmark/VarietalType;").before a0 Z = true := hw _ (List.mem_of_getElem? (i := 12) rfl)
theorem w13 {Z : State} {a0 : Array Value} (hw : ∀ d ∈ tables_1, d.before a0 Z = true) : (Jvm.Cond.laysStatic "com/example/cropmark/cropmark/VarietalType" "OTHER_SEEDLESS" "Lcom/example/cropmark/cropmark/VarietalType;").before a0 Z = true := hw _ (List.mem_of_getElem? (i := 13) rfl)
theorem w14 {Z : State} {a0 : Array Value} (hw : ∀ d ∈ tables_1, d.before a0 Z = true) : (Jvm.Cond.fieldLink "com/example/cropmark/cropmark/VarietalTypeGroupPinLaw" (25 : Nat) "com/example/cropmark/cropmark/VarietalType" "OTHER_SEEDLESS_SULFURED" "Lcom/example/cropmark/cropmark/VarietalType;").before a0 Z = true := hw _ (List.mem_of_getElem? (i := 14) rfl)
theorem w15 {Z : State} {a0 : Array Value} (hw : ∀ d ∈ tables_1, d.before a0 Z = true) : (Jvm.Cond.laysStatic "com/example/cropmark/cropmark/VarietalType" "OTHER_SEEDLESS_SULFURED" "Lcom/example/cropmark/cropmark/VarietalType;").before a0 Z = true := hw _ (List.mem_of_getElem? (i := 15) rfl)
theorem w16 {Z : State} {a0 : Array Value} (hw : ∀ d ∈ tables_1, d.before a0 Z = true) : (Jvm.Cond.fieldLink "com/example/cropmark/cropmark/VarietalTypeGroupPinLaw" (28 : Nat) "com/example/cropmark/cropmark/VarietalType" "MUSCAT" "Lcom/example/cropmark/cropmark/VarietalType;").before a0 Z = true := hw _ (List.mem_of_getElem? (i := 16) rfl)
theorem w17 {Z : State} {a0 : Array Value} (hw : ∀ d ∈ tables_1, d.before a0 Z = true) : (Jvm.Cond.laysStatic "com/example/cropmark/cropmark/VarietalType" "MUSCAT" "Lcom/example/cropmark/cropmark/VarietalType;").before a0 Z = true := hw _ (List.mem_of_getElem? (i := 17) rfl)
theorem w18 {Z : State} {a0 : Array Value} (hw : ∀ d ∈ tables_1, d.before a0 Z = true) : (Jvm.Cond.fieldLink "com/example/cropmark/cropmark/VarietalTypeGroupPinLaw" (31 : Nat) "com/example/cropmark/cropmark/VarietalType" "SULTANA" "Lcom/example/cropmark/cropmark/VarietalType;").before a0 Z = true := hw _ (List.mem_of_getElem? (i := 18) rfl)
theorem w19 {Z : State} {a0 : Array Value} (hw : ∀ d ∈ tables_1, d.before a0 Z = true) : (Jvm.Cond.laysStatic "com/example/cropmark/cropmark/VarietalType" "SULTANA" "Lcom/example/cropmark/cropmark/VarietalType;").before a0 Z = true := hw _ (List.mem_of_getElem? (i := 19) rfl)
theorem w20 {Z : State} {a0 : Array Value} (hw : ∀ d ∈ tables_1, d.before a0 Z = true) : (Jvm.Cond.fieldLink "com/example/cropmark/cropmark/VarietalTypeGroupPinLaw" (34 : Nat) "com/example/cropmark/cropmark/VarietalType" "ZANTE_CURRANT" "Lcom/example/cropmark/cropmark/VarietalType;").before a0 Z = true := hw _ (List.mem_of_getElem? (i := 20) rfl)
theorem w21 {Z : State} {a0 : Array Value} (hw : ∀ d ∈ tables_1, d.before a0 Z = true) : (Jvm.Cond.laysStatic "com/example/cropmark/cropmark/VarietalType" "ZANTE_CURRANT" "Lcom/example/cropmark/cropmark/VarietalType;").before a0 Z = true := hw _ (List.mem_of_getElem? (i := 21) rfl)
theorem w22 {Z : State} {a0 : Array Value} (hw : ∀ d ∈ tables_1, d.before a0 Z = true) : (Jvm.Cond.constant "com/example/cropmark/cropmark/VarietalTypeGroupPinLaw" (37 : Nat) (2147483647 : Int32)).before a0 Z = true := hw _ (List.mem_of_getElem? (i := 22) rfl)
theorem w23 {Z : State} {a0 : Array Value} (hw : ∀ d ∈ tables_1, d.before a0 Z = true) : (Jvm.Cond.fieldLink "com/example/cropmark/cropmark/VarietalTypeGroupPinLaw" (38 : Nat) "com/example/cropmark/cropmark/VarietalType$Group" "A" "Lcom/example/cropmark/cropmark/VarietalType$Group;").before a0 Z = true := hw _ (List.mem_of_getElem? (i := 23) rfl)
theorem w24 {Z : State} {a0 : Array Value} (hw : ∀ d ∈ tables_1, d.before a0 Z = true) : (Jvm.Cond.initialized "com/example/cropmark/cropmark/VarietalType$Group").before a0 Z = true := hw _ (List.mem_of_getElem? (i := 24) rfl)
theorem w25 {Z : State} {a0 : Array Value} (hw : ∀ d ∈ tables_1, d.before a0 Z = true) : (Jvm.Cond.laysStatic "com/example/cropmark/cropmark/VarietalType$Group" "A" "Lcom/example/cropmark/cropmark/VarietalType$Group;").before a0 Z = true := hw _ (List.mem_of_getElem? (i := 25) rfl)
theorem w26 {Z : State} {a0 : Array Value} (hw : ∀ d ∈ tables_1, d.before a0 Z = true) : (Jvm.Cond.methodLink "com/example/cropmark/cropmark/VarietalTypeGroupPinLaw" (47 : Nat) ({ cls := "com/example/cropmark/cropmark/VarietalType", name := "group", desc := "()Lcom/example/cropmark/cropmark/VarietalType$Group;" } : Jvm.MethodName)).before a0 Z = true := hw _ (List.mem_of_getElem? (i := 26) rfl)
theorem w27 {Z : State} {a0 : Array Value} (hw : ∀ d ∈ tables_1, d.before a0 Z = true) : (Jvm.Cond.declares ({ cls := "com/example/cropmark/cropmark/VarietalType", name := "group", desc := "()Lcom/example/cropmark/cropmark/VarietalType$Group;" } : Jvm.MethodName)).before a0 Z = true := hw _ (List.mem_of_getElem? (i := 27) rfl)
theorem w28 {Z : State} {a0 : Array Value} (hw : ∀ d ∈ tables_1, d.before a0 Z = true) : (Jvm.Cond.instanceMethod ({ cls := "com/example/cropmark/cropmark/VarietalType", name := "group", desc := "()Lcom/example/cropmark/cropmark/VarietalType$Group;" } : Jvm.MethodName)).before a0 Z = true := hw _ (List.mem_of_getElem? (i := 28) rfl)
theorem w29 {Z : State} {a0 : Array Value} (hw : ∀ d ∈ tables_1, d.before a0 Z = true) : (Jvm.Cond.selects "com/example/cropmark/cropmark/VarietalType" ({ cls := "com/example/cropmark/cropmark/VarietalType", name := "group", desc := "()Lcom/example/cropmark/cropmark/VarietalType$Group;" } : Jvm.MethodName) ({ cls := "com/example/cropmark/cropmark/VarietalType", name := "group", desc := "()Lcom/example/cropmark/cropmark/VarietalType$Group;" } : Jvm.MethodName)).before a0 Z = true := hw _ (List.mem_of_getElem? (i := 29) rfl)
theorem w30 {Z : State} {a0 : Array Value} (hw : ∀ d ∈ tables_1, d.before a0 Z = true) : (Jvm.Cond.code ({ cls := "com/example/cropmark/cropmark/VarietalType", name := "group", desc := "()Lcom/example/cropmark/cropmark/VarietalType$Group;" } : Jvm.MethodName) prog_87_method_4_code (1 : Nat) (Option.some (Jvm.ClassFile.FieldType.object "com/example/cropmark/cropmark/VarietalType$Group"))).before a0 Z = true := hw _ (List.mem_of_getElem? (i := 30) rfl)
theorem w31 {Z : State} {a0 : Array Value} (hw : ∀ d ∈ tables_1, d.before a0 Z = true) : (Jvm.Cond.methodLink "com/example/cropmark/cropmark/VarietalType" (50 : Nat) ({ cls := "com/example/cropmark/cropmark/VarietalType", name := "ordinal", desc := "()I" } : Jvm.MethodName)).before a0 Z = true := hw _ (List.mem_of_getElem? (i := 31) rfl)
theorem w32 {Z : State} {a0 : Array Value} (hw : ∀ d ∈ tables_1, d.before a0 Z = true) : (Jvm.Cond.sameMethod "com/example/cropmark/cropmark/VarietalType" "java/lang/Enum" "ordinal" "()I").before a0 Z = true := hw _ (List.mem_of_getElem? (i := 32) rfl)
theorem w33 {Z : State} {a0 : Array Value} (hw : ∀ d ∈ tables_1, d.before a0 Z = true) : (Jvm.Cond.declares ({ cls := "java/lang/Enum", name := "ordinal", desc := "()I" } : Jvm.MethodName)).before a0 Z = true := hw _ (List.mem_of_getElem? (i := 33) rfl)
theorem w34 {Z : State} {a0 : Array Value} (hw : ∀ d ∈ tables_1, d.before a0 Z = true) : (Jvm.Cond.instanceMethod ({ cls := "java/lang/Enum", name := "ordinal", desc := "()I" } : Jvm.MethodName)).before a0 Z = true := hw _ (List.mem_of_getElem? (i := 34) rfl)
theorem w35 {Z : State} {a0 : Array Value} (hw : ∀ d ∈ tables_1, d.before a0 Z = true) : (Jvm.Cond.selects "com/example/cropmark/cropmark/VarietalType" ({ cls := "com/example/cropmark/cropmark/VarietalType", name := "ordinal", desc := "()I" } : Jvm.MethodName) ({ cls := "java/lang/Enum", name := "ordinal", desc := "()I" } : Jvm.MethodName)).before a0 Z = true := hw _ (List.mem_of_getElem? (i := 35) rfl)
theorem w36 {Z : State} {a0 : Array Value} (hw : ∀ d ∈ tables_1, d.before a0 Z = true) : (Jvm.Cond.initialized "java/lang/Enum").before a0 Z = true := hw _ (List.mem_of_getElem? (i := 36) rfl)
theorem w37 {Z : State} {a0 : Array Value} (hw : ∀ d ∈ tables_1, d.before a0 Z = true) : (Jvm.Cond.code ({ cls := "java/lang/Enum", name := "ordinal", desc := "()I" } : Jvm.MethodName) jdk_37_method_2_code (1 : Nat) (Option.some Jvm.ClassFile.FieldType.int)).before a0 Z = true := hw _ (List.mem_of_getElem? (i := 37) rfl)
theorem w38 {Z : State} {a0 : Array Value} (hw : ∀ d ∈ tables_1, d.before a0 Z = true) : (Jvm.Cond.fieldLink "java/lang/Enum" (7 : Nat) "java/lang/Enum" "ordinal" "I").before a0 Z = true := hw _ (List.mem_of_getElem? (i := 38) rfl)
theorem w40 {Z : State} {a0 : Array Value} (hw : ∀ d ∈ tables_1, d.before a0 Z = true) : (Jvm.Cond.fieldLink "com/example/cropmark/cropmark/VarietalType" (59 : Nat) "com/example/cropmark/cropmark/VarietalType$Group" "A" "Lcom/example/cropmark/cropmark/VarietalType$Group;").before a0 Z = true := hw _ (List.mem_of_getElem? (i := 40) rfl)
theorem w41 {Z : State} {a0 : Array Value} (hw : ∀ d ∈ tables_1, d.before a0 Z = true) : (Jvm.Cond.fieldLink "com/example/cropmark/cropmark/VarietalTypeGroupPinLaw" (44 : Nat) "com/example/cropmark/cropmark/VarietalType$Group" "B" "Lcom/example/cropmark/cropmark/VarietalType$Group;").before a0 Z = true := hw _ (List.mem_of_getElem? (i := 41) rfl)
theorem w42 {Z : State} {a0 : Array Value} (hw : ∀ d ∈ tables_1, d.before a0 Z = true) : (Jvm.Cond.laysStatic "com/example/cropmark/cropmark/VarietalType$Group" "B" "Lcom/example/cropmark/cropmark/VarietalType$Group;").before a0 Z = true := hw _ (List.mem_of_getElem? (i := 42) rfl)
theorem w43 {Z : State} {a0 : Array Value} (hw : ∀ d ∈ tables_1, d.before a0 Z = true) : (Jvm.Cond.fieldLink "com/example/cropmark/cropmark/VarietalType" (65 : Nat) "com/example/cropmark/cropmark/VarietalType$Group" "B" "Lcom/example/cropmark/cropmark/VarietalType$Group;").before a0 Z = true := hw _ (List.mem_of_getElem? (i := 43) rfl)
theorem d1_0 : decode prog_87_method_4_code 0 = .ok (.aload_n 0, 1) := by decide +kernel
theorem d1_1 : decode prog_87_method_4_code 1 = .ok (.invokevirtual 50, 3) := by decide +kernel
theorem d1_4 : decode prog_87_method_4_code 4 = .ok (.tableswitch 52 0 8 #[62, 62, 62, 62, 62, 62, 68, 68, 68], 52) := by decide +kernel
theorem d1_66 : decode prog_87_method_4_code 66 = .ok (.getstatic 59, 3) := by decide +kernel
theorem d1_69 : decode prog_87_method_4_code 69 = .ok (.goto 6, 3) := by decide +kernel
theorem d1_72 : decode prog_87_method_4_code 72 = .ok (.getstatic 65, 3) := by decide +kernel
theorem d1_75 : decode prog_87_method_4_code 75 = .ok (.areturn, 1) := by decide +kernel
theorem d2_0 : decode jdk_37_method_2_code 0 = .ok (.aload_n 0, 1) := by decide +kernel
theorem d2_1 : decode jdk_37_method_2_code 1 = .ok (.getfield 7, 3) := by decide +kernel
theorem d2_4 : decode jdk_37_method_2_code 4 = .ok (.ireturn, 1) := by decide +kernel
theorem pd_0 : parseMethodDescriptor "()I" = some ⟨[], some .int⟩ := by decide +kernel
theorem pd_1 : parseMethodDescriptor "()Lcom/example/cropmark/cropmark/VarietalType$Group;" = some ⟨[], some (.object "com/example/cropmark/cropmark/VarietalType$Group")⟩ := by decide +kernel
theorem pn_0 : plainName "java/lang/Enum" = true := by first | (simp [plainName, overriddenIn]; done) | decide +kernel
theorem pn_1 : plainName "com/example/cropmark/cropmark/VarietalType" = true := by first | (simp [plainName, overriddenIn]; done) | decide +kernel
theorem pn_2 : plainName "com/example/cropmark/cropmark/VarietalTypeGroupPinLaw" = true := by first | (simp [plainName, overriddenIn]; done) | decide +kernel
def Q_rm2_1 (Z : State) (a1 : Addr) (h0 : Heap) (n0 : Nat) (v : Option Value) (h : Heap) (L : List Loc) : Prop := v = some (.int (0 : Int32)) ∧ Fr n0 L ∧ h = h0
set_option maxRecDepth 65536 in
set_option maxHeartbeats 40000000 in
theorem rm2_1 (l : Launch) (Z : State) (a0 : Array Value) (hw : ∀ d ∈ tables_1, d.before a0 Z = true) (ws : List Jvm.Cond) (a1 : Addr) (h0 : Heap) (n0 : Nat) (O0 : Old Z n0 h0) (P1 : Fld Z Z.heap a1 "java/lang/Enum" "ordinal" "I" (.int (0 : Int32))) :
    MetFree l (⟨"java/lang/Enum", "ordinal", "()I"⟩ : MethodName) (head1 (Jvm.Cond.code (⟨"java/lang/Enum", "ordinal", "()I"⟩ : MethodName) jdk_37_method_2_code 1 (some .int) :: ws) ({ frames := 0, cells := 0, slots := 0, locals := 0 } : Room)) (fun a U => a = #[(.ref a1)] ∧ Z.Warmed39 U.vm ∧ U.heap = h0) (fun _ _ _ _ _ => True) (fun _ U o U' => ∃ v L, o = .returned v ∧ Q_rm2_1 Z a1 h0 n0 v U'.heap L ∧ FrameEnd U o U' L ({ frames := 0, cells := 0, slots := 0, locals := 0 } : Room).cells ({ frames := 0, cells := 0, slots := 0, locals := 0 } : Room).slots) := by
  refine MetFree.of_bodySF (plainFor_of_name pn_0) hisR ?_
  intro p e s m args below meth c s₁ Bd hml0 hP hK
  obtain ⟨rfl, hZ, hh⟩ := hP
  have hx := Bd.exec
  have hby := Bd.bytes
  have hml : c.maxLocals = 1 := hml0
  have hown : s.vm.findClass "java/lang/Enum" = some m.cls := findClass_of_methodNamed Bd.named
  have hnm := (name_of_methodNamed Bd.named Bd.method).1
  have X0 : Stand p l e ({ frames := 0, cells := 0, slots := 0, locals := 0 } : Room) s m #[(.ref a1)] below meth c s₁ [] 0 0 := Stand.of_body Bd
  have e0 : s₁.heap = h0 := by rw [← hh, Bd.state]; rfl
  have N0 := Fr.nil n0
  refine Go.start (P := (fun o U' => ∃ v L, o = .returned v ∧ Q_rm2_1 Z a1 h0 n0 v U'.heap L ∧ FrameEnd s o U' L ({ frames := 0, cells := 0, slots := 0, locals := 0 } : Room).cells ({ frames := 0, cells := 0, slots := 0, locals := 0 } : Room).slots)) (castTop (g' := (mkF m 0 #[.val (.ref a1)] [])) (by first | rfl | simp [entryFrame, mkF, argsToLocals, Value.category]) (T := s₁)) ?_
  refine Go.st (fun t k => XS.aloadN X0.here hx rfl (hb hby d2_0) rfl rfl k) ?_
  show Go p e below _ (s₁.setTop (mkF m 1 #[.val (.ref a1)] [(.ref a1)]))
  obtain ⟨T1, X1, e1, st1⟩ := getF X0 hx hZ hown (host := "") (Or.inl (w38 hw)) Via.refl e0 (P1.ext O0.2) (g := (mkF m 1 #[.val (.ref a1)] [(.ref a1)])) rfl rfl (hb hby d2_1)
  refine Go.st st1 ?_
  show Go p e below _ (T1.setTop (mkF m 4 #[.val (.ref a1)] [(.int (0 : Int32))]))
  obtain ⟨fs, hr, hrun, hended, hWd, hsame⟩ := X1.leave (v := some (.int (0 : Int32))) (fun h => by rw [Bd.returns] at h; cases h)
  refine ⟨_, _, ?_, hrun, hended, _, _, rfl, ?_, ⟨⟨_, rfl⟩, hWd, hsame.mono (by decide) (by decide)⟩⟩
  · exact retI X1 hx Bd.returns (hb hby d2_4) hr
  · show Q_rm2_1 Z a1 h0 n0 _ T1.heap _
    rw [e1]
    exact ⟨rfl, N0, rfl⟩
def Q_rm1_1 (Z : State) (a1 : Addr) (a2 : Addr) (h0 : Heap) (n0 : Nat) (v : Option Value) (h : Heap) (L : List Loc) : Prop := v = some (.ref a2) ∧ Fr n0 L ∧ h = h0
set_option maxRecDepth 65536 in
set_option maxHeartbeats 40000000 in
theorem rm1_1 (l : Launch) (Z : State) (a0 : Array Value) (hw : ∀ d ∈ tables_1, d.before a0 Z = true) (ws : List Jvm.Cond) (a1 : Addr) (a2 : Addr) (h0 : Heap) (n0 : Nat) (O0 : Old Z n0 h0) (P1 : Exa Z Z.heap a1 "com/example/cropmark/cropmark/VarietalType") (P2 : Fld Z Z.heap a1 "java/lang/Enum" "ordinal" "I" (.int (0 : Int32))) (P3 : Sta Z Z.heap "com/example/cropmark/cropmark/VarietalType$Group" "A" "Lcom/example/cropmark/cropmark/VarietalType$Group;" (.ref a2)) :
    MetFree l (⟨"com/example/cropmark/cropmark/VarietalType", "group", "()Lcom/example/cropmark/cropmark/VarietalType$Group;"⟩ : MethodName) (head1 (Jvm.Cond.code (⟨"com/example/cropmark/cropmark/VarietalType", "group", "()Lcom/example/cropmark/cropmark/VarietalType$Group;"⟩ : MethodName) prog_87_method_4_code 1 (some (.object "com/example/cropmark/cropmark/VarietalType$Group")) :: ws) ({ frames := 1, cells := 0, slots := 0, locals := 12 } : Room)) (fun a U => a = #[(.ref a1)] ∧ Z.Warmed39 U.vm ∧ U.heap = h0) (fun _ _ _ _ _ => True) (fun _ U o U' => ∃ v L, o = .returned v ∧ Q_rm1_1 Z a1 a2 h0 n0 v U'.heap L ∧ FrameEnd U o U' L ({ frames := 1, cells := 0, slots := 0, locals := 12 } : Room).cells ({ frames := 1, cells := 0, slots := 0, locals := 12 } : Room).slots) := by
  refine MetFree.of_bodySF (plainFor_of_name pn_1) hisR ?_
  intro p e s m args below meth c s₁ Bd hml0 hP hK
  obtain ⟨rfl, hZ, hh⟩ := hP
  have hx := Bd.exec
  have hby := Bd.bytes
  have hml : c.maxLocals = 1 := hml0
  have hown : s.vm.findClass "com/example/cropmark/cropmark/VarietalType" = some m.cls := findClass_of_methodNamed Bd.named
  have hnm := (name_of_methodNamed Bd.named Bd.method).1
  have X0 : Stand p l e ({ frames := 1, cells := 0, slots := 0, locals := 12 } : Room) s m #[(.ref a1)] below meth c s₁ [] 0 0 := Stand.of_body Bd
  have e0 : s₁.heap = h0 := by rw [← hh, Bd.state]; rfl
  have N0 := Fr.nil n0
  refine Go.start (P := (fun o U' => ∃ v L, o = .returned v ∧ Q_rm1_1 Z a1 a2 h0 n0 v U'.heap L ∧ FrameEnd s o U' L ({ frames := 1, cells := 0, slots := 0, locals := 12 } : Room).cells ({ frames := 1, cells := 0, slots := 0, locals := 12 } : Room).slots)) (castTop (g' := (mkF m 0 #[.val (.ref a1)] [])) (by first | rfl | simp [entryFrame, mkF, argsToLocals, Value.category]) (T := s₁)) ?_
  refine Go.st (fun t k => XS.aloadN X0.here hx rfl (hb hby d1_0) rfl rfl k) ?_
  show Go p e below _ (s₁.setTop (mkF m 1 #[.val (.ref a1)] [(.ref a1)]))
  obtain ⟨cq1, kq1, q1a, q1b, q1c⟩ := isOf hZ e0 (P1.ext O0.2)
  obtain ⟨_, _, ⟨T1, L1, k1, n1⟩, -, X1, ⟨Lc1, hQ1, l1, y1, z1⟩, st1⟩ := X0.virtualBackUp hx (x := (⟨"com/example/cropmark/cropmark/VarietalType", "ordinal", "()I"⟩ : MethodName)) (y := (⟨"java/lang/Enum", "ordinal", "()I"⟩ : MethodName)) (owner := "java/lang/Enum") hown (mvT hZ (w31 hw)) (mvT hZ (w32 hw)) (mvT hZ (w33 hw)) (by decide) (mvT hZ (w35 hw)) (mvT hZ (w34 hw)) (backOf (W := 0) (rm2_1 l Z a0 hw [] a1 h0 n0 O0 P2) hZ (w37 hw) (w36 hw) (by decide) (by decide)) q1a q1c (g := (mkF m 1 #[.val (.ref a1)] [(.ref a1)])) rfl (by rw [hml]; rfl) (Steps.refl _) (argsL := []) (rest := []) (lenOf pd_0 rfl) rfl (by show 2 * 0 + _ ≤ _; exact Nat.le_of_eq rfl) (hb hby d1_1) (fun vm₁ hw₁ => ⟨rfl, e0, (by decide : 0 + 0 ≤ _), (by decide : 0 + 0 ≤ _)⟩)
  dsimp only [Pt.U, Pt.locs, Pt.cells, Pt.slots] at X1 l1 y1 z1 st1 hQ1
  subst l1 y1 z1
  obtain ⟨rfl, M1, eh1⟩ := hQ1
  have N1 := Fr.app N0 M1
  refine Go.tr st1 ?_
  show Go p e below _ (T1.setTop (mkF m 4 #[.val (.ref a1)] [(.int (0 : Int32))]))
  refine Go.st (fun t k => XS.tswIn X1.here hx rfl (pc0 := 4) (pc' := 66) rfl (hb hby d1_4) rfl (by decide) (o := 62) (by decide) (by decide) (by decide) k) ?_
  show Go p e below _ (T1.setTop (mkF m 66 #[.val (.ref a1)] []))
  obtain ⟨T2, X2, e2, st2⟩ := getS2 X1 hx hZ hown (host := "") (Or.inl (w40 hw)) Via.refl eh1 (P3.ext O0.2) (g := (mkF m 66 #[.val (.ref a1)] [])) rfl (hb hby d1_66)
  refine Go.st st2 ?_
  show Go p e below _ (T2.setTop (mkF m 69 #[.val (.ref a1)] [(.ref a2)]))
  refine Go.st (fun t k => XS.goto X2.here hx rfl (pc0 := 69) (pc' := 75) rfl (hb hby d1_69) (by decide) (by decide) k) ?_
  show Go p e below _ (T2.setTop (mkF m 75 #[.val (.ref a1)] [(.ref a2)]))
  obtain ⟨fs, hr, hrun, hended, hWd, hsame⟩ := X2.leave (v := some (.ref a2)) (fun h => by rw [Bd.returns] at h; cases h)
  refine ⟨_, _, ?_, hrun, hended, _, _, rfl, ?_, ⟨⟨_, rfl⟩, hWd, hsame.mono (by decide) (by decide)⟩⟩
  · exact own_retA X2 hx Bd.returns rfl rfl (hb hby d1_75) hr
  · show Q_rm1_1 Z a1 a2 h0 n0 _ T2.heap _
    rw [e2]
    exact ⟨rfl, N1, rfl⟩
def Q_rm2_2 (Z : State) (a1 : Addr) (h0 : Heap) (n0 : Nat) (v : Option Value) (h : Heap) (L : List Loc) : Prop := v = some (.int (1 : Int32)) ∧ Fr n0 L ∧ h = h0
set_option maxRecDepth 65536 in
set_option maxHeartbeats 40000000 in
theorem rm2_2 (l : Launch) (Z : State) (a0 : Array Value) (hw : ∀ d ∈ tables_1, d.before a0 Z = true) (ws : List Jvm.Cond) (a1 : Addr) (h0 : Heap) (n0 : Nat) (O0 : Old Z n0 h0) (P1 : Fld Z Z.heap a1 "java/lang/Enum" "ordinal" "I" (.int (1 : Int32))) :
    MetFree l (⟨"java/lang/Enum", "ordinal", "()I"⟩ : MethodName) (head1 (Jvm.Cond.code (⟨"java/lang/Enum", "ordinal", "()I"⟩ : MethodName) jdk_37_method_2_code 1 (some .int) :: ws) ({ frames := 0, cells := 0, slots := 0, locals := 0 } : Room)) (fun a U => a = #[(.ref a1)] ∧ Z.Warmed39 U.vm ∧ U.heap = h0) (fun _ _ _ _ _ => True) (fun _ U o U' => ∃ v L, o = .returned v ∧ Q_rm2_2 Z a1 h0 n0 v U'.heap L ∧ FrameEnd U o U' L ({ frames := 0, cells := 0, slots := 0, locals := 0 } : Room).cells ({ frames := 0, cells := 0, slots := 0, locals := 0 } : Room).slots) := by
  refine MetFree.of_bodySF (plainFor_of_name pn_0) hisR ?_
  intro p e s m args below meth c s₁ Bd hml0 hP hK
  obtain ⟨rfl, hZ, hh⟩ := hP
  have hx := Bd.exec
  have hby := Bd.bytes
  have hml : c.maxLocals = 1 := hml0
  have hown : s.vm.findClass "java/lang/Enum" = some m.cls := findClass_of_methodNamed Bd.named
  have hnm := (name_of_methodNamed Bd.named Bd.method).1
  have X0 : Stand p l e ({ frames := 0, cells := 0, slots := 0, locals := 0 } : Room) s m #[(.ref a1)] below meth c s₁ [] 0 0 := Stand.of_body Bd
  have e0 : s₁.heap = h0 := by rw [← hh, Bd.state]; rfl
  have N0 := Fr.nil n0
  refine Go.start (P := (fun o U' => ∃ v L, o = .returned v ∧ Q_rm2_2 Z a1 h0 n0 v U'.heap L ∧ FrameEnd s o U' L ({ frames := 0, cells := 0, slots := 0, locals := 0 } : Room).cells ({ frames := 0, cells := 0, slots := 0, locals := 0 } : Room).slots)) (castTop (g' := (mkF m 0 #[.val (.ref a1)] [])) (by first | rfl | simp [entryFrame, mkF, argsToLocals, Value.category]) (T := s₁)) ?_
  refine Go.st (fun t k => XS.aloadN X0.here hx rfl (hb hby d2_0) rfl rfl k) ?_
  show Go p e below _ (s₁.setTop (mkF m 1 #[.val (.ref a1)] [(.ref a1)]))
  obtain ⟨T1, X1, e1, st1⟩ := getF X0 hx hZ hown (host := "") (Or.inl (w38 hw)) Via.refl e0 (P1.ext O0.2) (g := (mkF m 1 #[.val (.ref a1)] [(.ref a1)])) rfl rfl (hb hby d2_1)
  refine Go.st st1 ?_
  show Go p e below _ (T1.setTop (mkF m 4 #[.val (.ref a1)] [(.int (1 : Int32))]))
  obtain ⟨fs, hr, hrun, hended, hWd, hsame⟩ := X1.leave (v := some (.int (1 : Int32))) (fun h => by rw [Bd.returns] at h; cases h)
  refine ⟨_, _, ?_, hrun, hended, _, _, rfl, ?_, ⟨⟨_, rfl⟩, hWd, hsame.mono (by decide) (by decide)⟩⟩
  · exact retI X1 hx Bd.returns (hb hby d2_4) hr
  · show Q_rm2_2 Z a1 h0 n0 _ T1.heap _
    rw [e1]
    exact ⟨rfl, N0, rfl⟩
def Q_rm1_2 (Z : State) (a1 : Addr) (a2 : Addr) (h0 : Heap) (n0 : Nat) (v : Option Value) (h : Heap) (L : List Loc) : Prop := v = some (.ref a2) ∧ Fr n0 L ∧ h = h0
set_option maxRecDepth 65536 in
set_option maxHeartbeats 40000000 in
theorem rm1_2 (l : Launch) (Z : State) (a0 : Array Value) (hw : ∀ d ∈ tables_1, d.before a0 Z = true) (ws : List Jvm.Cond) (a1 : Addr) (a2 : Addr) (h0 : Heap) (n0 : Nat) (O0 : Old Z n0 h0) (P1 : Exa Z Z.heap a1 "com/example/cropmark/cropmark/VarietalType") (P2 : Fld Z Z.heap a1 "java/lang/Enum" "ordinal" "I" (.int (1 : Int32))) (P3 : Sta Z Z.heap "com/example/cropmark/cropmark/VarietalType$Group" "A" "Lcom/example/cropmark/cropmark/VarietalType$Group;" (.ref a2)) :
    MetFree l (⟨"com/example/cropmark/cropmark/VarietalType", "group", "()Lcom/example/cropmark/cropmark/VarietalType$Group;"⟩ : MethodName) (head1 (Jvm.Cond.code (⟨"com/example/cropmark/cropmark/VarietalType", "group", "()Lcom/example/cropmark/cropmark/VarietalType$Group;"⟩ : MethodName) prog_87_method_4_code 1 (some (.object "com/example/cropmark/cropmark/VarietalType$Group")) :: ws) ({ frames := 1, cells := 0, slots := 0, locals := 12 } : Room)) (fun a U => a = #[(.ref a1)] ∧ Z.Warmed39 U.vm ∧ U.heap = h0) (fun _ _ _ _ _ => True) (fun _ U o U' => ∃ v L, o = .returned v ∧ Q_rm1_2 Z a1 a2 h0 n0 v U'.heap L ∧ FrameEnd U o U' L ({ frames := 1, cells := 0, slots := 0, locals := 12 } : Room).cells ({ frames := 1, cells := 0, slots := 0, locals := 12 } : Room).slots) := by
  refine MetFree.of_bodySF (plainFor_of_name pn_1) hisR ?_
  intro p e s m args below meth c s₁ Bd hml0 hP hK
  obtain ⟨rfl, hZ, hh⟩ := hP
  have hx := Bd.exec
  have hby := Bd.bytes
  have hml : c.maxLocals = 1 := hml0
  have hown : s.vm.findClass "com/example/cropmark/cropmark/VarietalType" = some m.cls := findClass_of_methodNamed Bd.named
  have hnm := (name_of_methodNamed Bd.named Bd.method).1
  have X0 : Stand p l e ({ frames := 1, cells := 0, slots := 0, locals := 12 } : Room) s m #[(.ref a1)] below meth c s₁ [] 0 0 := Stand.of_body Bd
  have e0 : s₁.heap = h0 := by rw [← hh, Bd.state]; rfl
  have N0 := Fr.nil n0
  refine Go.start (P := (fun o U' => ∃ v L, o = .returned v ∧ Q_rm1_2 Z a1 a2 h0 n0 v U'.heap L ∧ FrameEnd s o U' L ({ frames := 1, cells := 0, slots := 0, locals := 12 } : Room).cells ({ frames := 1, cells := 0, slots := 0, locals := 12 } : Room).slots)) (castTop (g' := (mkF m 0 #[.val (.ref a1)] [])) (by first | rfl | simp [entryFrame, mkF, argsToLocals, Value.category]) (T := s₁)) ?_
  refine Go.st (fun t k => XS.aloadN X0.here hx rfl (hb hby d1_0) rfl rfl k) ?_
  show Go p e below _ (s₁.setTop (mkF m 1 #[.val (.ref a1)] [(.ref a1)]))
  obtain ⟨cq1, kq1, q1a, q1b, q1c⟩ := isOf hZ e0 (P1.ext O0.2)
  obtain ⟨_, _, ⟨T1, L1, k1, n1⟩, -, X1, ⟨Lc1, hQ1, l1, y1, z1⟩, st1⟩ := X0.virtualBackUp hx (x := (⟨"com/example/cropmark/cropmark/VarietalType", "ordinal", "()I"⟩ : MethodName)) (y := (⟨"java/lang/Enum", "ordinal", "()I"⟩ : MethodName)) (owner := "java/lang/Enum") hown (mvT hZ (w31 hw)) (mvT hZ (w32 hw)) (mvT hZ (w33 hw)) (by decide) (mvT hZ (w35 hw)) (mvT hZ (w34 hw)) (backOf (W := 0) (rm2_2 l Z a0 hw [] a1 h0 n0 O0 P2) hZ (w37 hw) (w36 hw) (by decide) (by decide)) q1a q1c (g := (mkF m 1 #[.val (.ref a1)] [(.ref a1)])) rfl (by rw [hml]; rfl) (Steps.refl _) (argsL := []) (rest := []) (lenOf pd_0 rfl) rfl (by show 2 * 0 + _ ≤ _; exact Nat.le_of_eq rfl) (hb hby d1_1) (fun vm₁ hw₁ => ⟨rfl, e0, (by decide : 0 + 0 ≤ _), (by decide : 0 + 0 ≤ _)⟩)
  dsimp only [Pt.U, Pt.locs, Pt.cells, Pt.slots] at X1 l1 y1 z1 st1 hQ1
  subst l1 y1 z1
  obtain ⟨rfl, M1, eh1⟩ := hQ1
  have N1 := Fr.app N0 M1
  refine Go.tr st1 ?_
  show Go p e below _ (T1.setTop (mkF m 4 #[.val (.ref a1)] [(.int (1 : Int32))]))
  refine Go.st (fun t k => XS.tswIn X1.here hx rfl (pc0 := 4) (pc' := 66) rfl (hb hby d1_4) rfl (by decide) (o := 62) (by decide) (by decide) (by decide) k) ?_
  show Go p e below _ (T1.setTop (mkF m 66 #[.val (.ref a1)] []))
  obtain ⟨T2, X2, e2, st2⟩ := getS2 X1 hx hZ hown (host := "") (Or.inl (w40 hw)) Via.refl eh1 (P3.ext O0.2) (g := (mkF m 66 #[.val (.ref a1)] [])) rfl (hb hby d1_66)
  refine Go.st st2 ?_
  show Go p e below _ (T2.setTop (mkF m 69 #[.val (.ref a1)] [(.ref a2)]))
  refine Go.st (fun t k => XS.goto X2.here hx rfl (pc0 := 69) (pc' := 75) rfl (hb hby d1_69) (by decide) (by decide) k) ?_
  show Go p e below _ (T2.setTop (mkF m 75 #[.val (.ref a1)] [(.ref a2)]))
  obtain ⟨fs, hr, hrun, hended, hWd, hsame⟩ := X2.leave (v := some (.ref a2)) (fun h => by rw [Bd.returns] at h; cases h)
  refine ⟨_, _, ?_, hrun, hended, _, _, rfl, ?_, ⟨⟨_, rfl⟩, hWd, hsame.mono (by decide) (by decide)⟩⟩
  · exact own_retA X2 hx Bd.returns rfl rfl (hb hby d1_75) hr
  · show Q_rm1_2 Z a1 a2 h0 n0 _ T2.heap _
    rw [e2]
    exact ⟨rfl, N1, rfl⟩
def Q_rm2_3 (Z : State) (a1 : Addr) (h0 : Heap) (n0 : Nat) (v : Option Value) (h : Heap) (L : List Loc) : Prop := v = some (.int (2 : Int32)) ∧ Fr n0 L ∧ h = h0
set_option maxRecDepth 65536 in
set_option maxHeartbeats 40000000 in
theorem rm2_3 (l : Launch) (Z : State) (a0 : Array Value) (hw : ∀ d ∈ tables_1, d.before a0 Z = true) (ws : List Jvm.Cond) (a1 : Addr) (h0 : Heap) (n0 : Nat) (O0 : Old Z n0 h0) (P1 : Fld Z Z.heap a1 "java/lang/Enum" "ordinal" "I" (.int (2 : Int32))) :
    MetFree l (⟨"java/lang/Enum", "ordinal", "()I"⟩ : MethodName) (head1 (Jvm.Cond.code (⟨"java/lang/Enum", "ordinal", "()I"⟩ : MethodName) jdk_37_method_2_code 1 (some .int) :: ws) ({ frames := 0, cells := 0, slots := 0, locals := 0 } : Room)) (fun a U => a = #[(.ref a1)] ∧ Z.Warmed39 U.vm ∧ U.heap = h0) (fun _ _ _ _ _ => True) (fun _ U o U' => ∃ v L, o = .returned v ∧ Q_rm2_3 Z a1 h0 n0 v U'.heap L ∧ FrameEnd U o U' L ({ frames := 0, cells := 0, slots := 0, locals := 0 } : Room).cells ({ frames := 0, cells := 0, slots := 0, locals := 0 } : Room).slots) := by
  refine MetFree.of_bodySF (plainFor_of_name pn_0) hisR ?_
  intro p e s m args below meth c s₁ Bd hml0 hP hK
  obtain ⟨rfl, hZ, hh⟩ := hP
  have hx := Bd.exec
  have hby := Bd.bytes
  have hml : c.maxLocals = 1 := hml0
  have hown : s.vm.findClass "java/lang/Enum" = some m.cls := findClass_of_methodNamed Bd.named
  have hnm := (name_of_methodNamed Bd.named Bd.method).1
  have X0 : Stand p l e ({ frames := 0, cells := 0, slots := 0, locals := 0 } : Room) s m #[(.ref a1)] below meth c s₁ [] 0 0 := Stand.of_body Bd
  have e0 : s₁.heap = h0 := by rw [← hh, Bd.state]; rfl
  have N0 := Fr.nil n0
  refine Go.start (P := (fun o U' => ∃ v L, o = .returned v ∧ Q_rm2_3 Z a1 h0 n0 v U'.heap L ∧ FrameEnd s o U' L ({ frames := 0, cells := 0, slots := 0, locals := 0 } : Room).cells ({ frames := 0, cells := 0, slots := 0, locals := 0 } : Room).slots)) (castTop (g' := (mkF m 0 #[.val (.ref a1)] [])) (by first | rfl | simp [entryFrame, mkF, argsToLocals, Value.category]) (T := s₁)) ?_
  refine Go.st (fun t k => XS.aloadN X0.here hx rfl (hb hby d2_0) rfl rfl k) ?_
  show Go p e below _ (s₁.setTop (mkF m 1 #[.val (.ref a1)] [(.ref a1)]))
  obtain ⟨T1, X1, e1, st1⟩ := getF X0 hx hZ hown (host := "") (Or.inl (w38 hw)) Via.refl e0 (P1.ext O0.2) (g := (mkF m 1 #[.val (.ref a1)] [(.ref a1)])) rfl rfl (hb hby d2_1)
  refine Go.st st1 ?_
  show Go p e below _ (T1.setTop (mkF m 4 #[.val (.ref a1)] [(.int (2 : Int32))]))
  obtain ⟨fs, hr, hrun, hended, hWd, hsame⟩ := X1.leave (v := some (.int (2 : Int32))) (fun h => by rw [Bd.returns] at h; cases h)
  refine ⟨_, _, ?_, hrun, hended, _, _, rfl, ?_, ⟨⟨_, rfl⟩, hWd, hsame.mono (by decide) (by decide)⟩⟩
  · exact retI X1 hx Bd.returns (hb hby d2_4) hr
  · show Q_rm2_3 Z a1 h0 n0 _ T1.heap _
    rw [e1]
    exact ⟨rfl, N0, rfl⟩
def Q_rm1_3 (Z : State) (a1 : Addr) (a2 : Addr) (h0 : Heap) (n0 : Nat) (v : Option Value) (h : Heap) (L : List Loc) : Prop := v = some (.ref a2) ∧ Fr n0 L ∧ h = h0
set_option maxRecDepth 65536 in
set_option maxHeartbeats 40000000 in
theorem rm1_3 (l : Launch) (Z : State) (a0 : Array Value) (hw : ∀ d ∈ tables_1, d.before a0 Z = true) (ws : List Jvm.Cond) (a1 : Addr) (a2 : Addr) (h0 : Heap) (n0 : Nat) (O0 : Old Z n0 h0) (P1 : Exa Z Z.heap a1 "com/example/cropmark/cropmark/VarietalType") (P2 : Fld Z Z.heap a1 "java/lang/Enum" "ordinal" "I" (.int (2 : Int32))) (P3 : Sta Z Z.heap "com/example/cropmark/cropmark/VarietalType$Group" "A" "Lcom/example/cropmark/cropmark/VarietalType$Group;" (.ref a2)) :
    MetFree l (⟨"com/example/cropmark/cropmark/VarietalType", "group", "()Lcom/example/cropmark/cropmark/VarietalType$Group;"⟩ : MethodName) (head1 (Jvm.Cond.code (⟨"com/example/cropmark/cropmark/VarietalType", "group", "()Lcom/example/cropmark/cropmark/VarietalType$Group;"⟩ : MethodName) prog_87_method_4_code 1 (some (.object "com/example/cropmark/cropmark/VarietalType$Group")) :: ws) ({ frames := 1, cells := 0, slots := 0, locals := 12 } : Room)) (fun a U => a = #[(.ref a1)] ∧ Z.Warmed39 U.vm ∧ U.heap = h0) (fun _ _ _ _ _ => True) (fun _ U o U' => ∃ v L, o = .returned v ∧ Q_rm1_3 Z a1 a2 h0 n0 v U'.heap L ∧ FrameEnd U o U' L ({ frames := 1, cells := 0, slots := 0, locals := 12 } : Room).cells ({ frames := 1, cells := 0, slots := 0, locals := 12 } : Room).slots) := by
  refine MetFree.of_bodySF (plainFor_of_name pn_1) hisR ?_
  intro p e s m args below meth c s₁ Bd hml0 hP hK
  obtain ⟨rfl, hZ, hh⟩ := hP
  have hx := Bd.exec
  have hby := Bd.bytes
  have hml : c.maxLocals = 1 := hml0
  have hown : s.vm.findClass "com/example/cropmark/cropmark/VarietalType" = some m.cls := findClass_of_methodNamed Bd.named
  have hnm := (name_of_methodNamed Bd.named Bd.method).1
  have X0 : Stand p l e ({ frames := 1, cells := 0, slots := 0, locals := 12 } : Room) s m #[(.ref a1)] below meth c s₁ [] 0 0 := Stand.of_body Bd
  have e0 : s₁.heap = h0 := by rw [← hh, Bd.state]; rfl
  have N0 := Fr.nil n0
  refine Go.start (P := (fun o U' => ∃ v L, o = .returned v ∧ Q_rm1_3 Z a1 a2 h0 n0 v U'.heap L ∧ FrameEnd s o U' L ({ frames := 1, cells := 0, slots := 0, locals := 12 } : Room).cells ({ frames := 1, cells := 0, slots := 0, locals := 12 } : Room).slots)) (castTop (g' := (mkF m 0 #[.val (.ref a1)] [])) (by first | rfl | simp [entryFrame, mkF, argsToLocals, Value.category]) (T := s₁)) ?_
  refine Go.st (fun t k => XS.aloadN X0.here hx rfl (hb hby d1_0) rfl rfl k) ?_
  show Go p e below _ (s₁.setTop (mkF m 1 #[.val (.ref a1)] [(.ref a1)]))
  obtain ⟨cq1, kq1, q1a, q1b, q1c⟩ := isOf hZ e0 (P1.ext O0.2)
  obtain ⟨_, _, ⟨T1, L1, k1, n1⟩, -, X1, ⟨Lc1, hQ1, l1, y1, z1⟩, st1⟩ := X0.virtualBackUp hx (x := (⟨"com/example/cropmark/cropmark/VarietalType", "ordinal", "()I"⟩ : MethodName)) (y := (⟨"java/lang/Enum", "ordinal", "()I"⟩ : MethodName)) (owner := "java/lang/Enum") hown (mvT hZ (w31 hw)) (mvT hZ (w32 hw)) (mvT hZ (w33 hw)) (by decide) (mvT hZ (w35 hw)) (mvT hZ (w34 hw)) (backOf (W := 0) (rm2_3 l Z a0 hw [] a1 h0 n0 O0 P2) hZ (w37 hw) (w36 hw) (by decide) (by decide)) q1a q1c (g := (mkF m 1 #[.val (.ref a1)] [(.ref a1)])) rfl (by rw [hml]; rfl) (Steps.refl _) (argsL := []) (rest := []) (lenOf pd_0 rfl) rfl (by show 2 * 0 + _ ≤ _; exact Nat.le_of_eq rfl) (hb hby d1_1) (fun vm₁ hw₁ => ⟨rfl, e0, (by decide : 0 + 0 ≤ _), (by decide : 0 + 0 ≤ _)⟩)
  dsimp only [Pt.U, Pt.locs, Pt.cells, Pt.slots] at X1 l1 y1 z1 st1 hQ1
  subst l1 y1 z1
  obtain ⟨rfl, M1, eh1⟩ := hQ1
  have N1 := Fr.app N0 M1
  refine Go.tr st1 ?_
  show Go p e below _ (T1.setTop (mkF m 4 #[.val (.ref a1)] [(.int (2 : Int32))]))
  refine Go.st (fun t k => XS.tswIn X1.here hx rfl (pc0 := 4) (pc' := 66) rfl (hb hby d1_4) rfl (by decide) (o := 62) (by decide) (by decide) (by decide) k) ?_
  show Go p e below _ (T1.setTop (mkF m 66 #[.val (.ref a1)] []))
  obtain ⟨T2, X2, e2, st2⟩ := getS2 X1 hx hZ hown (host := "") (Or.inl (w40 hw)) Via.refl eh1 (P3.ext O0.2) (g := (mkF m 66 #[.val (.ref a1)] [])) rfl (hb hby d1_66)
  refine Go.st st2 ?_
  show Go p e below _ (T2.setTop (mkF m 69 #[.val (.ref a1)] [(.ref a2)]))
  refine Go.st (fun t k => XS.goto X2.here hx rfl (pc0 := 69) (pc' := 75) rfl (hb hby d1_69) (by decide) (by decide) k) ?_
  show Go p e below _ (T2.setTop (mkF m 75 #[.val (.ref a1)] [(.ref a2)]))
  obtain ⟨fs, hr, hrun, hended, hWd, hsame⟩ := X2.leave (v := some (.ref a2)) (fun h => by rw [Bd.returns] at h; cases h)
  refine ⟨_, _, ?_, hrun, hended, _, _, rfl, ?_, ⟨⟨_, rfl⟩, hWd, hsame.mono (by decide) (by decide)⟩⟩
  · exact own_retA X2 hx Bd.returns rfl rfl (hb hby d1_75) hr
  · show Q_rm1_3 Z a1 a2 h0 n0 _ T2.heap _
    rw [e2]
    exact ⟨rfl, N1, rfl⟩
def Q_rm2_4 (Z : State) (a1 : Addr) (h0 : Heap) (n0 : Nat) (v : Option Value) (h : Heap) (L : List Loc) : Prop := v = some (.int (3 : Int32)) ∧ Fr n0 L ∧ h = h0
set_option maxRecDepth 65536 in
set_option maxHeartbeats 40000000 in
theorem rm2_4 (l : Launch) (Z : State) (a0 : Array Value) (hw : ∀ d ∈ tables_1, d.before a0 Z = true) (ws : List Jvm.Cond) (a1 : Addr) (h0 : Heap) (n0 : Nat) (O0 : Old Z n0 h0) (P1 : Fld Z Z.heap a1 "java/lang/Enum" "ordinal" "I" (.int (3 : Int32))) :
    MetFree l (⟨"java/lang/Enum", "ordinal", "()I"⟩ : MethodName) (head1 (Jvm.Cond.code (⟨"java/lang/Enum", "ordinal", "()I"⟩ : MethodName) jdk_37_method_2_code 1 (some .int) :: ws) ({ frames := 0, cells := 0, slots := 0, locals := 0 } : Room)) (fun a U => a = #[(.ref a1)] ∧ Z.Warmed39 U.vm ∧ U.heap = h0) (fun _ _ _ _ _ => True) (fun _ U o U' => ∃ v L, o = .returned v ∧ Q_rm2_4 Z a1 h0 n0 v U'.heap L ∧ FrameEnd U o U' L ({ frames := 0, cells := 0, slots := 0, locals := 0 } : Room).cells ({ frames := 0, cells := 0, slots := 0, locals := 0 } : Room).slots) := by
  refine MetFree.of_bodySF (plainFor_of_name pn_0) hisR ?_
  intro p e s m args below meth c s₁ Bd hml0 hP hK
  obtain ⟨rfl, hZ, hh⟩ := hP
  have hx := Bd.exec
  have hby := Bd.bytes
  have hml : c.maxLocals = 1 := hml0
  have hown : s.vm.findClass "java/lang/Enum" = some m.cls := findClass_of_methodNamed Bd.named
  have hnm := (name_of_methodNamed Bd.named Bd.method).1
  have X0 : Stand p l e ({ frames := 0, cells := 0, slots := 0, locals := 0 } : Room) s m #[(.ref a1)] below meth c s₁ [] 0 0 := Stand.of_body Bd
  have e0 : s₁.heap = h0 := by rw [← hh, Bd.state]; rfl
  have N0 := Fr.nil n0
  refine Go.start (P := (fun o U' => ∃ v L, o = .returned v ∧ Q_rm2_4 Z a1 h0 n0 v U'.heap L ∧ FrameEnd s o U' L ({ frames := 0, cells := 0, slots := 0, locals := 0 } : Room).cells ({ frames := 0, cells := 0, slots := 0, locals := 0 } : Room).slots)) (castTop (g' := (mkF m 0 #[.val (.ref a1)] [])) (by first | rfl | simp [entryFrame, mkF, argsToLocals, Value.category]) (T := s₁)) ?_
  refine Go.st (fun t k => XS.aloadN X0.here hx rfl (hb hby d2_0) rfl rfl k) ?_
  show Go p e below _ (s₁.setTop (mkF m 1 #[.val (.ref a1)] [(.ref a1)]))
  obtain ⟨T1, X1, e1, st1⟩ := getF X0 hx hZ hown (host := "") (Or.inl (w38 hw)) Via.refl e0 (P1.ext O0.2) (g := (mkF m 1 #[.val (.ref a1)] [(.ref a1)])) rfl rfl (hb hby d2_1)
  refine Go.st st1 ?_
  show Go p e below _ (T1.setTop (mkF m 4 #[.val (.ref a1)] [(.int (3 : Int32))]))
  obtain ⟨fs, hr, hrun, hended, hWd, hsame⟩ := X1.leave (v := some (.int (3 : Int32))) (fun h => by rw [Bd.returns] at h; cases h)
  refine ⟨_, _, ?_, hrun, hended, _, _, rfl, ?_, ⟨⟨_, rfl⟩, hWd, hsame.mono (by decide) (by decide)⟩⟩
  · exact retI X1 hx Bd.returns (hb hby d2_4) hr
  · show Q_rm2_4 Z a1 h0 n0 _ T1.heap _
    rw [e1]
    exact ⟨rfl, N0, rfl⟩
def Q_rm1_4 (Z : State) (a1 : Addr) (a2 : Addr) (h0 : Heap) (n0 : Nat) (v : Option Value) (h : Heap) (L : List Loc) : Prop := v = some (.ref a2) ∧ Fr n0 L ∧ h = h0
set_option maxRecDepth 65536 in
set_option maxHeartbeats 40000000 in
theorem rm1_4 (l : Launch) (Z : State) (a0 : Array Value) (hw : ∀ d ∈ tables_1, d.before a0 Z = true) (ws : List Jvm.Cond) (a1 : Addr) (a2 : Addr) (h0 : Heap) (n0 : Nat) (O0 : Old Z n0 h0) (P1 : Exa Z Z.heap a1 "com/example/cropmark/cropmark/VarietalType") (P2 : Fld Z Z.heap a1 "java/lang/Enum" "ordinal" "I" (.int (3 : Int32))) (P3 : Sta Z Z.heap "com/example/cropmark/cropmark/VarietalType$Group" "A" "Lcom/example/cropmark/cropmark/VarietalType$Group;" (.ref a2)) :
    MetFree l (⟨"com/example/cropmark/cropmark/VarietalType", "group", "()Lcom/example/cropmark/cropmark/VarietalType$Group;"⟩ : MethodName) (head1 (Jvm.Cond.code (⟨"com/example/cropmark/cropmark/VarietalType", "group", "()Lcom/example/cropmark/cropmark/VarietalType$Group;"⟩ : MethodName) prog_87_method_4_code 1 (some (.object "com/example/cropmark/cropmark/VarietalType$Group")) :: ws) ({ frames := 1, cells := 0, slots := 0, locals := 12 } : Room)) (fun a U => a = #[(.ref a1)] ∧ Z.Warmed39 U.vm ∧ U.heap = h0) (fun _ _ _ _ _ => True) (fun _ U o U' => ∃ v L, o = .returned v ∧ Q_rm1_4 Z a1 a2 h0 n0 v U'.heap L ∧ FrameEnd U o U' L ({ frames := 1, cells := 0, slots := 0, locals := 12 } : Room).cells ({ frames := 1, cells := 0, slots := 0, locals := 12 } : Room).slots) := by
  refine MetFree.of_bodySF (plainFor_of_name pn_1) hisR ?_
  intro p e s m args below meth c s₁ Bd hml0 hP hK
  obtain ⟨rfl, hZ, hh⟩ := hP
  have hx := Bd.exec
  have hby := Bd.bytes
  have hml : c.maxLocals = 1 := hml0
  have hown : s.vm.findClass "com/example/cropmark/cropmark/VarietalType" = some m.cls := findClass_of_methodNamed Bd.named
  have hnm := (name_of_methodNamed Bd.named Bd.method).1
  have X0 : Stand p l e ({ frames := 1, cells := 0, slots := 0, locals := 12 } : Room) s m #[(.ref a1)] below meth c s₁ [] 0 0 := Stand.of_body Bd
  have e0 : s₁.heap = h0 := by rw [← hh, Bd.state]; rfl
  have N0 := Fr.nil n0
  refine Go.start (P := (fun o U' => ∃ v L, o = .returned v ∧ Q_rm1_4 Z a1 a2 h0 n0 v U'.heap L ∧ FrameEnd s o U' L ({ frames := 1, cells := 0, slots := 0, locals := 12 } : Room).cells ({ frames := 1, cells := 0, slots := 0, locals := 12 } : Room).slots)) (castTop (g' := (mkF m 0 #[.val (.ref a1)] [])) (by first | rfl | simp [entryFrame, mkF, argsToLocals, Value.category]) (T := s₁)) ?_
  refine Go.st (fun t k => XS.aloadN X0.here hx rfl (hb hby d1_0) rfl rfl k) ?_
  show Go p e below _ (s₁.setTop (mkF m 1 #[.val (.ref a1)] [(.ref a1)]))
  obtain ⟨cq1, kq1, q1a, q1b, q1c⟩ := isOf hZ e0 (P1.ext O0.2)
  obtain ⟨_, _, ⟨T1, L1, k1, n1⟩, -, X1, ⟨Lc1, hQ1, l1, y1, z1⟩, st1⟩ := X0.virtualBackUp hx (x := (⟨"com/example/cropmark/cropmark/VarietalType", "ordinal", "()I"⟩ : MethodName)) (y := (⟨"java/lang/Enum", "ordinal", "()I"⟩ : MethodName)) (owner := "java/lang/Enum") hown (mvT hZ (w31 hw)) (mvT hZ (w32 hw)) (mvT hZ (w33 hw)) (by decide) (mvT hZ (w35 hw)) (mvT hZ (w34 hw)) (backOf (W := 0) (rm2_4 l Z a0 hw [] a1 h0 n0 O0 P2) hZ (w37 hw) (w36 hw) (by decide) (by decide)) q1a q1c (g := (mkF m 1 #[.val (.ref a1)] [(.ref a1)])) rfl (by rw [hml]; rfl) (Steps.refl _) (argsL := []) (rest := []) (lenOf pd_0 rfl) rfl (by show 2 * 0 + _ ≤ _; exact Nat.le_of_eq rfl) (hb hby d1_1) (fun vm₁ hw₁ => ⟨rfl, e0, (by decide : 0 + 0 ≤ _), (by decide : 0 + 0 ≤ _)⟩)
  dsimp only [Pt.U, Pt.locs, Pt.cells, Pt.slots] at X1 l1 y1 z1 st1 hQ1
  subst l1 y1 z1
  obtain ⟨rfl, M1, eh1⟩ := hQ1
  have N1 := Fr.app N0 M1
  refine Go.tr st1 ?_
  show Go p e below _ (T1.setTop (mkF m 4 #[.val (.ref a1)] [(.int (3 : Int32))]))
  refine Go.st (fun t k => XS.tswIn X1.here hx rfl (pc0 := 4) (pc' := 66) rfl (hb hby d1_4) rfl (by decide) (o := 62) (by decide) (by decide) (by decide) k) ?_
  show Go p e below _ (T1.setTop (mkF m 66 #[.val (.ref a1)] []))
  obtain ⟨T2, X2, e2, st2⟩ := getS2 X1 hx hZ hown (host := "") (Or.inl (w40 hw)) Via.refl eh1 (P3.ext O0.2) (g := (mkF m 66 #[.val (.ref a1)] [])) rfl (hb hby d1_66)
  refine Go.st st2 ?_
  show Go p e below _ (T2.setTop (mkF m 69 #[.val (.ref a1)] [(.ref a2)]))
  refine Go.st (fun t k => XS.goto X2.here hx rfl (pc0 := 69) (pc' := 75) rfl (hb hby d1_69) (by decide) (by decide) k) ?_
  show Go p e below _ (T2.setTop (mkF m 75 #[.val (.ref a1)] [(.ref a2)]))
  obtain ⟨fs, hr, hrun, hended, hWd, hsame⟩ := X2.leave (v := some (.ref a2)) (fun h => by rw [Bd.returns] at h; cases h)
  refine ⟨_, _, ?_, hrun, hended, _, _, rfl, ?_, ⟨⟨_, rfl⟩, hWd, hsame.mono (by decide) (by decide)⟩⟩
  · exact own_retA X2 hx Bd.returns rfl rfl (hb hby d1_75) hr
  · show Q_rm1_4 Z a1 a2 h0 n0 _ T2.heap _
    rw [e2]
    exact ⟨rfl, N1, rfl⟩
def Q_rm2_5 (Z : State) (a1 : Addr) (h0 : Heap) (n0 : Nat) (v : Option Value) (h : Heap) (L : List Loc) : Prop := v = some (.int (4 : Int32)) ∧ Fr n0 L ∧ h = h0
set_option maxRecDepth 65536 in
set_option maxHeartbeats 40000000 in
theorem rm2_5 (l : Launch) (Z : State) (a0 : Array Value) (hw : ∀ d ∈ tables_1, d.before a0 Z = true) (ws : List Jvm.Cond) (a1 : Addr) (h0 : Heap) (n0 : Nat) (O0 : Old Z n0 h0) (P1 : Fld Z Z.heap a1 "java/lang/Enum" "ordinal" "I" (.int (4 : Int32))) :
    MetFree l (⟨"java/lang/Enum", "ordinal", "()I"⟩ : MethodName) (head1 (Jvm.Cond.code (⟨"java/lang/Enum", "ordinal", "()I"⟩ : MethodName) jdk_37_method_2_code 1 (some .int) :: ws) ({ frames := 0, cells := 0, slots := 0, locals := 0 } : Room)) (fun a U => a = #[(.ref a1)] ∧ Z.Warmed39 U.vm ∧ U.heap = h0) (fun _ _ _ _ _ => True) (fun _ U o U' => ∃ v L, o = .returned v ∧ Q_rm2_5 Z a1 h0 n0 v U'.heap L ∧ FrameEnd U o U' L ({ frames := 0, cells := 0, slots := 0, locals := 0 } : Room).cells ({ frames := 0, cells := 0, slots := 0, locals := 0 } : Room).slots) := by
  refine MetFree.of_bodySF (plainFor_of_name pn_0) hisR ?_
  intro p e s m args below meth c s₁ Bd hml0 hP hK
  obtain ⟨rfl, hZ, hh⟩ := hP
  have hx := Bd.exec
  have hby := Bd.bytes
  have hml : c.maxLocals = 1 := hml0
  have hown : s.vm.findClass "java/lang/Enum" = some m.cls := findClass_of_methodNamed Bd.named
  have hnm := (name_of_methodNamed Bd.named Bd.method).1
  have X0 : Stand p l e ({ frames := 0, cells := 0, slots := 0, locals := 0 } : Room) s m #[(.ref a1)] below meth c s₁ [] 0 0 := Stand.of_body Bd
  have e0 : s₁.heap = h0 := by rw [← hh, Bd.state]; rfl
  have N0 := Fr.nil n0
  refine Go.start (P := (fun o U' => ∃ v L, o = .returned v ∧ Q_rm2_5 Z a1 h0 n0 v U'.heap L ∧ FrameEnd s o U' L ({ frames := 0, cells := 0, slots := 0, locals := 0 } : Room).cells ({ frames := 0, cells := 0, slots := 0, locals := 0 } : Room).slots)) (castTop (g' := (mkF m 0 #[.val (.ref a1)] [])) (by first | rfl | simp [entryFrame, mkF, argsToLocals, Value.category]) (T := s₁)) ?_
  refine Go.st (fun t k => XS.aloadN X0.here hx rfl (hb hby d2_0) rfl rfl k) ?_
  show Go p e below _ (s₁.setTop (mkF m 1 #[.val (.ref a1)] [(.ref a1)]))
  obtain ⟨T1, X1, e1, st1⟩ := getF X0 hx hZ hown (host := "") (Or.inl (w38 hw)) Via.refl e0 (P1.ext O0.2) (g := (mkF m 1 #[.val (.ref a1)] [(.ref a1)])) rfl rfl (hb hby d2_1)
  refine Go.st st1 ?_
  show Go p e below _ (T1.setTop (mkF m 4 #[.val (.ref a1)] [(.int (4 : Int32))]))
  obtain ⟨fs, hr, hrun, hended, hWd, hsame⟩ := X1.leave (v := some (.int (4 : Int32))) (fun h => by rw [Bd.returns] at h; cases h)
  refine ⟨_, _, ?_, hrun, hended, _, _, rfl, ?_, ⟨⟨_, rfl⟩, hWd, hsame.mono (by decide) (by decide)⟩⟩
  · exact retI X1 hx Bd.returns (hb hby d2_4) hr
  · show Q_rm2_5 Z a1 h0 n0 _ T1.heap _
    rw [e1]
    exact ⟨rfl, N0, rfl⟩
def Q_rm1_5 (Z : State) (a1 : Addr) (a2 : Addr) (h0 : Heap) (n0 : Nat) (v : Option Value) (h : Heap) (L : List Loc) : Prop := v = some (.ref a2) ∧ Fr n0 L ∧ h = h0
set_option maxRecDepth 65536 in
set_option maxHeartbeats 40000000 in
theorem rm1_5 (l : Launch) (Z : State) (a0 : Array Value) (hw : ∀ d ∈ tables_1, d.before a0 Z = true) (ws : List Jvm.Cond) (a1 : Addr) (a2 : Addr) (h0 : Heap) (n0 : Nat) (O0 : Old Z n0 h0) (P1 : Exa Z Z.heap a1 "com/example/cropmark/cropmark/VarietalType") (P2 : Fld Z Z.heap a1 "java/lang/Enum" "ordinal" "I" (.int (4 : Int32))) (P3 : Sta Z Z.heap "com/example/cropmark/cropmark/VarietalType$Group" "A" "Lcom/example/cropmark/cropmark/VarietalType$Group;" (.ref a2)) :
    MetFree l (⟨"com/example/cropmark/cropmark/VarietalType", "group", "()Lcom/example/cropmark/cropmark/VarietalType$Group;"⟩ : MethodName) (head1 (Jvm.Cond.code (⟨"com/example/cropmark/cropmark/VarietalType", "group", "()Lcom/example/cropmark/cropmark/VarietalType$Group;"⟩ : MethodName) prog_87_method_4_code 1 (some (.object "com/example/cropmark/cropmark/VarietalType$Group")) :: ws) ({ frames := 1, cells := 0, slots := 0, locals := 12 } : Room)) (fun a U => a = #[(.ref a1)] ∧ Z.Warmed39 U.vm ∧ U.heap = h0) (fun _ _ _ _ _ => True) (fun _ U o U' => ∃ v L, o = .returned v ∧ Q_rm1_5 Z a1 a2 h0 n0 v U'.heap L ∧ FrameEnd U o U' L ({ frames := 1, cells := 0, slots := 0, locals := 12 } : Room).cells ({ frames := 1, cells := 0, slots := 0, locals := 12 } : Room).slots) := by
  refine MetFree.of_bodySF (plainFor_of_name pn_1) hisR ?_
  intro p e s m args below meth c s₁ Bd hml0 hP hK
  obtain ⟨rfl, hZ, hh⟩ := hP
  have hx := Bd.exec
  have hby := Bd.bytes
  have hml : c.maxLocals = 1 := hml0
  have hown : s.vm.findClass "com/example/cropmark/cropmark/VarietalType" = some m.cls := findClass_of_methodNamed Bd.named
  have hnm := (name_of_methodNamed Bd.named Bd.method).1
  have X0 : Stand p l e ({ frames := 1, cells := 0, slots := 0, locals := 12 } : Room) s m #[(.ref a1)] below meth c s₁ [] 0 0 := Stand.of_body Bd
  have e0 : s₁.heap = h0 := by rw [← hh, Bd.state]; rfl
  have N0 := Fr.nil n0
  refine Go.start (P := (fun o U' => ∃ v L, o = .returned v ∧ Q_rm1_5 Z a1 a2 h0 n0 v U'.heap L ∧ FrameEnd s o U' L ({ frames := 1, cells := 0, slots := 0, locals := 12 } : Room).cells ({ frames := 1, cells := 0, slots := 0, locals := 12 } : Room).slots)) (castTop (g' := (mkF m 0 #[.val (.ref a1)] [])) (by first | rfl | simp [entryFrame, mkF, argsToLocals, Value.category]) (T := s₁)) ?_
  refine Go.st (fun t k => XS.aloadN X0.here hx rfl (hb hby d1_0) rfl rfl k) ?_
  show Go p e below _ (s₁.setTop (mkF m 1 #[.val (.ref a1)] [(.ref a1)]))
  obtain ⟨cq1, kq1, q1a, q1b, q1c⟩ := isOf hZ e0 (P1.ext O0.2)
  obtain ⟨_, _, ⟨T1, L1, k1, n1⟩, -, X1, ⟨Lc1, hQ1, l1, y1, z1⟩, st1⟩ := X0.virtualBackUp hx (x := (⟨"com/example/cropmark/cropmark/VarietalType", "ordinal", "()I"⟩ : MethodName)) (y := (⟨"java/lang/Enum", "ordinal", "()I"⟩ : MethodName)) (owner := "java/lang/Enum") hown (mvT hZ (w31 hw)) (mvT hZ (w32 hw)) (mvT hZ (w33 hw)) (by decide) (mvT hZ (w35 hw)) (mvT hZ (w34 hw)) (backOf (W := 0) (rm2_5 l Z a0 hw [] a1 h0 n0 O0 P2) hZ (w37 hw) (w36 hw) (by decide) (by decide)) q1a q1c (g := (mkF m 1 #[.val (.ref a1)] [(.ref a1)])) rfl (by rw [hml]; rfl) (Steps.refl _) (argsL := []) (rest := []) (lenOf pd_0 rfl) rfl (by show 2 * 0 + _ ≤ _; exact Nat.le_of_eq rfl) (hb hby d1_1) (fun vm₁ hw₁ => ⟨rfl, e0, (by decide : 0 + 0 ≤ _), (by decide : 0 + 0 ≤ _)⟩)
  dsimp only [Pt.U, Pt.locs, Pt.cells, Pt.slots] at X1 l1 y1 z1 st1 hQ1
  subst l1 y1 z1
  obtain ⟨rfl, M1, eh1⟩ := hQ1
  have N1 := Fr.app N0 M1
  refine Go.tr st1 ?_
  show Go p e below _ (T1.setTop (mkF m 4 #[.val (.ref a1)] [(.int (4 : Int32))]))
  refine Go.st (fun t k => XS.tswIn X1.here hx rfl (pc0 := 4) (pc' := 66) rfl (hb hby d1_4) rfl (by decide) (o := 62) (by decide) (by decide) (by decide) k) ?_
  show Go p e below _ (T1.setTop (mkF m 66 #[.val (.ref a1)] []))
  obtain ⟨T2, X2, e2, st2⟩ := getS2 X1 hx hZ hown (host := "") (Or.inl (w40 hw)) Via.refl eh1 (P3.ext O0.2) (g := (mkF m 66 #[.val (.ref a1)] [])) rfl (hb hby d1_66)
  refine Go.st st2 ?_
  show Go p e below _ (T2.setTop (mkF m 69 #[.val (.ref a1)] [(.ref a2)]))
  refine Go.st (fun t k => XS.goto X2.here hx rfl (pc0 := 69) (pc' := 75) rfl (hb hby d1_69) (by decide) (by decide) k) ?_
  show Go p e below _ (T2.setTop (mkF m 75 #[.val (.ref a1)] [(.ref a2)]))
  obtain ⟨fs, hr, hrun, hended, hWd, hsame⟩ := X2.leave (v := some (.ref a2)) (fun h => by rw [Bd.returns] at h; cases h)
  refine ⟨_, _, ?_, hrun, hended, _, _, rfl, ?_, ⟨⟨_, rfl⟩, hWd, hsame.mono (by decide) (by decide)⟩⟩
  · exact own_retA X2 hx Bd.returns rfl rfl (hb hby d1_75) hr
  · show Q_rm1_5 Z a1 a2 h0 n0 _ T2.heap _
    rw [e2]
    exact ⟨rfl, N1, rfl⟩
def Q_rm2_6 (Z : State) (a1 : Addr) (h0 : Heap) (n0 : Nat) (v : Option Value) (h : Heap) (L : List Loc) : Prop := v = some (.int (5 : Int32)) ∧ Fr n0 L ∧ h = h0
set_option maxRecDepth 65536 in
set_option maxHeartbeats 40000000 in
theorem rm2_6 (l : Launch) (Z : State) (a0 : Array Value) (hw : ∀ d ∈ tables_1, d.before a0 Z = true) (ws : List Jvm.Cond) (a1 : Addr) (h0 : Heap) (n0 : Nat) (O0 : Old Z n0 h0) (P1 : Fld Z Z.heap a1 "java/lang/Enum" "ordinal" "I" (.int (5 : Int32))) :
    MetFree l (⟨"java/lang/Enum", "ordinal", "()I"⟩ : MethodName) (head1 (Jvm.Cond.code (⟨"java/lang/Enum", "ordinal", "()I"⟩ : MethodName) jdk_37_method_2_code 1 (some .int) :: ws) ({ frames := 0, cells := 0, slots := 0, locals := 0 } : Room)) (fun a U => a = #[(.ref a1)] ∧ Z.Warmed39 U.vm ∧ U.heap = h0) (fun _ _ _ _ _ => True) (fun _ U o U' => ∃ v L, o = .returned v ∧ Q_rm2_6 Z a1 h0 n0 v U'.heap L ∧ FrameEnd U o U' L ({ frames := 0, cells := 0, slots := 0, locals := 0 } : Room).cells ({ frames := 0, cells := 0, slots := 0, locals := 0 } : Room).slots) := by
  refine MetFree.of_bodySF (plainFor_of_name pn_0) hisR ?_
  intro p e s m args below meth c s₁ Bd hml0 hP hK
  obtain ⟨rfl, hZ, hh⟩ := hP
  have hx := Bd.exec
  have hby := Bd.bytes
  have hml : c.maxLocals = 1 := hml0
  have hown : s.vm.findClass "java/lang/Enum" = some m.cls := findClass_of_methodNamed Bd.named
  have hnm := (name_of_methodNamed Bd.named Bd.method).1
  have X0 : Stand p l e ({ frames := 0, cells := 0, slots := 0, locals := 0 } : Room) s m #[(.ref a1)] below meth c s₁ [] 0 0 := Stand.of_body Bd
  have e0 : s₁.heap = h0 := by rw [← hh, Bd.state]; rfl
  have N0 := Fr.nil n0
  refine Go.start (P := (fun o U' => ∃ v L, o = .returned v ∧ Q_rm2_6 Z a1 h0 n0 v U'.heap L ∧ FrameEnd s o U' L ({ frames := 0, cells := 0, slots := 0, locals := 0 } : Room).cells ({ frames := 0, cells := 0, slots := 0, locals := 0 } : Room).slots)) (castTop (g' := (mkF m 0 #[.val (.ref a1)] [])) (by first | rfl | simp [entryFrame, mkF, argsToLocals, Value.category]) (T := s₁)) ?_
  refine Go.st (fun t k => XS.aloadN X0.here hx rfl (hb hby d2_0) rfl rfl k) ?_
  show Go p e below _ (s₁.setTop (mkF m 1 #[.val (.ref a1)] [(.ref a1)]))
  obtain ⟨T1, X1, e1, st1⟩ := getF X0 hx hZ hown (host := "") (Or.inl (w38 hw)) Via.refl e0 (P1.ext O0.2) (g := (mkF m 1 #[.val (.ref a1)] [(.ref a1)])) rfl rfl (hb hby d2_1)
  refine Go.st st1 ?_
  show Go p e below _ (T1.setTop (mkF m 4 #[.val (.ref a1)] [(.int (5 : Int32))]))
  obtain ⟨fs, hr, hrun, hended, hWd, hsame⟩ := X1.leave (v := some (.int (5 : Int32))) (fun h => by rw [Bd.returns] at h; cases h)
  refine ⟨_, _, ?_, hrun, hended, _, _, rfl, ?_, ⟨⟨_, rfl⟩, hWd, hsame.mono (by decide) (by decide)⟩⟩
  · exact retI X1 hx Bd.returns (hb hby d2_4) hr
  · show Q_rm2_6 Z a1 h0 n0 _ T1.heap _
    rw [e1]
    exact ⟨rfl, N0, rfl⟩
def Q_rm1_6 (Z : State) (a1 : Addr) (a2 : Addr) (h0 : Heap) (n0 : Nat) (v : Option Value) (h : Heap) (L : List Loc) : Prop := v = some (.ref a2) ∧ Fr n0 L ∧ h = h0
set_option maxRecDepth 65536 in
set_option maxHeartbeats 40000000 in
theorem rm1_6 (l : Launch) (Z : State) (a0 : Array Value) (hw : ∀ d ∈ tables_1, d.before a0 Z = true) (ws : List Jvm.Cond) (a1 : Addr) (a2 : Addr) (h0 : Heap) (n0 : Nat) (O0 : Old Z n0 h0) (P1 : Exa Z Z.heap a1 "com/example/cropmark/cropmark/VarietalType") (P2 : Fld Z Z.heap a1 "java/lang/Enum" "ordinal" "I" (.int (5 : Int32))) (P3 : Sta Z Z.heap "com/example/cropmark/cropmark/VarietalType$Group" "A" "Lcom/example/cropmark/cropmark/VarietalType$Group;" (.ref a2)) :
    MetFree l (⟨"com/example/cropmark/cropmark/VarietalType", "group", "()Lcom/example/cropmark/cropmark/VarietalType$Group;"⟩ : MethodName) (head1 (Jvm.Cond.code (⟨"com/example/cropmark/cropmark/VarietalType", "group", "()Lcom/example/cropmark/cropmark/VarietalType$Group;"⟩ : MethodName) prog_87_method_4_code 1 (some (.object "com/example/cropmark/cropmark/VarietalType$Group")) :: ws) ({ frames := 1, cells := 0, slots := 0, locals := 12 } : Room)) (fun a U => a = #[(.ref a1)] ∧ Z.Warmed39 U.vm ∧ U.heap = h0) (fun _ _ _ _ _ => True) (fun _ U o U' => ∃ v L, o = .returned v ∧ Q_rm1_6 Z a1 a2 h0 n0 v U'.heap L ∧ FrameEnd U o U' L ({ frames := 1, cells := 0, slots := 0, locals := 12 } : Room).cells ({ frames := 1, cells := 0, slots := 0, locals := 12 } : Room).slots) := by
  refine MetFree.of_bodySF (plainFor_of_name pn_1) hisR ?_
  intro p e s m args below meth c s₁ Bd hml0 hP hK
  obtain ⟨rfl, hZ, hh⟩ := hP
  have hx := Bd.exec
  have hby := Bd.bytes
  have hml : c.maxLocals = 1 := hml0
  have hown : s.vm.findClass "com/example/cropmark/cropmark/VarietalType" = some m.cls := findClass_of_methodNamed Bd.named
  have hnm := (name_of_methodNamed Bd.named Bd.method).1
  have X0 : Stand p l e ({ frames := 1, cells := 0, slots := 0, locals := 12 } : Room) s m #[(.ref a1)] below meth c s₁ [] 0 0 := Stand.of_body Bd
  have e0 : s₁.heap = h0 := by rw [← hh, Bd.state]; rfl
  have N0 := Fr.nil n0
  refine Go.start (P := (fun o U' => ∃ v L, o = .returned v ∧ Q_rm1_6 Z a1 a2 h0 n0 v U'.heap L ∧ FrameEnd s o U' L ({ frames := 1, cells := 0, slots := 0, locals := 12 } : Room).cells ({ frames := 1, cells := 0, slots := 0, locals := 12 } : Room).slots)) (castTop (g' := (mkF m 0 #[.val (.ref a1)] [])) (by first | rfl | simp [entryFrame, mkF, argsToLocals, Value.category]) (T := s₁)) ?_
  refine Go.st (fun t k => XS.aloadN X0.here hx rfl (hb hby d1_0) rfl rfl k) ?_
  show Go p e below _ (s₁.setTop (mkF m 1 #[.val (.ref a1)] [(.ref a1)]))
  obtain ⟨cq1, kq1, q1a, q1b, q1c⟩ := isOf hZ e0 (P1.ext O0.2)
  obtain ⟨_, _, ⟨T1, L1, k1, n1⟩, -, X1, ⟨Lc1, hQ1, l1, y1, z1⟩, st1⟩ := X0.virtualBackUp hx (x := (⟨"com/example/cropmark/cropmark/VarietalType", "ordinal", "()I"⟩ : MethodName)) (y := (⟨"java/lang/Enum", "ordinal", "()I"⟩ : MethodName)) (owner := "java/lang/Enum") hown (mvT hZ (w31 hw)) (mvT hZ (w32 hw)) (mvT hZ (w33 hw)) (by decide) (mvT hZ (w35 hw)) (mvT hZ (w34 hw)) (backOf (W := 0) (rm2_6 l Z a0 hw [] a1 h0 n0 O0 P2) hZ (w37 hw) (w36 hw) (by decide) (by decide)) q1a q1c (g := (mkF m 1 #[.val (.ref a1)] [(.ref a1)])) rfl (by rw [hml]; rfl) (Steps.refl _) (argsL := []) (rest := []) (lenOf pd_0 rfl) rfl (by show 2 * 0 + _ ≤ _; exact Nat.le_of_eq rfl) (hb hby d1_1) (fun vm₁ hw₁ => ⟨rfl, e0, (by decide : 0 + 0 ≤ _), (by decide : 0 + 0 ≤ _)⟩)
  dsimp only [Pt.U, Pt.locs, Pt.cells, Pt.slots] at X1 l1 y1 z1 st1 hQ1
  subst l1 y1 z1
  obtain ⟨rfl, M1, eh1⟩ := hQ1
  have N1 := Fr.app N0 M1
  refine Go.tr st1 ?_
  show Go p e below _ (T1.setTop (mkF m 4 #[.val (.ref a1)] [(.int (5 : Int32))]))
  refine Go.st (fun t k => XS.tswIn X1.here hx rfl (pc0 := 4) (pc' := 66) rfl (hb hby d1_4) rfl (by decide) (o := 62) (by decide) (by decide) (by decide) k) ?_
  show Go p e below _ (T1.setTop (mkF m 66 #[.val (.ref a1)] []))
  obtain ⟨T2, X2, e2, st2⟩ := getS2 X1 hx hZ hown (host := "") (Or.inl (w40 hw)) Via.refl eh1 (P3.ext O0.2) (g := (mkF m 66 #[.val (.ref a1)] [])) rfl (hb hby d1_66)
  refine Go.st st2 ?_
  show Go p e below _ (T2.setTop (mkF m 69 #[.val (.ref a1)] [(.ref a2)]))
  refine Go.st (fun t k => XS.goto X2.here hx rfl (pc0 := 69) (pc' := 75) rfl (hb hby d1_69) (by decide) (by decide) k) ?_
  show Go p e below _ (T2.setTop (mkF m 75 #[.val (.ref a1)] [(.ref a2)]))
  obtain ⟨fs, hr, hrun, hended, hWd, hsame⟩ := X2.leave (v := some (.ref a2)) (fun h => by rw [Bd.returns] at h; cases h)
  refine ⟨_, _, ?_, hrun, hended, _, _, rfl, ?_, ⟨⟨_, rfl⟩, hWd, hsame.mono (by decide) (by decide)⟩⟩
  · exact own_retA X2 hx Bd.returns rfl rfl (hb hby d1_75) hr
  · show Q_rm1_6 Z a1 a2 h0 n0 _ T2.heap _
    rw [e2]
    exact ⟨rfl, N1, rfl⟩
def Q_rm2_7 (Z : State) (a1 : Addr) (h0 : Heap) (n0 : Nat) (v : Option Value) (h : Heap) (L : List Loc) : Prop := v = some (.int (6 : Int32)) ∧ Fr n0 L ∧ h = h0
set_option maxRecDepth 65536 in
set_option maxHeartbeats 40000000 in
theorem rm2_7 (l : Launch) (Z : State) (a0 : Array Value) (hw : ∀ d ∈ tables_1, d.before a0 Z = true) (ws : List Jvm.Cond) (a1 : Addr) (h0 : Heap) (n0 : Nat) (O0 : Old Z n0 h0) (P1 : Fld Z Z.heap a1 "java/lang/Enum" "ordinal" "I" (.int (6 : Int32))) :
    MetFree l (⟨"java/lang/Enum", "ordinal", "()I"⟩ : MethodName) (head1 (Jvm.Cond.code (⟨"java/lang/Enum", "ordinal", "()I"⟩ : MethodName) jdk_37_method_2_code 1 (some .int) :: ws) ({ frames := 0, cells := 0, slots := 0, locals := 0 } : Room)) (fun a U => a = #[(.ref a1)] ∧ Z.Warmed39 U.vm ∧ U.heap = h0) (fun _ _ _ _ _ => True) (fun _ U o U' => ∃ v L, o = .returned v ∧ Q_rm2_7 Z a1 h0 n0 v U'.heap L ∧ FrameEnd U o U' L ({ frames := 0, cells := 0, slots := 0, locals := 0 } : Room).cells ({ frames := 0, cells := 0, slots := 0, locals := 0 } : Room).slots) := by
  refine MetFree.of_bodySF (plainFor_of_name pn_0) hisR ?_
  intro p e s m args below meth c s₁ Bd hml0 hP hK
  obtain ⟨rfl, hZ, hh⟩ := hP
  have hx := Bd.exec
  have hby := Bd.bytes
  have hml : c.maxLocals = 1 := hml0
  have hown : s.vm.findClass "java/lang/Enum" = some m.cls := findClass_of_methodNamed Bd.named
  have hnm := (name_of_methodNamed Bd.named Bd.method).1
  have X0 : Stand p l e ({ frames := 0, cells := 0, slots := 0, locals := 0 } : Room) s m #[(.ref a1)] below meth c s₁ [] 0 0 := Stand.of_body Bd
  have e0 : s₁.heap = h0 := by rw [← hh, Bd.state]; rfl
  have N0 := Fr.nil n0
  refine Go.start (P := (fun o U' => ∃ v L, o = .returned v ∧ Q_rm2_7 Z a1 h0 n0 v U'.heap L ∧ FrameEnd s o U' L ({ frames := 0, cells := 0, slots := 0, locals := 0 } : Room).cells ({ frames := 0, cells := 0, slots := 0, locals := 0 } : Room).slots)) (castTop (g' := (mkF m 0 #[.val (.ref a1)] [])) (by first | rfl | simp [entryFrame, mkF, argsToLocals, Value.category]) (T := s₁)) ?_
  refine Go.st (fun t k => XS.aloadN X0.here hx rfl (hb hby d2_0) rfl rfl k) ?_
  show Go p e below _ (s₁.setTop (mkF m 1 #[.val (.ref a1)] [(.ref a1)]))
  obtain ⟨T1, X1, e1, st1⟩ := getF X0 hx hZ hown (host := "") (Or.inl (w38 hw)) Via.refl e0 (P1.ext O0.2) (g := (mkF m 1 #[.val (.ref a1)] [(.ref a1)])) rfl rfl (hb hby d2_1)
  refine Go.st st1 ?_
  show Go p e below _ (T1.setTop (mkF m 4 #[.val (.ref a1)] [(.int (6 : Int32))]))
  obtain ⟨fs, hr, hrun, hended, hWd, hsame⟩ := X1.leave (v := some (.int (6 : Int32))) (fun h => by rw [Bd.returns] at h; cases h)
  refine ⟨_, _, ?_, hrun, hended, _, _, rfl, ?_, ⟨⟨_, rfl⟩, hWd, hsame.mono (by decide) (by decide)⟩⟩
  · exact retI X1 hx Bd.returns (hb hby d2_4) hr
  · show Q_rm2_7 Z a1 h0 n0 _ T1.heap _
    rw [e1]
    exact ⟨rfl, N0, rfl⟩
def Q_rm1_7 (Z : State) (a1 : Addr) (a2 : Addr) (h0 : Heap) (n0 : Nat) (v : Option Value) (h : Heap) (L : List Loc) : Prop := v = some (.ref a2) ∧ Fr n0 L ∧ h = h0
set_option maxRecDepth 65536 in
set_option maxHeartbeats 40000000 in
theorem rm1_7 (l : Launch) (Z : State) (a0 : Array Value) (hw : ∀ d ∈ tables_1, d.before a0 Z = true) (ws : List Jvm.Cond) (a1 : Addr) (a2 : Addr) (h0 : Heap) (n0 : Nat) (O0 : Old Z n0 h0) (P1 : Exa Z Z.heap a1 "com/example/cropmark/cropmark/VarietalType") (P2 : Fld Z Z.heap a1 "java/lang/Enum" "ordinal" "I" (.int (6 : Int32))) (P3 : Sta Z Z.heap "com/example/cropmark/cropmark/VarietalType$Group" "B" "Lcom/example/cropmark/cropmark/VarietalType$Group;" (.ref a2)) :
    MetFree l (⟨"com/example/cropmark/cropmark/VarietalType", "group", "()Lcom/example/cropmark/cropmark/VarietalType$Group;"⟩ : MethodName) (head1 (Jvm.Cond.code (⟨"com/example/cropmark/cropmark/VarietalType", "group", "()Lcom/example/cropmark/cropmark/VarietalType$Group;"⟩ : MethodName) prog_87_method_4_code 1 (some (.object "com/example/cropmark/cropmark/VarietalType$Group")) :: ws) ({ frames := 1, cells := 0, slots := 0, locals := 12 } : Room)) (fun a U => a = #[(.ref a1)] ∧ Z.Warmed39 U.vm ∧ U.heap = h0) (fun _ _ _ _ _ => True) (fun _ U o U' => ∃ v L, o = .returned v ∧ Q_rm1_7 Z a1 a2 h0 n0 v U'.heap L ∧ FrameEnd U o U' L ({ frames := 1, cells := 0, slots := 0, locals := 12 } : Room).cells ({ frames := 1, cells := 0, slots := 0, locals := 12 } : Room).slots) := by
  refine MetFree.of_bodySF (plainFor_of_name pn_1) hisR ?_
  intro p e s m args below meth c s₁ Bd hml0 hP hK
  obtain ⟨rfl, hZ, hh⟩ := hP
  have hx := Bd.exec
  have hby := Bd.bytes
  have hml : c.maxLocals = 1 := hml0
  have hown : s.vm.findClass "com/example/cropmark/cropmark/VarietalType" = some m.cls := findClass_of_methodNamed Bd.named
  have hnm := (name_of_methodNamed Bd.named Bd.method).1
  have X0 : Stand p l e ({ frames := 1, cells := 0, slots := 0, locals := 12 } : Room) s m #[(.ref a1)] below meth c s₁ [] 0 0 := Stand.of_body Bd
  have e0 : s₁.heap = h0 := by rw [← hh, Bd.state]; rfl
  have N0 := Fr.nil n0
  refine Go.start (P := (fun o U' => ∃ v L, o = .returned v ∧ Q_rm1_7 Z a1 a2 h0 n0 v U'.heap L ∧ FrameEnd s o U' L ({ frames := 1, cells := 0, slots := 0, locals := 12 } : Room).cells ({ frames := 1, cells := 0, slots := 0, locals := 12 } : Room).slots)) (castTop (g' := (mkF m 0 #[.val (.ref a1)] [])) (by first | rfl | simp [entryFrame, mkF, argsToLocals, Value.category]) (T := s₁)) ?_
  refine Go.st (fun t k => XS.aloadN X0.here hx rfl (hb hby d1_0) rfl rfl k) ?_
  show Go p e below _ (s₁.setTop (mkF m 1 #[.val (.ref a1)] [(.ref a1)]))
  obtain ⟨cq1, kq1, q1a, q1b, q1c⟩ := isOf hZ e0 (P1.ext O0.2)
  obtain ⟨_, _, ⟨T1, L1, k1, n1⟩, -, X1, ⟨Lc1, hQ1, l1, y1, z1⟩, st1⟩ := X0.virtualBackUp hx (x := (⟨"com/example/cropmark/cropmark/VarietalType", "ordinal", "()I"⟩ : MethodName)) (y := (⟨"java/lang/Enum", "ordinal", "()I"⟩ : MethodName)) (owner := "java/lang/Enum") hown (mvT hZ (w31 hw)) (mvT hZ (w32 hw)) (mvT hZ (w33 hw)) (by decide) (mvT hZ (w35 hw)) (mvT hZ (w34 hw)) (backOf (W := 0) (rm2_7 l Z a0 hw [] a1 h0 n0 O0 P2) hZ (w37 hw) (w36 hw) (by decide) (by decide)) q1a q1c (g := (mkF m 1 #[.val (.ref a1)] [(.ref a1)])) rfl (by rw [hml]; rfl) (Steps.refl _) (argsL := []) (rest := []) (lenOf pd_0 rfl) rfl (by show 2 * 0 + _ ≤ _; exact Nat.le_of_eq rfl) (hb hby d1_1) (fun vm₁ hw₁ => ⟨rfl, e0, (by decide : 0 + 0 ≤ _), (by decide : 0 + 0 ≤ _)⟩)
  dsimp only [Pt.U, Pt.locs, Pt.cells, Pt.slots] at X1 l1 y1 z1 st1 hQ1
  subst l1 y1 z1
  obtain ⟨rfl, M1, eh1⟩ := hQ1
  have N1 := Fr.app N0 M1
  refine Go.tr st1 ?_
  show Go p e below _ (T1.setTop (mkF m 4 #[.val (.ref a1)] [(.int (6 : Int32))]))
  refine Go.st (fun t k => XS.tswIn X1.here hx rfl (pc0 := 4) (pc' := 72) rfl (hb hby d1_4) rfl (by decide) (o := 68) (by decide) (by decide) (by decide) k) ?_
  show Go p e below _ (T1.setTop (mkF m 72 #[.val (.ref a1)] []))
  obtain ⟨T2, X2, e2, st2⟩ := getS2 X1 hx hZ hown (host := "") (Or.inl (w43 hw)) Via.refl eh1 (P3.ext O0.2) (g := (mkF m 72 #[.val (.ref a1)] [])) rfl (hb hby d1_72)
  refine Go.st st2 ?_
  show Go p e below _ (T2.setTop (mkF m 75 #[.val (.ref a1)] [(.ref a2)]))
  obtain ⟨fs, hr, hrun, hended, hWd, hsame⟩ := X2.leave (v := some (.ref a2)) (fun h => by rw [Bd.returns] at h; cases h)
  refine ⟨_, _, ?_, hrun, hended, _, _, rfl, ?_, ⟨⟨_, rfl⟩, hWd, hsame.mono (by decide) (by decide)⟩⟩
  · exact own_retA X2 hx Bd.returns rfl rfl (hb hby d1_75) hr
  · show Q_rm1_7 Z a1 a2 h0 n0 _ T2.heap _
    rw [e2]
    exact ⟨rfl, N1, rfl⟩
def Q_rm2_8 (Z : State) (a1 : Addr) (h0 : Heap) (n0 : Nat) (v : Option Value) (h : Heap) (L : List Loc) : Prop := v = some (.int (7 : Int32)) ∧ Fr n0 L ∧ h = h0
set_option maxRecDepth 65536 in
set_option maxHeartbeats 40000000 in
theorem rm2_8 (l : Launch) (Z : State) (a0 : Array Value) (hw : ∀ d ∈ tables_1, d.before a0 Z = true) (ws : List Jvm.Cond) (a1 : Addr) (h0 : Heap) (n0 : Nat) (O0 : Old Z n0 h0) (P1 : Fld Z Z.heap a1 "java/lang/Enum" "ordinal" "I" (.int (7 : Int32))) :
    MetFree l (⟨"java/lang/Enum", "ordinal", "()I"⟩ : MethodName) (head1 (Jvm.Cond.code (⟨"java/lang/Enum", "ordinal", "()I"⟩ : MethodName) jdk_37_method_2_code 1 (some .int) :: ws) ({ frames := 0, cells := 0, slots := 0, locals := 0 } : Room)) (fun a U => a = #[(.ref a1)] ∧ Z.Warmed39 U.vm ∧ U.heap = h0) (fun _ _ _ _ _ => True) (fun _ U o U' => ∃ v L, o = .returned v ∧ Q_rm2_8 Z a1 h0 n0 v U'.heap L ∧ FrameEnd U o U' L ({ frames := 0, cells := 0, slots := 0, locals := 0 } : Room).cells ({ frames := 0, cells := 0, slots := 0, locals := 0 } : Room).slots) := by
  refine MetFree.of_bodySF (plainFor_of_name pn_0) hisR ?_
  intro p e s m args below meth c s₁ Bd hml0 hP hK
  obtain ⟨rfl, hZ, hh⟩ := hP
  have hx := Bd.exec
  have hby := Bd.bytes
  have hml : c.maxLocals = 1 := hml0
  have hown : s.vm.findClass "java/lang/Enum" = some m.cls := findClass_of_methodNamed Bd.named
  have hnm := (name_of_methodNamed Bd.named Bd.method).1
  have X0 : Stand p l e ({ frames := 0, cells := 0, slots := 0, locals := 0 } : Room) s m #[(.ref a1)] below meth c s₁ [] 0 0 := Stand.of_body Bd
  have e0 : s₁.heap = h0 := by rw [← hh, Bd.state]; rfl
  have N0 := Fr.nil n0
  refine Go.start (P := (fun o U' => ∃ v L, o = .returned v ∧ Q_rm2_8 Z a1 h0 n0 v U'.heap L ∧ FrameEnd s o U' L ({ frames := 0, cells := 0, slots := 0, locals := 0 } : Room).cells ({ frames := 0, cells := 0, slots := 0, locals := 0 } : Room).slots)) (castTop (g' := (mkF m 0 #[.val (.ref a1)] [])) (by first | rfl | simp [entryFrame, mkF, argsToLocals, Value.category]) (T := s₁)) ?_
  refine Go.st (fun t k => XS.aloadN X0.here hx rfl (hb hby d2_0) rfl rfl k) ?_
  show Go p e below _ (s₁.setTop (mkF m 1 #[.val (.ref a1)] [(.ref a1)]))
  obtain ⟨T1, X1, e1, st1⟩ := getF X0 hx hZ hown (host := "") (Or.inl (w38 hw)) Via.refl e0 (P1.ext O0.2) (g := (mkF m 1 #[.val (.ref a1)] [(.ref a1)])) rfl rfl (hb hby d2_1)
  refine Go.st st1 ?_
  show Go p e below _ (T1.setTop (mkF m 4 #[.val (.ref a1)] [(.int (7 : Int32))]))
  obtain ⟨fs, hr, hrun, hended, hWd, hsame⟩ := X1.leave (v := some (.int (7 : Int32))) (fun h => by rw [Bd.returns] at h; cases h)
  refine ⟨_, _, ?_, hrun, hended, _, _, rfl, ?_, ⟨⟨_, rfl⟩, hWd, hsame.mono (by decide) (by decide)⟩⟩
  · exact retI X1 hx Bd.returns (hb hby d2_4) hr
  · show Q_rm2_8 Z a1 h0 n0 _ T1.heap _
    rw [e1]
    exact ⟨rfl, N0, rfl⟩
def Q_rm1_8 (Z : State) (a1 : Addr) (a2 : Addr) (h0 : Heap) (n0 : Nat) (v : Option Value) (h : Heap) (L : List Loc) : Prop := v = some (.ref a2) ∧ Fr n0 L ∧ h = h0
set_option maxRecDepth 65536 in
set_option maxHeartbeats 40000000 in
theorem rm1_8 (l : Launch) (Z : State) (a0 : Array Value) (hw : ∀ d ∈ tables_1, d.before a0 Z = true) (ws : List Jvm.Cond) (a1 : Addr) (a2 : Addr) (h0 : Heap) (n0 : Nat) (O0 : Old Z n0 h0) (P1 : Exa Z Z.heap a1 "com/example/cropmark/cropmark/VarietalType") (P2 : Fld Z Z.heap a1 "java/lang/Enum" "ordinal" "I" (.int (7 : Int32))) (P3 : Sta Z Z.heap "com/example/cropmark/cropmark/VarietalType$Group" "B" "Lcom/example/cropmark/cropmark/VarietalType$Group;" (.ref a2)) :
    MetFree l (⟨"com/example/cropmark/cropmark/VarietalType", "group", "()Lcom/example/cropmark/cropmark/VarietalType$Group;"⟩ : MethodName) (head1 (Jvm.Cond.code (⟨"com/example/cropmark/cropmark/VarietalType", "group", "()Lcom/example/cropmark/cropmark/VarietalType$Group;"⟩ : MethodName) prog_87_method_4_code 1 (some (.object "com/example/cropmark/cropmark/VarietalType$Group")) :: ws) ({ frames := 1, cells := 0, slots := 0, locals := 12 } : Room)) (fun a U => a = #[(.ref a1)] ∧ Z.Warmed39 U.vm ∧ U.heap = h0) (fun _ _ _ _ _ => True) (fun _ U o U' => ∃ v L, o = .returned v ∧ Q_rm1_8 Z a1 a2 h0 n0 v U'.heap L ∧ FrameEnd U o U' L ({ frames := 1, cells := 0, slots := 0, locals := 12 } : Room).cells ({ frames := 1, cells := 0, slots := 0, locals := 12 } : Room).slots) := by
  refine MetFree.of_bodySF (plainFor_of_name pn_1) hisR ?_
  intro p e s m args below meth c s₁ Bd hml0 hP hK
  obtain ⟨rfl, hZ, hh⟩ := hP
  have hx := Bd.exec
  have hby := Bd.bytes
  have hml : c.maxLocals = 1 := hml0
  have hown : s.vm.findClass "com/example/cropmark/cropmark/VarietalType" = some m.cls := findClass_of_methodNamed Bd.named
  have hnm := (name_of_methodNamed Bd.named Bd.method).1
  have X0 : Stand p l e ({ frames := 1, cells := 0, slots := 0, locals := 12 } : Room) s m #[(.ref a1)] below meth c s₁ [] 0 0 := Stand.of_body Bd
  have e0 : s₁.heap = h0 := by rw [← hh, Bd.state]; rfl
  have N0 := Fr.nil n0
  refine Go.start (P := (fun o U' => ∃ v L, o = .returned v ∧ Q_rm1_8 Z a1 a2 h0 n0 v U'.heap L ∧ FrameEnd s o U' L ({ frames := 1, cells := 0, slots := 0, locals := 12 } : Room).cells ({ frames := 1, cells := 0, slots := 0, locals := 12 } : Room).slots)) (castTop (g' := (mkF m 0 #[.val (.ref a1)] [])) (by first | rfl | simp [entryFrame, mkF, argsToLocals, Value.category]) (T := s₁)) ?_
  refine Go.st (fun t k => XS.aloadN X0.here hx rfl (hb hby d1_0) rfl rfl k) ?_
  show Go p e below _ (s₁.setTop (mkF m 1 #[.val (.ref a1)] [(.ref a1)]))
  obtain ⟨cq1, kq1, q1a, q1b, q1c⟩ := isOf hZ e0 (P1.ext O0.2)
  obtain ⟨_, _, ⟨T1, L1, k1, n1⟩, -, X1, ⟨Lc1, hQ1, l1, y1, z1⟩, st1⟩ := X0.virtualBackUp hx (x := (⟨"com/example/cropmark/cropmark/VarietalType", "ordinal", "()I"⟩ : MethodName)) (y := (⟨"java/lang/Enum", "ordinal", "()I"⟩ : MethodName)) (owner := "java/lang/Enum") hown (mvT hZ (w31 hw)) (mvT hZ (w32 hw)) (mvT hZ (w33 hw)) (by decide) (mvT hZ (w35 hw)) (mvT hZ (w34 hw)) (backOf (W := 0) (rm2_8 l Z a0 hw [] a1 h0 n0 O0 P2) hZ (w37 hw) (w36 hw) (by decide) (by decide)) q1a q1c (g := (mkF m 1 #[.val (.ref a1)] [(.ref a1)])) rfl (by rw [hml]; rfl) (Steps.refl _) (argsL := []) (rest := []) (lenOf pd_0 rfl) rfl (by show 2 * 0 + _ ≤ _; exact Nat.le_of_eq rfl) (hb hby d1_1) (fun vm₁ hw₁ => ⟨rfl, e0, (by decide : 0 + 0 ≤ _), (by decide : 0 + 0 ≤ _)⟩)
  dsimp only [Pt.U, Pt.locs, Pt.cells, Pt.slots] at X1 l1 y1 z1 st1 hQ1
  subst l1 y1 z1
  obtain ⟨rfl, M1, eh1⟩ := hQ1
  have N1 := Fr.app N0 M1
  refine Go.tr st1 ?_
  show Go p e below _ (T1.setTop (mkF m 4 #[.val (.ref a1)] [(.int (7 : Int32))]))
  refine Go.st (fun t k => XS.tswIn X1.here hx rfl (pc0 := 4) (pc' := 72) rfl (hb hby d1_4) rfl (by decide) (o := 68) (by decide) (by decide) (by decide) k) ?_
  show Go p e below _ (T1.setTop (mkF m 72 #[.val (.ref a1)] []))
  obtain ⟨T2, X2, e2, st2⟩ := getS2 X1 hx hZ hown (host := "") (Or.inl (w43 hw)) Via.refl eh1 (P3.ext O0.2) (g := (mkF m 72 #[.val (.ref a1)] [])) rfl (hb hby d1_72)
  refine Go.st st2 ?_
  show Go p e below _ (T2.setTop (mkF m 75 #[.val (.ref a1)] [(.ref a2)]))
  obtain ⟨fs, hr, hrun, hended, hWd, hsame⟩ := X2.leave (v := some (.ref a2)) (fun h => by rw [Bd.returns] at h; cases h)
  refine ⟨_, _, ?_, hrun, hended, _, _, rfl, ?_, ⟨⟨_, rfl⟩, hWd, hsame.mono (by decide) (by decide)⟩⟩
  · exact own_retA X2 hx Bd.returns rfl rfl (hb hby d1_75) hr
  · show Q_rm1_8 Z a1 a2 h0 n0 _ T2.heap _
    rw [e2]
    exact ⟨rfl, N1, rfl⟩
def Q_rm2_9 (Z : State) (a1 : Addr) (h0 : Heap) (n0 : Nat) (v : Option Value) (h : Heap) (L : List Loc) : Prop := v = some (.int (8 : Int32)) ∧ Fr n0 L ∧ h = h0
set_option maxRecDepth 65536 in
set_option maxHeartbeats 40000000 in
theorem rm2_9 (l : Launch) (Z : State) (a0 : Array Value) (hw : ∀ d ∈ tables_1, d.before a0 Z = true) (ws : List Jvm.Cond) (a1 : Addr) (h0 : Heap) (n0 : Nat) (O0 : Old Z n0 h0) (P1 : Fld Z Z.heap a1 "java/lang/Enum" "ordinal" "I" (.int (8 : Int32))) :
    MetFree l (⟨"java/lang/Enum", "ordinal", "()I"⟩ : MethodName) (head1 (Jvm.Cond.code (⟨"java/lang/Enum", "ordinal", "()I"⟩ : MethodName) jdk_37_method_2_code 1 (some .int) :: ws) ({ frames := 0, cells := 0, slots := 0, locals := 0 } : Room)) (fun a U => a = #[(.ref a1)] ∧ Z.Warmed39 U.vm ∧ U.heap = h0) (fun _ _ _ _ _ => True) (fun _ U o U' => ∃ v L, o = .returned v ∧ Q_rm2_9 Z a1 h0 n0 v U'.heap L ∧ FrameEnd U o U' L ({ frames := 0, cells := 0, slots := 0, locals := 0 } : Room).cells ({ frames := 0, cells := 0, slots := 0, locals := 0 } : Room).slots) := by
  refine MetFree.of_bodySF (plainFor_of_name pn_0) hisR ?_
  intro p e s m args below meth c s₁ Bd hml0 hP hK
  obtain ⟨rfl, hZ, hh⟩ := hP
  have hx := Bd.exec
  have hby := Bd.bytes
  have hml : c.maxLocals = 1 := hml0
  have hown : s.vm.findClass "java/lang/Enum" = some m.cls := findClass_of_methodNamed Bd.named
  have hnm := (name_of_methodNamed Bd.named Bd.method).1
  have X0 : Stand p l e ({ frames := 0, cells := 0, slots := 0, locals := 0 } : Room) s m #[(.ref a1)] below meth c s₁ [] 0 0 := Stand.of_body Bd
  have e0 : s₁.heap = h0 := by rw [← hh, Bd.state]; rfl
  have N0 := Fr.nil n0
  refine Go.start (P := (fun o U' => ∃ v L, o = .returned v ∧ Q_rm2_9 Z a1 h0 n0 v U'.heap L ∧ FrameEnd s o U' L ({ frames := 0, cells := 0, slots := 0, locals := 0 } : Room).cells ({ frames := 0, cells := 0, slots := 0, locals := 0 } : Room).slots)) (castTop (g' := (mkF m 0 #[.val (.ref a1)] [])) (by first | rfl | simp [entryFrame, mkF, argsToLocals, Value.category]) (T := s₁)) ?_
  refine Go.st (fun t k => XS.aloadN X0.here hx rfl (hb hby d2_0) rfl rfl k) ?_
  show Go p e below _ (s₁.setTop (mkF m 1 #[.val (.ref a1)] [(.ref a1)]))
  obtain ⟨T1, X1, e1, st1⟩ := getF X0 hx hZ hown (host := "") (Or.inl (w38 hw)) Via.refl e0 (P1.ext O0.2) (g := (mkF m 1 #[.val (.ref a1)] [(.ref a1)])) rfl rfl (hb hby d2_1)
  refine Go.st st1 ?_
  show Go p e below _ (T1.setTop (mkF m 4 #[.val (.ref a1)] [(.int (8 : Int32))]))
  obtain ⟨fs, hr, hrun, hended, hWd, hsame⟩ := X1.leave (v := some (.int (8 : Int32))) (fun h => by rw [Bd.returns] at h; cases h)
  refine ⟨_, _, ?_, hrun, hended, _, _, rfl, ?_, ⟨⟨_, rfl⟩, hWd, hsame.mono (by decide) (by decide)⟩⟩
  · exact retI X1 hx Bd.returns (hb hby d2_4) hr
  · show Q_rm2_9 Z a1 h0 n0 _ T1.heap _
    rw [e1]
    exact ⟨rfl, N0, rfl⟩
def Q_rm1_9 (Z : State) (a1 : Addr) (a2 : Addr) (h0 : Heap) (n0 : Nat) (v : Option Value) (h : Heap) (L : List Loc) : Prop := v = some (.ref a2) ∧ Fr n0 L ∧ h = h0
set_option maxRecDepth 65536 in
set_option maxHeartbeats 40000000 in
theorem rm1_9 (l : Launch) (Z : State) (a0 : Array Value) (hw : ∀ d ∈ tables_1, d.before a0 Z = true) (ws : List Jvm.Cond) (a1 : Addr) (a2 : Addr) (h0 : Heap) (n0 : Nat) (O0 : Old Z n0 h0) (P1 : Exa Z Z.heap a1 "com/example/cropmark/cropmark/VarietalType") (P2 : Fld Z Z.heap a1 "java/lang/Enum" "ordinal" "I" (.int (8 : Int32))) (P3 : Sta Z Z.heap "com/example/cropmark/cropmark/VarietalType$Group" "B" "Lcom/example/cropmark/cropmark/VarietalType$Group;" (.ref a2)) :
    MetFree l (⟨"com/example/cropmark/cropmark/VarietalType", "group", "()Lcom/example/cropmark/cropmark/VarietalType$Group;"⟩ : MethodName) (head1 (Jvm.Cond.code (⟨"com/example/cropmark/cropmark/VarietalType", "group", "()Lcom/example/cropmark/cropmark/VarietalType$Group;"⟩ : MethodName) prog_87_method_4_code 1 (some (.object "com/example/cropmark/cropmark/VarietalType$Group")) :: ws) ({ frames := 1, cells := 0, slots := 0, locals := 12 } : Room)) (fun a U => a = #[(.ref a1)] ∧ Z.Warmed39 U.vm ∧ U.heap = h0) (fun _ _ _ _ _ => True) (fun _ U o U' => ∃ v L, o = .returned v ∧ Q_rm1_9 Z a1 a2 h0 n0 v U'.heap L ∧ FrameEnd U o U' L ({ frames := 1, cells := 0, slots := 0, locals := 12 } : Room).cells ({ frames := 1, cells := 0, slots := 0, locals := 12 } : Room).slots) := by
  refine MetFree.of_bodySF (plainFor_of_name pn_1) hisR ?_
  intro p e s m args below meth c s₁ Bd hml0 hP hK
  obtain ⟨rfl, hZ, hh⟩ := hP
  have hx := Bd.exec
  have hby := Bd.bytes
  have hml : c.maxLocals = 1 := hml0
  have hown : s.vm.findClass "com/example/cropmark/cropmark/VarietalType" = some m.cls := findClass_of_methodNamed Bd.named
  have hnm := (name_of_methodNamed Bd.named Bd.method).1
  have X0 : Stand p l e ({ frames := 1, cells := 0, slots := 0, locals := 12 } : Room) s m #[(.ref a1)] below meth c s₁ [] 0 0 := Stand.of_body Bd
  have e0 : s₁.heap = h0 := by rw [← hh, Bd.state]; rfl
  have N0 := Fr.nil n0
  refine Go.start (P := (fun o U' => ∃ v L, o = .returned v ∧ Q_rm1_9 Z a1 a2 h0 n0 v U'.heap L ∧ FrameEnd s o U' L ({ frames := 1, cells := 0, slots := 0, locals := 12 } : Room).cells ({ frames := 1, cells := 0, slots := 0, locals := 12 } : Room).slots)) (castTop (g' := (mkF m 0 #[.val (.ref a1)] [])) (by first | rfl | simp [entryFrame, mkF, argsToLocals, Value.category]) (T := s₁)) ?_
  refine Go.st (fun t k => XS.aloadN X0.here hx rfl (hb hby d1_0) rfl rfl k) ?_
  show Go p e below _ (s₁.setTop (mkF m 1 #[.val (.ref a1)] [(.ref a1)]))
  obtain ⟨cq1, kq1, q1a, q1b, q1c⟩ := isOf hZ e0 (P1.ext O0.2)
  obtain ⟨_, _, ⟨T1, L1, k1, n1⟩, -, X1, ⟨Lc1, hQ1, l1, y1, z1⟩, st1⟩ := X0.virtualBackUp hx (x := (⟨"com/example/cropmark/cropmark/VarietalType", "ordinal", "()I"⟩ : MethodName)) (y := (⟨"java/lang/Enum", "ordinal", "()I"⟩ : MethodName)) (owner := "java/lang/Enum") hown (mvT hZ (w31 hw)) (mvT hZ (w32 hw)) (mvT hZ (w33 hw)) (by decide) (mvT hZ (w35 hw)) (mvT hZ (w34 hw)) (backOf (W := 0) (rm2_9 l Z a0 hw [] a1 h0 n0 O0 P2) hZ (w37 hw) (w36 hw) (by decide) (by decide)) q1a q1c (g := (mkF m 1 #[.val (.ref a1)] [(.ref a1)])) rfl (by rw [hml]; rfl) (Steps.refl _) (argsL := []) (rest := []) (lenOf pd_0 rfl) rfl (by show 2 * 0 + _ ≤ _; exact Nat.le_of_eq rfl) (hb hby d1_1) (fun vm₁ hw₁ => ⟨rfl, e0, (by decide : 0 + 0 ≤ _), (by decide : 0 + 0 ≤ _)⟩)
  dsimp only [Pt.U, Pt.locs, Pt.cells, Pt.slots] at X1 l1 y1 z1 st1 hQ1
  subst l1 y1 z1
  obtain ⟨rfl, M1, eh1⟩ := hQ1
  have N1 := Fr.app N0 M1
  refine Go.tr st1 ?_
  show Go p e below _ (T1.setTop (mkF m 4 #[.val (.ref a1)] [(.int (8 : Int32))]))
  refine Go.st (fun t k => XS.tswIn X1.here hx rfl (pc0 := 4) (pc' := 72) rfl (hb hby d1_4) rfl (by decide) (o := 68) (by decide) (by decide) (by decide) k) ?_
  show Go p e below _ (T1.setTop (mkF m 72 #[.val (.ref a1)] []))
  obtain ⟨T2, X2, e2, st2⟩ := getS2 X1 hx hZ hown (host := "") (Or.inl (w43 hw)) Via.refl eh1 (P3.ext O0.2) (g := (mkF m 72 #[.val (.ref a1)] [])) rfl (hb hby d1_72)
  refine Go.st st2 ?_
  show Go p e below _ (T2.setTop (mkF m 75 #[.val (.ref a1)] [(.ref a2)]))
  obtain ⟨fs, hr, hrun, hended, hWd, hsame⟩ := X2.leave (v := some (.ref a2)) (fun h => by rw [Bd.returns] at h; cases h)
  refine ⟨_, _, ?_, hrun, hended, _, _, rfl, ?_, ⟨⟨_, rfl⟩, hWd, hsame.mono (by decide) (by decide)⟩⟩
  · exact own_retA X2 hx Bd.returns rfl rfl (hb hby d1_75) hr
  · show Q_rm1_9 Z a1 a2 h0 n0 _ T2.heap _
    rw [e2]
    exact ⟨rfl, N1, rfl⟩
def Q_rm0 (n0 : Nat) (v : Option Value) (L : List Loc) : Prop := v = some (.int (1 : Int32)) ∧ Fr n0 L
set_option maxRecDepth 65536 in
set_option maxHeartbeats 400000000 in
theorem rm0 (l : Launch) (Z : State) (a0 : Array Value) (hw : ∀ d ∈ tables_1, d.before a0 Z = true) (ws : List Jvm.Cond) (i0 : Int32) (w39a : Addr) (w43a : Addr) (w47a : Addr) (w51a : Addr) (w55a : Addr) (w59a : Addr) (w63a : Addr) (w67a : Addr) (w71a : Addr) (w75a : Addr) (w79a : Addr) (h0 : Heap) (n0 : Nat) (O0 : Old Z n0 h0) (Y41 : Sta Z Z.heap "com/example/cropmark/cropmark/VarietalType" "NATURAL_SEEDLESS" "Lcom/example/cropmark/cropmark/VarietalType;" (.ref w39a)) (Y42 : Exa Z Z.heap w39a "com/example/cropmark/cropmark/VarietalType") (Y45 : Sta Z Z.heap "com/example/cropmark/cropmark/VarietalType" "GOLDEN_SEEDLESS" "Lcom/example/cropmark/cropmark/VarietalType;" (.ref w43a)) (Y46 : Exa Z Z.heap w43a "com/example/cropmark/cropmark/VarietalType") (Y49 : Sta Z Z.heap "com/example/cropmark/cropmark/VarietalType" "DIPPED_SEEDLESS" "Lcom/example/cropmark/cropmark/VarietalType;" (.ref w47a)) (Y50 : Exa Z Z.heap w47a "com/example/cropmark/cropmark/VarietalType") (Y53 : Sta Z Z.heap "com/example/cropmark/cropmark/VarietalType" "MONUKKA" "Lcom/example/cropmark/cropmark/VarietalType;" (.ref w51a)) (Y54 : Exa Z Z.heap w51a "com/example/cropmark/cropmark/VarietalType") (Y57 : Sta Z Z.heap "com/example/cropmark/cropmark/VarietalType" "OTHER_SEEDLESS" "Lcom/example/cropmark/cropmark/VarietalType;" (.ref w55a)) (Y58 : Exa Z Z.heap w55a "com/example/cropmark/cropmark/VarietalType") (Y61 : Sta Z Z.heap "com/example/cropmark/cropmark/VarietalType" "OTHER_SEEDLESS_SULFURED" "Lcom/example/cropmark/cropmark/VarietalType;" (.ref w59a)) (Y62 : Exa Z Z.heap w59a "com/example/cropmark/cropmark/VarietalType") (Y65 : Sta Z Z.heap "com/example/cropmark/cropmark/VarietalType" "MUSCAT" "Lcom/example/cropmark/cropmark/VarietalType;" (.ref w63a)) (Y66 : Exa Z Z.heap w63a "com/example/cropmark/cropmark/VarietalType") (Y69 : Sta Z Z.heap "com/example/cropmark/cropmark/VarietalType" "SULTANA" "Lcom/example/cropmark/cropmark/VarietalType;" (.ref w67a)) (Y70 : Exa Z Z.heap w67a "com/example/cropmark/cropmark/VarietalType") (Y73 : Sta Z Z.heap "com/example/cropmark/cropmark/VarietalType" "ZANTE_CURRANT" "Lcom/example/cropmark/cropmark/VarietalType;" (.ref w71a)) (Y74 : Exa Z Z.heap w71a "com/example/cropmark/cropmark/VarietalType") (Y77 : Sta Z Z.heap "com/example/cropmark/cropmark/VarietalType$Group" "A" "Lcom/example/cropmark/cropmark/VarietalType$Group;" (.ref w75a)) (Y81 : Sta Z Z.heap "com/example/cropmark/cropmark/VarietalType$Group" "B" "Lcom/example/cropmark/cropmark/VarietalType$Group;" (.ref w79a)) (Y84 : Fld Z Z.heap w39a "java/lang/Enum" "ordinal" "I" (.int (0 : Int32))) (Y86 : Fld Z Z.heap w51a "java/lang/Enum" "ordinal" "I" (.int (3 : Int32))) (Y88 : Fld Z Z.heap w47a "java/lang/Enum" "ordinal" "I" (.int (2 : Int32))) (Y90 : Fld Z Z.heap w43a "java/lang/Enum" "ordinal" "I" (.int (1 : Int32))) (Y92 : Fld Z Z.heap w67a "java/lang/Enum" "ordinal" "I" (.int (7 : Int32))) (Y94 : Fld Z Z.heap w55a "java/lang/Enum" "ordinal" "I" (.int (4 : Int32))) (Y96 : Fld Z Z.heap w71a "java/lang/Enum" "ordinal" "I" (.int (8 : Int32))) (Y98 : Fld Z Z.heap w63a "java/lang/Enum" "ordinal" "I" (.int (6 : Int32))) (Y100 : Fld Z Z.heap w59a "java/lang/Enum" "ordinal" "I" (.int (5 : Int32))) :
    MetFree l x (head1 (Jvm.Cond.code x code maxLocals ret :: ws) room_1) (fun a U => a = #[(.int i0)] ∧ Z.Warmed39 U.vm ∧ U.heap = h0) (fun _ _ _ _ _ => True) (fun _ U o U' => ∃ v L, o = .returned v ∧ Q_rm0 n0 v L ∧ FrameEnd U o U' L room_1.cells room_1.slots) := by
  refine MetFree.of_bodySF (plainFor_of_name pn_2) hisR ?_
  intro p e s m args below meth c s₁ Bd hml0 hP hK
  obtain ⟨rfl, hZ, hh⟩ := hP
  have hx := Bd.exec
  have hby := Bd.bytes
  have hml : c.maxLocals = 4 := hml0
  have hown : s.vm.findClass "com/example/cropmark/cropmark/VarietalTypeGroupPinLaw" = some m.cls := findClass_of_methodNamed Bd.named
  have hnm := (name_of_methodNamed Bd.named Bd.method).1
  have X0 : Stand p l e room_1 s m #[(.int i0)] below meth c s₁ [] 0 0 := Stand.of_body Bd
  have e0 : s₁.heap = h0 := by rw [← hh, Bd.state]; rfl
  have N0 := Fr.nil n0
  refine Go.start (P := (fun o U' => ∃ v L, o = .returned v ∧ Q_rm0 n0 v L ∧ FrameEnd s o U' L room_1.cells room_1.slots)) (castTop (g' := (mkF m 0 #[.val (.int i0), .unset, .unset, .unset] [])) (by first | rfl | simp [entryFrame, mkF, argsToLocals, Value.category, maxLocals]) (T := s₁)) ?_
  refine Go.st (fun t k => XS.bipush X0.here hx rfl (hb hby at_0) k) ?_
  show Go p e below _ (s₁.setTop (mkF m 2 #[.val (.int i0), .unset, .unset, .unset] [(.int (9 : Int32))]))
  obtain ⟨T1, h1, k1, X1, e1, E1, A1, U1, st1⟩ := newR X0 hx hZ hown (w0 hw) (w1 hw) e0 (g := (mkF m 2 #[.val (.int i0), .unset, .unset, .unset] [(.int (9 : Int32))])) rfl (hb hby at_2) rfl (by decide) (cap := 9) (by decide) (by decide) (by decide) (by decide)
  obtain ⟨b1, z1⟩ : ∃ z, z = h0.size := ⟨_, rfl⟩
  rw [← z1] at A1 st1
  have g_b1 : n0 ≤ b1 := Nat.le_trans (own_n0 O0) (Nat.le_of_eq z1.symm)
  have V1 : Arv Z h1 b1 k1 (.object "com/example/cropmark/cropmark/VarietalType") (9 : Int32) [.null, .null, .null, .null, .null, .null, .null, .null, .null] .null := (Arv.new A1 (by decide)).pad (pad_rep [] .null 9)
  have O1 : Old Z n0 h1 := O0.ext E1
  refine Go.st st1 ?_
  show Go p e below _ (T1.setTop (mkF m 5 #[.val (.int i0), .unset, .unset, .unset] [(.ref b1)]))
  refine Go.st (fun t k => XS.dup X1.here hx rfl (hb hby at_5) rfl rfl k) ?_
  show Go p e below _ (T1.setTop (mkF m 6 #[.val (.int i0), .unset, .unset, .unset] [(.ref b1), (.ref b1)]))
  refine Go.st (fun t k => XS.iconst X1.here hx rfl (hb hby at_6) k) ?_
  show Go p e below _ (T1.setTop (mkF m 7 #[.val (.int i0), .unset, .unset, .unset] [(.int (0 : Int32)), (.ref b1), (.ref b1)]))
  obtain ⟨T2, X2, e2, st2⟩ := getS2 X1 hx hZ hown (host := "") (Or.inl (w2 hw)) Via.refl e1 (Y41.ext O1.2) (g := (mkF m 7 #[.val (.int i0), .unset, .unset, .unset] [(.int (0 : Int32)), (.ref b1), (.ref b1)])) rfl (hb hby at_7)
  refine Go.st st2 ?_
  show Go p e below _ (T2.setTop (mkF m 10 #[.val (.int i0), .unset, .unset, .unset] [(.ref w39a), (.int (0 : Int32)), (.ref b1), (.ref b1)]))
  obtain ⟨cl3, Ar3, q3, S3, M3, H3, G3⟩ := id V1
  have hin3 : ¬ ((0 : Int32) < 0 ∨ cl3.slots.size ≤ ((0 : Int32)).toNatClampNeg) := inb_of S3 ⟨by decide, by decide⟩
  obtain ⟨T3, h3, X3, e3, W3, st3⟩ := stR X2 hx hZ e2 Ar3 (j := (0 : Int32)) hin3 rfl (Sto.ofV Ar3 q3 U1 (Ins.self (Y42.ext O1.2))) (g := (mkF m 10 #[.val (.int i0), .unset, .unset, .unset] [(.ref w39a), (.int (0 : Int32)), (.ref b1), (.ref b1)])) rfl rfl (hb hby at_10)
  have V3 : Arv Z h3 b1 k1 (.object "com/example/cropmark/cropmark/VarietalType") (9 : Int32) [(.ref w39a), .null, .null, .null, .null, .null, .null, .null, .null] .null := Arv.set Ar3 q3 S3 M3 H3 G3 rfl W3 0 rfl (Nat.le_of_ble_eq_true rfl)
  have N3 := Fr.snoc X3 N0 g_b1
  have O3 : Old Z n0 h3 := O1.wr W3 g_b1
  refine Go.st st3 ?_
  show Go p e below _ (T3.setTop (mkF m 11 #[.val (.int i0), .unset, .unset, .unset] [(.ref b1)]))
  refine Go.st (fun t k => XS.dup X3.here hx rfl (hb hby at_11) rfl rfl k) ?_
  show Go p e below _ (T3.setTop (mkF m 12 #[.val (.int i0), .unset, .unset, .unset] [(.ref b1), (.ref b1)]))
  refine Go.st (fun t k => XS.iconst X3.here hx rfl (hb hby at_12) k) ?_
  show Go p e below _ (T3.setTop (mkF m 13 #[.val (.int i0), .unset, .unset, .unset] [(.int (1 : Int32)), (.ref b1), (.ref b1)]))
  obtain ⟨T4, X4, e4, st4⟩ := getS2 X3 hx hZ hown (host := "") (Or.inl (w6 hw)) Via.refl e3 (Y45.ext O3.2) (g := (mkF m 13 #[.val (.int i0), .unset, .unset, .unset] [(.int (1 : Int32)), (.ref b1), (.ref b1)])) rfl (hb hby at_13)
  refine Go.st st4 ?_
  show Go p e below _ (T4.setTop (mkF m 16 #[.val (.int i0), .unset, .unset, .unset] [(.ref w43a), (.int (1 : Int32)), (.ref b1), (.ref b1)]))
  obtain ⟨cl5, Ar5, q5, S5, M5, H5, G5⟩ := id V3
  have hin5 : ¬ ((1 : Int32) < 0 ∨ cl5.slots.size ≤ ((1 : Int32)).toNatClampNeg) := inb_of S5 ⟨by decide, by decide⟩
  obtain ⟨T5, h5, X5, e5, W5, st5⟩ := stR X4 hx hZ e4 Ar5 (j := (1 : Int32)) hin5 rfl (Sto.ofV Ar5 q5 U1 (Ins.self (Y46.ext O3.2))) (g := (mkF m 16 #[.val (.int i0), .unset, .unset, .unset] [(.ref w43a), (.int (1 : Int32)), (.ref b1), (.ref b1)])) rfl rfl (hb hby at_16)
  have V5 : Arv Z h5 b1 k1 (.object "com/example/cropmark/cropmark/VarietalType") (9 : Int32) [(.ref w39a), (.ref w43a), .null, .null, .null, .null, .null, .null, .null] .null := Arv.set Ar5 q5 S5 M5 H5 G5 rfl W5 1 rfl (Nat.le_of_ble_eq_true rfl)
  have N5 := Fr.snoc X5 N3 g_b1
  have O5 : Old Z n0 h5 := O3.wr W5 g_b1
  refine Go.st st5 ?_
  show Go p e below _ (T5.setTop (mkF m 17 #[.val (.int i0), .unset, .unset, .unset] [(.ref b1)]))
  refine Go.st (fun t k => XS.dup X5.here hx rfl (hb hby at_17) rfl rfl k) ?_
  show Go p e below _ (T5.setTop (mkF m 18 #[.val (.int i0), .unset, .unset, .unset] [(.ref b1), (.ref b1)]))
  refine Go.st (fun t k => XS.iconst X5.here hx rfl (hb hby at_18) k) ?_
  show Go p e below _ (T5.setTop (mkF m 19 #[.val (.int i0), .unset, .unset, .unset] [(.int (2 : Int32)), (.ref b1), (.ref b1)]))
  obtain ⟨T6, X6, e6, st6⟩ := getS2 X5 hx hZ hown (host := "") (Or.inl (w8 hw)) Via.refl e5 (Y49.ext O5.2) (g := (mkF m 19 #[.val (.int i0), .unset, .unset, .unset] [(.int (2 : Int32)), (.ref b1), (.ref b1)])) rfl (hb hby at_19)
  refine Go.st st6 ?_
  show Go p e below _ (T6.setTop (mkF m 22 #[.val (.int i0), .unset, .unset, .unset] [(.ref w47a), (.int (2 : Int32)), (.ref b1), (.ref b1)]))
  obtain ⟨cl7, Ar7, q7, S7, M7, H7, G7⟩ := id V5
  have hin7 : ¬ ((2 : Int32) < 0 ∨ cl7.slots.size ≤ ((2 : Int32)).toNatClampNeg) := inb_of S7 ⟨by decide, by decide⟩
  obtain ⟨T7, h7, X7, e7, W7, st7⟩ := stR X6 hx hZ e6 Ar7 (j := (2 : Int32)) hin7 rfl (Sto.ofV Ar7 q7 U1 (Ins.self (Y50.ext O5.2))) (g := (mkF m 22 #[.val (.int i0), .unset, .unset, .unset] [(.ref w47a), (.int (2 : Int32)), (.ref b1), (.ref b1)])) rfl rfl (hb hby at_22)
  have V7 : Arv Z h7 b1 k1 (.object "com/example/cropmark/cropmark/VarietalType") (9 : Int32) [(.ref w39a), (.ref w43a), (.ref w47a), .null, .null, .null, .null, .null, .null] .null := Arv.set Ar7 q7 S7 M7 H7 G7 rfl W7 2 rfl (Nat.le_of_ble_eq_true rfl)
  have N7 := Fr.snoc X7 N5 g_b1
  have O7 : Old Z n0 h7 := O5.wr W7 g_b1
  refine Go.st st7 ?_
  show Go p e below _ (T7.setTop (mkF m 23 #[.val (.int i0), .unset, .unset, .unset] [(.ref b1)]))
  refine Go.st (fun t k => XS.dup X7.here hx rfl (hb hby at_23) rfl rfl k) ?_
  show Go p e below _ (T7.setTop (mkF m 24 #[.val (.int i0), .unset, .unset, .unset] [(.ref b1), (.ref b1)]))
  refine Go.st (fun t k => XS.iconst X7.here hx rfl (hb hby at_24) k) ?_
  show Go p e below _ (T7.setTop (mkF m 25 #[.val (.int i0), .unset, .unset, .unset] [(.int (3 : Int32)), (.ref b1), (.ref b1)]))
  obtain ⟨T8, X8, e8, st8⟩ := getS2 X7 hx hZ hown (host := "") (Or.inl (w10 hw)) Via.refl e7 (Y53.ext O7.2) (g := (mkF m 25 #[.val (.int i0), .unset, .unset, .unset] [(.int (3 : Int32)), (.ref b1), (.ref b1)])) rfl (hb hby at_25)
  refine Go.st st8 ?_
  show Go p e below _ (T8.setTop (mkF m 28 #[.val (.int i0), .unset, .unset, .unset] [(.ref w51a), (.int (3 : Int32)), (.ref b1), (.ref b1)]))
  obtain ⟨cl9, Ar9, q9, S9, M9, H9, G9⟩ := id V7
  have hin9 : ¬ ((3 : Int32) < 0 ∨ cl9.slots.size ≤ ((3 : Int32)).toNatClampNeg) := inb_of S9 ⟨by decide, by decide⟩
  obtain ⟨T9, h9, X9, e9, W9, st9⟩ := stR X8 hx hZ e8 Ar9 (j := (3 : Int32)) hin9 rfl (Sto.ofV Ar9 q9 U1 (Ins.self (Y54.ext O7.2))) (g := (mkF m 28 #[.val (.int i0), .unset, .unset, .unset] [(.ref w51a), (.int (3 : Int32)), (.ref b1), (.ref b1)])) rfl rfl (hb hby at_28)
  have V9 : Arv Z h9 b1 k1 (.object "com/example/cropmark/cropmark/VarietalType") (9 : Int32) [(.ref w39a), (.ref w43a), (.ref w47a), (.ref w51a), .null, .null, .null, .null, .null] .null := Arv.set Ar9 q9 S9 M9 H9 G9 rfl W9 3 rfl (Nat.le_of_ble_eq_true rfl)
  have N9 := Fr.snoc X9 N7 g_b1
  have O9 : Old Z n0 h9 := O7.wr W9 g_b1
  refine Go.st st9 ?_
  show Go p e below _ (T9.setTop (mkF m 29 #[.val (.int i0), .unset, .unset, .unset] [(.ref b1)]))
  refine Go.st (fun t k => XS.dup X9.here hx rfl (hb hby at_29) rfl rfl k) ?_
  show Go p e below _ (T9.setTop (mkF m 30 #[.val (.int i0), .unset, .unset, .unset] [(.ref b1), (.ref b1)]))
  refine Go.st (fun t k => XS.iconst X9.here hx rfl (hb hby at_30) k) ?_
  show Go p e below _ (T9.setTop (mkF m 31 #[.val (.int i0), .unset, .unset, .unset] [(.int (4 : Int32)), (.ref b1), (.ref b1)]))
  obtain ⟨T10, X10, e10, st10⟩ := getS2 X9 hx hZ hown (host := "") (Or.inl (w12 hw)) Via.refl e9 (Y57.ext O9.2) (g := (mkF m 31 #[.val (.int i0), .unset, .unset, .unset] [(.int (4 : Int32)), (.ref b1), (.ref b1)])) rfl (hb hby at_31)
  refine Go.st st10 ?_
  show Go p e below _ (T10.setTop (mkF m 34 #[.val (.int i0), .unset, .unset, .unset] [(.ref w55a), (.int (4 : Int32)), (.ref b1), (.ref b1)]))
  obtain ⟨cl11, Ar11, q11, S11, M11, H11, G11⟩ := id V9
  have hin11 : ¬ ((4 : Int32) < 0 ∨ cl11.slots.size ≤ ((4 : Int32)).toNatClampNeg) := inb_of S11 ⟨by decide, by decide⟩
  obtain ⟨T11, h11, X11, e11, W11, st11⟩ := stR X10 hx hZ e10 Ar11 (j := (4 : Int32)) hin11 rfl (Sto.ofV Ar11 q11 U1 (Ins.self (Y58.ext O9.2))) (g := (mkF m 34 #[.val (.int i0), .unset, .unset, .unset] [(.ref w55a), (.int (4 : Int32)), (.ref b1), (.ref b1)])) rfl rfl (hb hby at_34)
  have V11 : Arv Z h11 b1 k1 (.object "com/example/cropmark/cropmark/VarietalType") (9 : Int32) [(.ref w39a), (.ref w43a), (.ref w47a), (.ref w51a), (.ref w55a), .null, .null, .null, .null] .null := Arv.set Ar11 q11 S11 M11 H11 G11 rfl W11 4 rfl (Nat.le_of_ble_eq_true rfl)
  have N11 := Fr.snoc X11 N9 g_b1
  have O11 : Old Z n0 h11 := O9.wr W11 g_b1
  refine Go.st st11 ?_
  show Go p e below _ (T11.setTop (mkF m 35 #[.val (.int i0), .unset, .unset, .unset] [(.ref b1)]))
  refine Go.st (fun t k => XS.dup X11.here hx rfl (hb hby at_35) rfl rfl k) ?_
  show Go p e below _ (T11.setTop (mkF m 36 #[.val (.int i0), .unset, .unset, .unset] [(.ref b1), (.ref b1)]))
  refine Go.st (fun t k => XS.iconst X11.here hx rfl (hb hby at_36) k) ?_
  show Go p e below _ (T11.setTop (mkF m 37 #[.val (.int i0), .unset, .unset, .unset] [(.int (5 : Int32)), (.ref b1), (.ref b1)]))
  obtain ⟨T12, X12, e12, st12⟩ := getS2 X11 hx hZ hown (host := "") (Or.inl (w14 hw)) Via.refl e11 (Y61.ext O11.2) (g := (mkF m 37 #[.val (.int i0), .unset, .unset, .unset] [(.int (5 : Int32)), (.ref b1), (.ref b1)])) rfl (hb hby at_37)
  refine Go.st st12 ?_
  show Go p e below _ (T12.setTop (mkF m 40 #[.val (.int i0), .unset, .unset, .unset] [(.ref w59a), (.int (5 : Int32)), (.ref b1), (.ref b1)]))
  obtain ⟨cl13, Ar13, q13, S13, M13, H13, G13⟩ := id V11
  have hin13 : ¬ ((5 : Int32) < 0 ∨ cl13.slots.size ≤ ((5 : Int32)).toNatClampNeg) := inb_of S13 ⟨by decide, by decide⟩
  obtain ⟨T13, h13, X13, e13, W13, st13⟩ := stR X12 hx hZ e12 Ar13 (j := (5 : Int32)) hin13 rfl (Sto.ofV Ar13 q13 U1 (Ins.self (Y62.ext O11.2))) (g := (mkF m 40 #[.val (.int i0), .unset, .unset, .unset] [(.ref w59a), (.int (5 : Int32)), (.ref b1), (.ref b1)])) rfl rfl (hb hby at_40)
  have V13 : Arv Z h13 b1 k1 (.object "com/example/cropmark/cropmark/VarietalType") (9 : Int32) [(.ref w39a), (.ref w43a), (.ref w47a), (.ref w51a), (.ref w55a), (.ref w59a), .null, .null, .null] .null := Arv.set Ar13 q13 S13 M13 H13 G13 rfl W13 5 rfl (Nat.le_of_ble_eq_true rfl)
  have N13 := Fr.snoc X13 N11 g_b1
  have O13 : Old Z n0 h13 := O11.wr W13 g_b1
  refine Go.st st13 ?_
  show Go p e below _ (T13.setTop (mkF m 41 #[.val (.int i0), .unset, .unset, .unset] [(.ref b1)]))
  refine Go.st (fun t k => XS.dup X13.here hx rfl (hb hby at_41) rfl rfl k) ?_
  show Go p e below _ (T13.setTop (mkF m 42 #[.val (.int i0), .unset, .unset, .unset] [(.ref b1), (.ref b1)]))
  refine Go.st (fun t k => XS.bipush X13.here hx rfl (hb hby at_42) k) ?_
  show Go p e below _ (T13.setTop (mkF m 44 #[.val (.int i0), .unset, .unset, .unset] [(.int (6 : Int32)), (.ref b1), (.ref b1)]))
  obtain ⟨T14, X14, e14, st14⟩ := getS2 X13 hx hZ hown (host := "") (Or.inl (w16 hw)) Via.refl e13 (Y65.ext O13.2) (g := (mkF m 44 #[.val (.int i0), .unset, .unset, .unset] [(.int (6 : Int32)), (.ref b1), (.ref b1)])) rfl (hb hby at_44)
  refine Go.st st14 ?_
  show Go p e below _ (T14.setTop (mkF m 47 #[.val (.int i0), .unset, .unset, .unset] [(.ref w63a), (.int (6 : Int32)), (.ref b1), (.ref b1)]))
  obtain ⟨cl15, Ar15, q15, S15, M15, H15, G15⟩ := id V13
  have hin15 : ¬ ((6 : Int32) < 0 ∨ cl15.slots.size ≤ ((6 : Int32)).toNatClampNeg) := inb_of S15 ⟨by decide, by decide⟩
  obtain ⟨T15, h15, X15, e15, W15, st15⟩ := stR X14 hx hZ e14 Ar15 (j := (6 : Int32)) hin15 rfl (Sto.ofV Ar15 q15 U1 (Ins.self (Y66.ext O13.2))) (g := (mkF m 47 #[.val (.int i0), .unset, .unset, .unset] [(.ref w63a), (.int (6 : Int32)), (.ref b1), (.ref b1)])) rfl rfl (hb hby at_47)
  have V15 : Arv Z h15 b1 k1 (.object "com/example/cropmark/cropmark/VarietalType") (9 : Int32) [(.ref w39a), (.ref w43a), (.ref w47a), (.ref w51a), (.ref w55a), (.ref w59a), (.ref w63a), .null, .null] .null := Arv.set Ar15 q15 S15 M15 H15 G15 rfl W15 6 rfl (Nat.le_of_ble_eq_true rfl)
  have N15 := Fr.snoc X15 N13 g_b1
  have O15 : Old Z n0 h15 := O13.wr W15 g_b1
  refine Go.st st15 ?_
  show Go p e below _ (T15.setTop (mkF m 48 #[.val (.int i0), .unset, .unset, .unset] [(.ref b1)]))
  refine Go.st (fun t k => XS.dup X15.here hx rfl (hb hby at_48) rfl rfl k) ?_
  show Go p e below _ (T15.setTop (mkF m 49 #[.val (.int i0), .unset, .unset, .unset] [(.ref b1), (.ref b1)]))
  refine Go.st (fun t k => XS.bipush X15.here hx rfl (hb hby at_49) k) ?_
  show Go p e below _ (T15.setTop (mkF m 51 #[.val (.int i0), .unset, .unset, .unset] [(.int (7 : Int32)), (.ref b1), (.ref b1)]))
  obtain ⟨T16, X16, e16, st16⟩ := getS2 X15 hx hZ hown (host := "") (Or.inl (w18 hw)) Via.refl e15 (Y69.ext O15.2) (g := (mkF m 51 #[.val (.int i0), .unset, .unset, .unset] [(.int (7 : Int32)), (.ref b1), (.ref b1)])) rfl (hb hby at_51)
  refine Go.st st16 ?_
  show Go p e below _ (T16.setTop (mkF m 54 #[.val (.int i0), .unset, .unset, .unset] [(.ref w67a), (.int (7 : Int32)), (.ref b1), (.ref b1)]))
  obtain ⟨cl17, Ar17, q17, S17, M17, H17, G17⟩ := id V15
  have hin17 : ¬ ((7 : Int32) < 0 ∨ cl17.slots.size ≤ ((7 : Int32)).toNatClampNeg) := inb_of S17 ⟨by decide, by decide⟩
  obtain ⟨T17, h17, X17, e17, W17, st17⟩ := stR X16 hx hZ e16 Ar17 (j := (7 : Int32)) hin17 rfl (Sto.ofV Ar17 q17 U1 (Ins.self (Y70.ext O15.2))) (g := (mkF m 54 #[.val (.int i0), .unset, .unset, .unset] [(.ref w67a), (.int (7 : Int32)), (.ref b1), (.ref b1)])) rfl rfl (hb hby at_54)
  have V17 : Arv Z h17 b1 k1 (.object "com/example/cropmark/cropmark/VarietalType") (9 : Int32) [(.ref w39a), (.ref w43a), (.ref w47a), (.ref w51a), (.ref w55a), (.ref w59a), (.ref w63a), (.ref w67a), .null] .null := Arv.set Ar17 q17 S17 M17 H17 G17 rfl W17 7 rfl (Nat.le_of_ble_eq_true rfl)
  have N17 := Fr.snoc X17 N15 g_b1
  have O17 : Old Z n0 h17 := O15.wr W17 g_b1
  refine Go.st st17 ?_
  show Go p e below _ (T17.setTop (mkF m 55 #[.val (.int i0), .unset, .unset, .unset] [(.ref b1)]))
  refine Go.st (fun t k => XS.dup X17.here hx rfl (hb hby at_55) rfl rfl k) ?_
  show Go p e below _ (T17.setTop (mkF m 56 #[.val (.int i0), .unset, .unset, .unset] [(.ref b1), (.ref b1)]))
  refine Go.st (fun t k => XS.bipush X17.here hx rfl (hb hby at_56) k) ?_
  show Go p e below _ (T17.setTop (mkF m 58 #[.val (.int i0), .unset, .unset, .unset] [(.int (8 : Int32)), (.ref b1), (.ref b1)]))
  obtain ⟨T18, X18, e18, st18⟩ := getS2 X17 hx hZ hown (host := "") (Or.inl (w20 hw)) Via.refl e17 (Y73.ext O17.2) (g := (mkF m 58 #[.val (.int i0), .unset, .unset, .unset] [(.int (8 : Int32)), (.ref b1), (.ref b1)])) rfl (hb hby at_58)
  refine Go.st st18 ?_
  show Go p e below _ (T18.setTop (mkF m 61 #[.val (.int i0), .unset, .unset, .unset] [(.ref w71a), (.int (8 : Int32)), (.ref b1), (.ref b1)]))
  obtain ⟨cl19, Ar19, q19, S19, M19, H19, G19⟩ := id V17
  have hin19 : ¬ ((8 : Int32) < 0 ∨ cl19.slots.size ≤ ((8 : Int32)).toNatClampNeg) := inb_of S19 ⟨by decide, by decide⟩
  obtain ⟨T19, h19, X19, e19, W19, st19⟩ := stR X18 hx hZ e18 Ar19 (j := (8 : Int32)) hin19 rfl (Sto.ofV Ar19 q19 U1 (Ins.self (Y74.ext O17.2))) (g := (mkF m 61 #[.val (.int i0), .unset, .unset, .unset] [(.ref w71a), (.int (8 : Int32)), (.ref b1), (.ref b1)])) rfl rfl (hb hby at_61)
  have V19 : Arv Z h19 b1 k1 (.object "com/example/cropmark/cropmark/VarietalType") (9 : Int32) [(.ref w39a), (.ref w43a), (.ref w47a), (.ref w51a), (.ref w55a), (.ref w59a), (.ref w63a), (.ref w67a), (.ref w71a)] .null := Arv.set Ar19 q19 S19 M19 H19 G19 rfl W19 8 rfl (Nat.le_of_ble_eq_true rfl)
  have N19 := Fr.snoc X19 N17 g_b1
  have O19 : Old Z n0 h19 := O17.wr W19 g_b1
  refine Go.st st19 ?_
  show Go p e below _ (T19.setTop (mkF m 62 #[.val (.int i0), .unset, .unset, .unset] [(.ref b1)]))
  refine Go.st (fun t k => XS.astoreN X19.here hx rfl (hb hby at_62) rfl rfl (l' := #[.val (.int i0), .val (.ref b1), .unset, .unset]) rfl k) ?_
  show Go p e below _ (T19.setTop (mkF m 63 #[.val (.int i0), .val (.ref b1), .unset, .unset] []))
  refine Go.st (fun t k => XS.iloadN X19.here hx rfl (hb hby at_63) rfl k) ?_
  show Go p e below _ (T19.setTop (mkF m 64 #[.val (.int i0), .val (.ref b1), .unset, .unset] [(.int i0)]))
  refine Go.st (fun t k => X19.ldcI hx hown (mvT hZ (w22 hw)) (g := (mkF m 64 #[.val (.int i0), .val (.ref b1), .unset, .unset] [(.int i0)])) rfl (hb hby at_64) k) ?_
  show Go p e below _ (T19.setTop (mkF m 66 #[.val (.int i0), .val (.ref b1), .unset, .unset] [(.int (2147483647 : Int32)), (.int i0)]))
  refine Go.st (fun t k => XS.iand X19.here hx rfl (hb hby at_66) rfl k) ?_
  show Go p e below _ (T19.setTop (mkF m 67 #[.val (.int i0), .val (.ref b1), .unset, .unset] [(.int (i0 &&& (2147483647 : Int32)))]))
  refine Go.st (fun t k => XS.bipush X19.here hx rfl (hb hby at_67) k) ?_
  show Go p e below _ (T19.setTop (mkF m 69 #[.val (.int i0), .val (.ref b1), .unset, .unset] [(.int (9 : Int32)), (.int (i0 &&& (2147483647 : Int32)))]))
  refine Go.st (fun t k => iremM X19 hx rfl (hb hby at_69) rfl (by decide : ¬ ((9 : Int32) = (0 : Int32))) k) ?_
  show Go p e below _ (T19.setTop (mkF m 70 #[.val (.int i0), .val (.ref b1), .unset, .unset] [(.int ((i0 &&& (2147483647 : Int32)) % (9 : Int32)))]))
  rcases own_mod9 i0 with hq | hq | hq | hq | hq | hq | hq | hq | hq
  · rw [hq]
    show Go p e below _ (T19.setTop (mkF m 70 #[.val (.int i0), .val (.ref b1), .unset, .unset] [(.int (0 : Int32))]))
    refine Go.st (fun t k => XS.istoreN X19.here hx rfl (hb hby at_70) rfl (l' := #[.val (.int i0), .val (.ref b1), .val (.int (0 : Int32)), .unset]) rfl k) ?_
    show Go p e below _ (T19.setTop (mkF m 71 #[.val (.int i0), .val (.ref b1), .val (.int (0 : Int32)), .unset] []))
    refine Go.st (fun t k => XS.iloadN X19.here hx rfl (hb hby at_71) rfl k) ?_
    show Go p e below _ (T19.setTop (mkF m 72 #[.val (.int i0), .val (.ref b1), .val (.int (0 : Int32)), .unset] [(.int (0 : Int32))]))
    refine Go.st (fun t k => XS.bipush X19.here hx rfl (hb hby at_72) k) ?_
    show Go p e below _ (T19.setTop (mkF m 74 #[.val (.int i0), .val (.ref b1), .val (.int (0 : Int32)), .unset] [(.int (6 : Int32)), (.int (0 : Int32))]))
    refine Go.st (fun t k => XS.icmpNo X19.here hx rfl (hb hby at_74) rfl (Jvm.Free.XT.ii_ge_f (by decide : (0 : Int32) < (6 : Int32))) k) ?_
    show Go p e below _ (T19.setTop (mkF m 77 #[.val (.int i0), .val (.ref b1), .val (.int (0 : Int32)), .unset] []))
    obtain ⟨T20, X20, e20, st20⟩ := getS2 X19 hx hZ hown (host := "") (Or.inl (w23 hw)) Via.refl e19 (Y77.ext O19.2) (g := (mkF m 77 #[.val (.int i0), .val (.ref b1), .val (.int (0 : Int32)), .unset] [])) rfl (hb hby at_77)
    refine Go.st st20 ?_
    show Go p e below _ (T20.setTop (mkF m 80 #[.val (.int i0), .val (.ref b1), .val (.int (0 : Int32)), .unset] [(.ref w75a)]))
    refine Go.st (fun t k => XS.goto X20.here hx rfl (pc0 := 80) (pc' := 86) rfl (hb hby at_80) (by decide) (by decide) k) ?_
    show Go p e below _ (T20.setTop (mkF m 86 #[.val (.int i0), .val (.ref b1), .val (.int (0 : Int32)), .unset] [(.ref w75a)]))
    refine Go.st (fun t k => XS.astoreN X20.here hx rfl (hb hby at_86) rfl rfl (l' := #[.val (.int i0), .val (.ref b1), .val (.int (0 : Int32)), .val (.ref w75a)]) rfl k) ?_
    show Go p e below _ (T20.setTop (mkF m 87 #[.val (.int i0), .val (.ref b1), .val (.int (0 : Int32)), .val (.ref w75a)] []))
    refine Go.st (fun t k => XS.aloadN X20.here hx rfl (hb hby at_87) rfl rfl k) ?_
    show Go p e below _ (T20.setTop (mkF m 88 #[.val (.int i0), .val (.ref b1), .val (.int (0 : Int32)), .val (.ref w75a)] [(.ref b1)]))
    refine Go.st (fun t k => XS.iloadN X20.here hx rfl (hb hby at_88) rfl k) ?_
    show Go p e below _ (T20.setTop (mkF m 89 #[.val (.int i0), .val (.ref b1), .val (.int (0 : Int32)), .val (.ref w75a)] [(.int (0 : Int32)), (.ref b1)]))
    obtain ⟨cl21, Ar21, q21, S21, M21, H21, G21⟩ := id V19
    have hin21 : ¬ ((0 : Int32) < 0 ∨ cl21.slots.size ≤ ((0 : Int32)).toNatClampNeg) := inb_of S21 ⟨by decide, by decide⟩
    have hat21 : cl21.slots[((0 : Int32)).toNatClampNeg]? = some (.ref w39a) := H21.at hin21 rfl
    refine Go.st (fun t k => X20.aaload hx (j := (0 : Int32)) (v := (.ref w39a)) (by rw [e20]; exact Ar21.1) (State.isArrayOf_alike hZ.alike Ar21.2.1) rfl Ar21.2.2 hin21 hat21 (g := (mkF m 89 #[.val (.int i0), .val (.ref b1), .val (.int (0 : Int32)), .val (.ref w75a)] [(.int (0 : Int32)), (.ref b1)])) rfl rfl (hb hby at_89) t k) ?_
    show Go p e below _ (T20.setTop (mkF m 90 #[.val (.int i0), .val (.ref b1), .val (.int (0 : Int32)), .val (.ref w75a)] [(.ref w39a)]))
    obtain ⟨cq22, kq22, q22a, q22b, q22c⟩ := isOf hZ e20 (Y42.ext O19.2)
    obtain ⟨_, _, ⟨T22, L22, k22, n22⟩, -, X22, ⟨Lc22, hQ22, l22, y22, z22⟩, st22⟩ := X20.virtualBack hx (y := (⟨"com/example/cropmark/cropmark/VarietalType", "group", "()Lcom/example/cropmark/cropmark/VarietalType$Group;"⟩ : MethodName)) (z := (⟨"com/example/cropmark/cropmark/VarietalType", "group", "()Lcom/example/cropmark/cropmark/VarietalType$Group;"⟩ : MethodName)) hown (mvT hZ (w26 hw)) (mvT hZ (w27 hw)) (notFace_of_selects (args := #[]) (mvT hZ (w29 hw))) (mvT hZ (w29 hw)) (mvT hZ (w28 hw)) (by decide) (backOf (W := 0) (rm1_1 l Z a0 hw [] w39a w75a h19 n0 O19 Y42 Y84 Y77) hZ (w30 hw) (w3 hw) (by decide) (by decide)) q22a q22c (g := (mkF m 90 #[.val (.int i0), .val (.ref b1), .val (.int (0 : Int32)), .val (.ref w75a)] [(.ref w39a)])) rfl (by rw [hml]; rfl) (Steps.refl _) (argsL := []) (rest := []) (lenOf pd_1 rfl) rfl (by show 2 * 0 + _ ≤ _; exact Nat.le_of_eq rfl) (hb hby at_90) (fun vm₁ hw₁ => ⟨rfl, e20, (by decide : 1 + 0 ≤ _), (by decide : 9 + 0 ≤ _)⟩)
    dsimp only [Pt.U, Pt.locs, Pt.cells, Pt.slots] at X22 l22 y22 z22 st22 hQ22
    subst l22 y22 z22
    obtain ⟨rfl, M22, eh22⟩ := hQ22
    have N22 := Fr.app N19 M22
    refine Go.tr st22 ?_
    show Go p e below _ (T22.setTop (mkF m 93 #[.val (.int i0), .val (.ref b1), .val (.int (0 : Int32)), .val (.ref w75a)] [(.ref w75a)]))
    refine Go.st (fun t k => XS.aloadN X22.here hx rfl (hb hby at_93) rfl rfl k) ?_
    show Go p e below _ (T22.setTop (mkF m 94 #[.val (.int i0), .val (.ref b1), .val (.int (0 : Int32)), .val (.ref w75a)] [(.ref w75a), (.ref w75a)]))
    refine Go.st (fun t k => Jvm.RoadKit.acmp (g := (mkF m 94 #[.val (.int i0), .val (.ref b1), .val (.int (0 : Int32)), .val (.ref w75a)] [(.ref w75a), (.ref w75a)])) X22 hx rfl rfl rfl (pc0 := 94) (pc' := 97) (same := true) rfl (hb hby at_94) rfl (decide_eq_true (congrArg Value.ref rfl)) (by decide) (by decide) k) ?_
    show Go p e below _ (T22.setTop (mkF m 97 #[.val (.int i0), .val (.ref b1), .val (.int (0 : Int32)), .val (.ref w75a)] []))
    refine Go.st (fun t k => XS.iconst X22.here hx rfl (hb hby at_97) k) ?_
    show Go p e below _ (T22.setTop (mkF m 98 #[.val (.int i0), .val (.ref b1), .val (.int (0 : Int32)), .val (.ref w75a)] [(.int (1 : Int32))]))
    refine Go.st (fun t k => XS.goto X22.here hx rfl (pc0 := 98) (pc' := 102) rfl (hb hby at_98) (by decide) (by decide) k) ?_
    show Go p e below _ (T22.setTop (mkF m 102 #[.val (.int i0), .val (.ref b1), .val (.int (0 : Int32)), .val (.ref w75a)] [(.int (1 : Int32))]))
    obtain ⟨fs, hr, hrun, hended, hWd, hsame⟩ := X22.leave (v := some (.int (1 : Int32))) (fun h => by rw [Bd.returns] at h; cases h)
    refine ⟨_, _, ?_, hrun, hended, _, _, rfl, ?_, ⟨⟨_, rfl⟩, hWd, hsame.mono (by decide) (by decide)⟩⟩
    · exact retN X22 hx (t := .boolean) Bd.returns (by simp) (hb hby at_102) hr
    · exact ⟨rfl, N22⟩
  · rw [hq]
    show Go p e below _ (T19.setTop (mkF m 70 #[.val (.int i0), .val (.ref b1), .unset, .unset] [(.int (1 : Int32))]))
    refine Go.st (fun t k => XS.istoreN X19.here hx rfl (hb hby at_70) rfl (l' := #[.val (.int i0), .val (.ref b1), .val (.int (1 : Int32)), .unset]) rfl k) ?_
    show Go p e below _ (T19.setTop (mkF m 71 #[.val (.int i0), .val (.ref b1), .val (.int (1 : Int32)), .unset] []))
    refine Go.st (fun t k => XS.iloadN X19.here hx rfl (hb hby at_71) rfl k) ?_
    show Go p e below _ (T19.setTop (mkF m 72 #[.val (.int i0), .val (.ref b1), .val (.int (1 : Int32)), .unset] [(.int (1 : Int32))]))
    refine Go.st (fun t k => XS.bipush X19.here hx rfl (hb hby at_72) k) ?_
    show Go p e below _ (T19.setTop (mkF m 74 #[.val (.int i0), .val (.ref b1), .val (.int (1 : Int32)), .unset] [(.int (6 : Int32)), (.int (1 : Int32))]))
    refine Go.st (fun t k => XS.icmpNo X19.here hx rfl (hb hby at_74) rfl (Jvm.Free.XT.ii_ge_f (by decide : (1 : Int32) < (6 : Int32))) k) ?_
    show Go p e below _ (T19.setTop (mkF m 77 #[.val (.int i0), .val (.ref b1), .val (.int (1 : Int32)), .unset] []))
    obtain ⟨T23, X23, e23, st23⟩ := getS2 X19 hx hZ hown (host := "") (Or.inl (w23 hw)) Via.refl e19 (Y77.ext O19.2) (g := (mkF m 77 #[.val (.int i0), .val (.ref b1), .val (.int (1 : Int32)), .unset] [])) rfl (hb hby at_77)
    refine Go.st st23 ?_
    show Go p e below _ (T23.setTop (mkF m 80 #[.val (.int i0), .val (.ref b1), .val (.int (1 : Int32)), .unset] [(.ref w75a)]))
    refine Go.st (fun t k => XS.goto X23.here hx rfl (pc0 := 80) (pc' := 86) rfl (hb hby at_80) (by decide) (by decide) k) ?_
    show Go p e below _ (T23.setTop (mkF m 86 #[.val (.int i0), .val (.ref b1), .val (.int (1 : Int32)), .unset] [(.ref w75a)]))
    refine Go.st (fun t k => XS.astoreN X23.here hx rfl (hb hby at_86) rfl rfl (l' := #[.val (.int i0), .val (.ref b1), .val (.int (1 : Int32)), .val (.ref w75a)]) rfl k) ?_
    show Go p e below _ (T23.setTop (mkF m 87 #[.val (.int i0), .val (.ref b1), .val (.int (1 : Int32)), .val (.ref w75a)] []))
    refine Go.st (fun t k => XS.aloadN X23.here hx rfl (hb hby at_87) rfl rfl k) ?_
    show Go p e below _ (T23.setTop (mkF m 88 #[.val (.int i0), .val (.ref b1), .val (.int (1 : Int32)), .val (.ref w75a)] [(.ref b1)]))
    refine Go.st (fun t k => XS.iloadN X23.here hx rfl (hb hby at_88) rfl k) ?_
    show Go p e below _ (T23.setTop (mkF m 89 #[.val (.int i0), .val (.ref b1), .val (.int (1 : Int32)), .val (.ref w75a)] [(.int (1 : Int32)), (.ref b1)]))
    obtain ⟨cl24, Ar24, q24, S24, M24, H24, G24⟩ := id V19
    have hin24 : ¬ ((1 : Int32) < 0 ∨ cl24.slots.size ≤ ((1 : Int32)).toNatClampNeg) := inb_of S24 ⟨by decide, by decide⟩
    have hat24 : cl24.slots[((1 : Int32)).toNatClampNeg]? = some (.ref w43a) := H24.at hin24 rfl
    refine Go.st (fun t k => X23.aaload hx (j := (1 : Int32)) (v := (.ref w43a)) (by rw [e23]; exact Ar24.1) (State.isArrayOf_alike hZ.alike Ar24.2.1) rfl Ar24.2.2 hin24 hat24 (g := (mkF m 89 #[.val (.int i0), .val (.ref b1), .val (.int (1 : Int32)), .val (.ref w75a)] [(.int (1 : Int32)), (.ref b1)])) rfl rfl (hb hby at_89) t k) ?_
    show Go p e below _ (T23.setTop (mkF m 90 #[.val (.int i0), .val (.ref b1), .val (.int (1 : Int32)), .val (.ref w75a)] [(.ref w43a)]))
    obtain ⟨cq25, kq25, q25a, q25b, q25c⟩ := isOf hZ e23 (Y46.ext O19.2)
    obtain ⟨_, _, ⟨T25, L25, k25, n25⟩, -, X25, ⟨Lc25, hQ25, l25, y25, z25⟩, st25⟩ := X23.virtualBack hx (y := (⟨"com/example/cropmark/cropmark/VarietalType", "group", "()Lcom/example/cropmark/cropmark/VarietalType$Group;"⟩ : MethodName)) (z := (⟨"com/example/cropmark/cropmark/VarietalType", "group", "()Lcom/example/cropmark/cropmark/VarietalType$Group;"⟩ : MethodName)) hown (mvT hZ (w26 hw)) (mvT hZ (w27 hw)) (notFace_of_selects (args := #[]) (mvT hZ (w29 hw))) (mvT hZ (w29 hw)) (mvT hZ (w28 hw)) (by decide) (backOf (W := 0) (rm1_2 l Z a0 hw [] w43a w75a h19 n0 O19 Y46 Y90 Y77) hZ (w30 hw) (w3 hw) (by decide) (by decide)) q25a q25c (g := (mkF m 90 #[.val (.int i0), .val (.ref b1), .val (.int (1 : Int32)), .val (.ref w75a)] [(.ref w43a)])) rfl (by rw [hml]; rfl) (Steps.refl _) (argsL := []) (rest := []) (lenOf pd_1 rfl) rfl (by show 2 * 0 + _ ≤ _; exact Nat.le_of_eq rfl) (hb hby at_90) (fun vm₁ hw₁ => ⟨rfl, e23, (by decide : 1 + 0 ≤ _), (by decide : 9 + 0 ≤ _)⟩)
    dsimp only [Pt.U, Pt.locs, Pt.cells, Pt.slots] at X25 l25 y25 z25 st25 hQ25
    subst l25 y25 z25
    obtain ⟨rfl, M25, eh25⟩ := hQ25
    have N25 := Fr.app N19 M25
    refine Go.tr st25 ?_
    show Go p e below _ (T25.setTop (mkF m 93 #[.val (.int i0), .val (.ref b1), .val (.int (1 : Int32)), .val (.ref w75a)] [(.ref w75a)]))
    refine Go.st (fun t k => XS.aloadN X25.here hx rfl (hb hby at_93) rfl rfl k) ?_
    show Go p e below _ (T25.setTop (mkF m 94 #[.val (.int i0), .val (.ref b1), .val (.int (1 : Int32)), .val (.ref w75a)] [(.ref w75a), (.ref w75a)]))
    refine Go.st (fun t k => Jvm.RoadKit.acmp (g := (mkF m 94 #[.val (.int i0), .val (.ref b1), .val (.int (1 : Int32)), .val (.ref w75a)] [(.ref w75a), (.ref w75a)])) X25 hx rfl rfl rfl (pc0 := 94) (pc' := 97) (same := true) rfl (hb hby at_94) rfl (decide_eq_true (congrArg Value.ref rfl)) (by decide) (by decide) k) ?_
    show Go p e below _ (T25.setTop (mkF m 97 #[.val (.int i0), .val (.ref b1), .val (.int (1 : Int32)), .val (.ref w75a)] []))
    refine Go.st (fun t k => XS.iconst X25.here hx rfl (hb hby at_97) k) ?_
    show Go p e below _ (T25.setTop (mkF m 98 #[.val (.int i0), .val (.ref b1), .val (.int (1 : Int32)), .val (.ref w75a)] [(.int (1 : Int32))]))
    refine Go.st (fun t k => XS.goto X25.here hx rfl (pc0 := 98) (pc' := 102) rfl (hb hby at_98) (by decide) (by decide) k) ?_
    show Go p e below _ (T25.setTop (mkF m 102 #[.val (.int i0), .val (.ref b1), .val (.int (1 : Int32)), .val (.ref w75a)] [(.int (1 : Int32))]))
    obtain ⟨fs, hr, hrun, hended, hWd, hsame⟩ := X25.leave (v := some (.int (1 : Int32))) (fun h => by rw [Bd.returns] at h; cases h)
    refine ⟨_, _, ?_, hrun, hended, _, _, rfl, ?_, ⟨⟨_, rfl⟩, hWd, hsame.mono (by decide) (by decide)⟩⟩
    · exact retN X25 hx (t := .boolean) Bd.returns (by simp) (hb hby at_102) hr
    · exact ⟨rfl, N25⟩
  · rw [hq]
    show Go p e below _ (T19.setTop (mkF m 70 #[.val (.int i0), .val (.ref b1), .unset, .unset] [(.int (2 : Int32))]))
    refine Go.st (fun t k => XS.istoreN X19.here hx rfl (hb hby at_70) rfl (l' := #[.val (.int i0), .val (.ref b1), .val (.int (2 : Int32)), .unset]) rfl k) ?_
    show Go p e below _ (T19.setTop (mkF m 71 #[.val (.int i0), .val (.ref b1), .val (.int (2 : Int32)), .unset] []))
    refine Go.st (fun t k => XS.iloadN X19.here hx rfl (hb hby at_71) rfl k) ?_
    show Go p e below _ (T19.setTop (mkF m 72 #[.val (.int i0), .val (.ref b1), .val (.int (2 : Int32)), .unset] [(.int (2 : Int32))]))
    refine Go.st (fun t k => XS.bipush X19.here hx rfl (hb hby at_72) k) ?_
    show Go p e below _ (T19.setTop (mkF m 74 #[.val (.int i0), .val (.ref b1), .val (.int (2 : Int32)), .unset] [(.int (6 : Int32)), (.int (2 : Int32))]))
    refine Go.st (fun t k => XS.icmpNo X19.here hx rfl (hb hby at_74) rfl (Jvm.Free.XT.ii_ge_f (by decide : (2 : Int32) < (6 : Int32))) k) ?_
    show Go p e below _ (T19.setTop (mkF m 77 #[.val (.int i0), .val (.ref b1), .val (.int (2 : Int32)), .unset] []))
    obtain ⟨T26, X26, e26, st26⟩ := getS2 X19 hx hZ hown (host := "") (Or.inl (w23 hw)) Via.refl e19 (Y77.ext O19.2) (g := (mkF m 77 #[.val (.int i0), .val (.ref b1), .val (.int (2 : Int32)), .unset] [])) rfl (hb hby at_77)
    refine Go.st st26 ?_
    show Go p e below _ (T26.setTop (mkF m 80 #[.val (.int i0), .val (.ref b1), .val (.int (2 : Int32)), .unset] [(.ref w75a)]))
    refine Go.st (fun t k => XS.goto X26.here hx rfl (pc0 := 80) (pc' := 86) rfl (hb hby at_80) (by decide) (by decide) k) ?_
    show Go p e below _ (T26.setTop (mkF m 86 #[.val (.int i0), .val (.ref b1), .val (.int (2 : Int32)), .unset] [(.ref w75a)]))
    refine Go.st (fun t k => XS.astoreN X26.here hx rfl (hb hby at_86) rfl rfl (l' := #[.val (.int i0), .val (.ref b1), .val (.int (2 : Int32)), .val (.ref w75a)]) rfl k) ?_
    show Go p e below _ (T26.setTop (mkF m 87 #[.val (.int i0), .val (.ref b1), .val (.int (2 : Int32)), .val (.ref w75a)] []))
    refine Go.st (fun t k => XS.aloadN X26.here hx rfl (hb hby at_87) rfl rfl k) ?_
    show Go p e below _ (T26.setTop (mkF m 88 #[.val (.int i0), .val (.ref b1), .val (.int (2 : Int32)), .val (.ref w75a)] [(.ref b1)]))
    refine Go.st (fun t k => XS.iloadN X26.here hx rfl (hb hby at_88) rfl k) ?_
    show Go p e below _ (T26.setTop (mkF m 89 #[.val (.int i0), .val (.ref b1), .val (.int (2 : Int32)), .val (.ref w75a)] [(.int (2 : Int32)), (.ref b1)]))
    obtain ⟨cl27, Ar27, q27, S27, M27, H27, G27⟩ := id V19
    have hin27 : ¬ ((2 : Int32) < 0 ∨ cl27.slots.size ≤ ((2 : Int32)).toNatClampNeg) := inb_of S27 ⟨by decide, by decide⟩
    have hat27 : cl27.slots[((2 : Int32)).toNatClampNeg]? = some (.ref w47a) := H27.at hin27 rfl
    refine Go.st (fun t k => X26.aaload hx (j := (2 : Int32)) (v := (.ref w47a)) (by rw [e26]; exact Ar27.1) (State.isArrayOf_alike hZ.alike Ar27.2.1) rfl Ar27.2.2 hin27 hat27 (g := (mkF m 89 #[.val (.int i0), .val (.ref b1), .val (.int (2 : Int32)), .val (.ref w75a)] [(.int (2 : Int32)), (.ref b1)])) rfl rfl (hb hby at_89) t k) ?_
    show Go p e below _ (T26.setTop (mkF m 90 #[.val (.int i0), .val (.ref b1), .val (.int (2 : Int32)), .val (.ref w75a)] [(.ref w47a)]))
    obtain ⟨cq28, kq28, q28a, q28b, q28c⟩ := isOf hZ e26 (Y50.ext O19.2)
    obtain ⟨_, _, ⟨T28, L28, k28, n28⟩, -, X28, ⟨Lc28, hQ28, l28, y28, z28⟩, st28⟩ := X26.virtualBack hx (y := (⟨"com/example/cropmark/cropmark/VarietalType", "group", "()Lcom/example/cropmark/cropmark/VarietalType$Group;"⟩ : MethodName)) (z := (⟨"com/example/cropmark/cropmark/VarietalType", "group", "()Lcom/example/cropmark/cropmark/VarietalType$Group;"⟩ : MethodName)) hown (mvT hZ (w26 hw)) (mvT hZ (w27 hw)) (notFace_of_selects (args := #[]) (mvT hZ (w29 hw))) (mvT hZ (w29 hw)) (mvT hZ (w28 hw)) (by decide) (backOf (W := 0) (rm1_3 l Z a0 hw [] w47a w75a h19 n0 O19 Y50 Y88 Y77) hZ (w30 hw) (w3 hw) (by decide) (by decide)) q28a q28c (g := (mkF m 90 #[.val (.int i0), .val (.ref b1), .val (.int (2 : Int32)), .val (.ref w75a)] [(.ref w47a)])) rfl (by rw [hml]; rfl) (Steps.refl _) (argsL := []) (rest := []) (lenOf pd_1 rfl) rfl (by show 2 * 0 + _ ≤ _; exact Nat.le_of_eq rfl) (hb hby at_90) (fun vm₁ hw₁ => ⟨rfl, e26, (by decide : 1 + 0 ≤ _), (by decide : 9 + 0 ≤ _)⟩)
    dsimp only [Pt.U, Pt.locs, Pt.cells, Pt.slots] at X28 l28 y28 z28 st28 hQ28
    subst l28 y28 z28
    obtain ⟨rfl, M28, eh28⟩ := hQ28
    have N28 := Fr.app N19 M28
    refine Go.tr st28 ?_
    show Go p e below _ (T28.setTop (mkF m 93 #[.val (.int i0), .val (.ref b1), .val (.int (2 : Int32)), .val (.ref w75a)] [(.ref w75a)]))
    refine Go.st (fun t k => XS.aloadN X28.here hx rfl (hb hby at_93) rfl rfl k) ?_
    show Go p e below _ (T28.setTop (mkF m 94 #[.val (.int i0), .val (.ref b1), .val (.int (2 : Int32)), .val (.ref w75a)] [(.ref w75a), (.ref w75a)]))
    refine Go.st (fun t k => Jvm.RoadKit.acmp (g := (mkF m 94 #[.val (.int i0), .val (.ref b1), .val (.int (2 : Int32)), .val (.ref w75a)] [(.ref w75a), (.ref w75a)])) X28 hx rfl rfl rfl (pc0 := 94) (pc' := 97) (same := true) rfl (hb hby at_94) rfl (decide_eq_true (congrArg Value.ref rfl)) (by decide) (by decide) k) ?_
    show Go p e below _ (T28.setTop (mkF m 97 #[.val (.int i0), .val (.ref b1), .val (.int (2 : Int32)), .val (.ref w75a)] []))
    refine Go.st (fun t k => XS.iconst X28.here hx rfl (hb hby at_97) k) ?_
    show Go p e below _ (T28.setTop (mkF m 98 #[.val (.int i0), .val (.ref b1), .val (.int (2 : Int32)), .val (.ref w75a)] [(.int (1 : Int32))]))
    refine Go.st (fun t k => XS.goto X28.here hx rfl (pc0 := 98) (pc' := 102) rfl (hb hby at_98) (by decide) (by decide) k) ?_
    show Go p e below _ (T28.setTop (mkF m 102 #[.val (.int i0), .val (.ref b1), .val (.int (2 : Int32)), .val (.ref w75a)] [(.int (1 : Int32))]))
    obtain ⟨fs, hr, hrun, hended, hWd, hsame⟩ := X28.leave (v := some (.int (1 : Int32))) (fun h => by rw [Bd.returns] at h; cases h)
    refine ⟨_, _, ?_, hrun, hended, _, _, rfl, ?_, ⟨⟨_, rfl⟩, hWd, hsame.mono (by decide) (by decide)⟩⟩
    · exact retN X28 hx (t := .boolean) Bd.returns (by simp) (hb hby at_102) hr
    · exact ⟨rfl, N28⟩
  · rw [hq]
    show Go p e below _ (T19.setTop (mkF m 70 #[.val (.int i0), .val (.ref b1), .unset, .unset] [(.int (3 : Int32))]))
    refine Go.st (fun t k => XS.istoreN X19.here hx rfl (hb hby at_70) rfl (l' := #[.val (.int i0), .val (.ref b1), .val (.int (3 : Int32)), .unset]) rfl k) ?_
    show Go p e below _ (T19.setTop (mkF m 71 #[.val (.int i0), .val (.ref b1), .val (.int (3 : Int32)), .unset] []))
    refine Go.st (fun t k => XS.iloadN X19.here hx rfl (hb hby at_71) rfl k) ?_
    show Go p e below _ (T19.setTop (mkF m 72 #[.val (.int i0), .val (.ref b1), .val (.int (3 : Int32)), .unset] [(.int (3 : Int32))]))
    refine Go.st (fun t k => XS.bipush X19.here hx rfl (hb hby at_72) k) ?_
    show Go p e below _ (T19.setTop (mkF m 74 #[.val (.int i0), .val (.ref b1), .val (.int (3 : Int32)), .unset] [(.int (6 : Int32)), (.int (3 : Int32))]))
    refine Go.st (fun t k => XS.icmpNo X19.here hx rfl (hb hby at_74) rfl (Jvm.Free.XT.ii_ge_f (by decide : (3 : Int32) < (6 : Int32))) k) ?_
    show Go p e below _ (T19.setTop (mkF m 77 #[.val (.int i0), .val (.ref b1), .val (.int (3 : Int32)), .unset] []))
    obtain ⟨T29, X29, e29, st29⟩ := getS2 X19 hx hZ hown (host := "") (Or.inl (w23 hw)) Via.refl e19 (Y77.ext O19.2) (g := (mkF m 77 #[.val (.int i0), .val (.ref b1), .val (.int (3 : Int32)), .unset] [])) rfl (hb hby at_77)
    refine Go.st st29 ?_
    show Go p e below _ (T29.setTop (mkF m 80 #[.val (.int i0), .val (.ref b1), .val (.int (3 : Int32)), .unset] [(.ref w75a)]))
    refine Go.st (fun t k => XS.goto X29.here hx rfl (pc0 := 80) (pc' := 86) rfl (hb hby at_80) (by decide) (by decide) k) ?_
    show Go p e below _ (T29.setTop (mkF m 86 #[.val (.int i0), .val (.ref b1), .val (.int (3 : Int32)), .unset] [(.ref w75a)]))
    refine Go.st (fun t k => XS.astoreN X29.here hx rfl (hb hby at_86) rfl rfl (l' := #[.val (.int i0), .val (.ref b1), .val (.int (3 : Int32)), .val (.ref w75a)]) rfl k) ?_
    show Go p e below _ (T29.setTop (mkF m 87 #[.val (.int i0), .val (.ref b1), .val (.int (3 : Int32)), .val (.ref w75a)] []))
    refine Go.st (fun t k => XS.aloadN X29.here hx rfl (hb hby at_87) rfl rfl k) ?_
    show Go p e below _ (T29.setTop (mkF m 88 #[.val (.int i0), .val (.ref b1), .val (.int (3 : Int32)), .val (.ref w75a)] [(.ref b1)]))
    refine Go.st (fun t k => XS.iloadN X29.here hx rfl (hb hby at_88) rfl k) ?_
    show Go p e below _ (T29.setTop (mkF m 89 #[.val (.int i0), .val (.ref b1), .val (.int (3 : Int32)), .val (.ref w75a)] [(.int (3 : Int32)), (.ref b1)]))
    obtain ⟨cl30, Ar30, q30, S30, M30, H30, G30⟩ := id V19
    have hin30 : ¬ ((3 : Int32) < 0 ∨ cl30.slots.size ≤ ((3 : Int32)).toNatClampNeg) := inb_of S30 ⟨by decide, by decide⟩
    have hat30 : cl30.slots[((3 : Int32)).toNatClampNeg]? = some (.ref w51a) := H30.at hin30 rfl
    refine Go.st (fun t k => X29.aaload hx (j := (3 : Int32)) (v := (.ref w51a)) (by rw [e29]; exact Ar30.1) (State.isArrayOf_alike hZ.alike Ar30.2.1) rfl Ar30.2.2 hin30 hat30 (g := (mkF m 89 #[.val (.int i0), .val (.ref b1), .val (.int (3 : Int32)), .val (.ref w75a)] [(.int (3 : Int32)), (.ref b1)])) rfl rfl (hb hby at_89) t k) ?_
    show Go p e below _ (T29.setTop (mkF m 90 #[.val (.int i0), .val (.ref b1), .val (.int (3 : Int32)), .val (.ref w75a)] [(.ref w51a)]))
    obtain ⟨cq31, kq31, q31a, q31b, q31c⟩ := isOf hZ e29 (Y54.ext O19.2)
    obtain ⟨_, _, ⟨T31, L31, k31, n31⟩, -, X31, ⟨Lc31, hQ31, l31, y31, z31⟩, st31⟩ := X29.virtualBack hx (y := (⟨"com/example/cropmark/cropmark/VarietalType", "group", "()Lcom/example/cropmark/cropmark/VarietalType$Group;"⟩ : MethodName)) (z := (⟨"com/example/cropmark/cropmark/VarietalType", "group", "()Lcom/example/cropmark/cropmark/VarietalType$Group;"⟩ : MethodName)) hown (mvT hZ (w26 hw)) (mvT hZ (w27 hw)) (notFace_of_selects (args := #[]) (mvT hZ (w29 hw))) (mvT hZ (w29 hw)) (mvT hZ (w28 hw)) (by decide) (backOf (W := 0) (rm1_4 l Z a0 hw [] w51a w75a h19 n0 O19 Y54 Y86 Y77) hZ (w30 hw) (w3 hw) (by decide) (by decide)) q31a q31c (g := (mkF m 90 #[.val (.int i0), .val (.ref b1), .val (.int (3 : Int32)), .val (.ref w75a)] [(.ref w51a)])) rfl (by rw [hml]; rfl) (Steps.refl _) (argsL := []) (rest := []) (lenOf pd_1 rfl) rfl (by show 2 * 0 + _ ≤ _; exact Nat.le_of_eq rfl) (hb hby at_90) (fun vm₁ hw₁ => ⟨rfl, e29, (by decide : 1 + 0 ≤ _), (by decide : 9 + 0 ≤ _)⟩)
    dsimp only [Pt.U, Pt.locs, Pt.cells, Pt.slots] at X31 l31 y31 z31 st31 hQ31
    subst l31 y31 z31
    obtain ⟨rfl, M31, eh31⟩ := hQ31
    have N31 := Fr.app N19 M31
    refine Go.tr st31 ?_
    show Go p e below _ (T31.setTop (mkF m 93 #[.val (.int i0), .val (.ref b1), .val (.int (3 : Int32)), .val (.ref w75a)] [(.ref w75a)]))
    refine Go.st (fun t k => XS.aloadN X31.here hx rfl (hb hby at_93) rfl rfl k) ?_
    show Go p e below _ (T31.setTop (mkF m 94 #[.val (.int i0), .val (.ref b1), .val (.int (3 : Int32)), .val (.ref w75a)] [(.ref w75a), (.ref w75a)]))
    refine Go.st (fun t k => Jvm.RoadKit.acmp (g := (mkF m 94 #[.val (.int i0), .val (.ref b1), .val (.int (3 : Int32)), .val (.ref w75a)] [(.ref w75a), (.ref w75a)])) X31 hx rfl rfl rfl (pc0 := 94) (pc' := 97) (same := true) rfl (hb hby at_94) rfl (decide_eq_true (congrArg Value.ref rfl)) (by decide) (by decide) k) ?_
    show Go p e below _ (T31.setTop (mkF m 97 #[.val (.int i0), .val (.ref b1), .val (.int (3 : Int32)), .val (.ref w75a)] []))
    refine Go.st (fun t k => XS.iconst X31.here hx rfl (hb hby at_97) k) ?_
    show Go p e below _ (T31.setTop (mkF m 98 #[.val (.int i0), .val (.ref b1), .val (.int (3 : Int32)), .val (.ref w75a)] [(.int (1 : Int32))]))
    refine Go.st (fun t k => XS.goto X31.here hx rfl (pc0 := 98) (pc' := 102) rfl (hb hby at_98) (by decide) (by decide) k) ?_
    show Go p e below _ (T31.setTop (mkF m 102 #[.val (.int i0), .val (.ref b1), .val (.int (3 : Int32)), .val (.ref w75a)] [(.int (1 : Int32))]))
    obtain ⟨fs, hr, hrun, hended, hWd, hsame⟩ := X31.leave (v := some (.int (1 : Int32))) (fun h => by rw [Bd.returns] at h; cases h)
    refine ⟨_, _, ?_, hrun, hended, _, _, rfl, ?_, ⟨⟨_, rfl⟩, hWd, hsame.mono (by decide) (by decide)⟩⟩
    · exact retN X31 hx (t := .boolean) Bd.returns (by simp) (hb hby at_102) hr
    · exact ⟨rfl, N31⟩
  · rw [hq]
    show Go p e below _ (T19.setTop (mkF m 70 #[.val (.int i0), .val (.ref b1), .unset, .unset] [(.int (4 : Int32))]))
    refine Go.st (fun t k => XS.istoreN X19.here hx rfl (hb hby at_70) rfl (l' := #[.val (.int i0), .val (.ref b1), .val (.int (4 : Int32)), .unset]) rfl k) ?_
    show Go p e below _ (T19.setTop (mkF m 71 #[.val (.int i0), .val (.ref b1), .val (.int (4 : Int32)), .unset] []))
    refine Go.st (fun t k => XS.iloadN X19.here hx rfl (hb hby at_71) rfl k) ?_
    show Go p e below _ (T19.setTop (mkF m 72 #[.val (.int i0), .val (.ref b1), .val (.int (4 : Int32)), .unset] [(.int (4 : Int32))]))
    refine Go.st (fun t k => XS.bipush X19.here hx rfl (hb hby at_72) k) ?_
    show Go p e below _ (T19.setTop (mkF m 74 #[.val (.int i0), .val (.ref b1), .val (.int (4 : Int32)), .unset] [(.int (6 : Int32)), (.int (4 : Int32))]))
    refine Go.st (fun t k => XS.icmpNo X19.here hx rfl (hb hby at_74) rfl (Jvm.Free.XT.ii_ge_f (by decide : (4 : Int32) < (6 : Int32))) k) ?_
    show Go p e below _ (T19.setTop (mkF m 77 #[.val (.int i0), .val (.ref b1), .val (.int (4 : Int32)), .unset] []))
    obtain ⟨T32, X32, e32, st32⟩ := getS2 X19 hx hZ hown (host := "") (Or.inl (w23 hw)) Via.refl e19 (Y77.ext O19.2) (g := (mkF m 77 #[.val (.int i0), .val (.ref b1), .val (.int (4 : Int32)), .unset] [])) rfl (hb hby at_77)
    refine Go.st st32 ?_
    show Go p e below _ (T32.setTop (mkF m 80 #[.val (.int i0), .val (.ref b1), .val (.int (4 : Int32)), .unset] [(.ref w75a)]))
    refine Go.st (fun t k => XS.goto X32.here hx rfl (pc0 := 80) (pc' := 86) rfl (hb hby at_80) (by decide) (by decide) k) ?_
    show Go p e below _ (T32.setTop (mkF m 86 #[.val (.int i0), .val (.ref b1), .val (.int (4 : Int32)), .unset] [(.ref w75a)]))
    refine Go.st (fun t k => XS.astoreN X32.here hx rfl (hb hby at_86) rfl rfl (l' := #[.val (.int i0), .val (.ref b1), .val (.int (4 : Int32)), .val (.ref w75a)]) rfl k) ?_
    show Go p e below _ (T32.setTop (mkF m 87 #[.val (.int i0), .val (.ref b1), .val (.int (4 : Int32)), .val (.ref w75a)] []))
    refine Go.st (fun t k => XS.aloadN X32.here hx rfl (hb hby at_87) rfl rfl k) ?_
    show Go p e below _ (T32.setTop (mkF m 88 #[.val (.int i0), .val (.ref b1), .val (.int (4 : Int32)), .val (.ref w75a)] [(.ref b1)]))
    refine Go.st (fun t k => XS.iloadN X32.here hx rfl (hb hby at_88) rfl k) ?_
    show Go p e below _ (T32.setTop (mkF m 89 #[.val (.int i0), .val (.ref b1), .val (.int (4 : Int32)), .val (.ref w75a)] [(.int (4 : Int32)), (.ref b1)]))
    obtain ⟨cl33, Ar33, q33, S33, M33, H33, G33⟩ := id V19
    have hin33 : ¬ ((4 : Int32) < 0 ∨ cl33.slots.size ≤ ((4 : Int32)).toNatClampNeg) := inb_of S33 ⟨by decide, by decide⟩
    have hat33 : cl33.slots[((4 : Int32)).toNatClampNeg]? = some (.ref w55a) := H33.at hin33 rfl
    refine Go.st (fun t k => X32.aaload hx (j := (4 : Int32)) (v := (.ref w55a)) (by rw [e32]; exact Ar33.1) (State.isArrayOf_alike hZ.alike Ar33.2.1) rfl Ar33.2.2 hin33 hat33 (g := (mkF m 89 #[.val (.int i0), .val (.ref b1), .val (.int (4 : Int32)), .val (.ref w75a)] [(.int (4 : Int32)), (.ref b1)])) rfl rfl (hb hby at_89) t k) ?_
    show Go p e below _ (T32.setTop (mkF m 90 #[.val (.int i0), .val (.ref b1), .val (.int (4 : Int32)), .val (.ref w75a)] [(.ref w55a)]))
    obtain ⟨cq34, kq34, q34a, q34b, q34c⟩ := isOf hZ e32 (Y58.ext O19.2)
    obtain ⟨_, _, ⟨T34, L34, k34, n34⟩, -, X34, ⟨Lc34, hQ34, l34, y34, z34⟩, st34⟩ := X32.virtualBack hx (y := (⟨"com/example/cropmark/cropmark/VarietalType", "group", "()Lcom/example/cropmark/cropmark/VarietalType$Group;"⟩ : MethodName)) (z := (⟨"com/example/cropmark/cropmark/VarietalType", "group", "()Lcom/example/cropmark/cropmark/VarietalType$Group;"⟩ : MethodName)) hown (mvT hZ (w26 hw)) (mvT hZ (w27 hw)) (notFace_of_selects (args := #[]) (mvT hZ (w29 hw))) (mvT hZ (w29 hw)) (mvT hZ (w28 hw)) (by decide) (backOf (W := 0) (rm1_5 l Z a0 hw [] w55a w75a h19 n0 O19 Y58 Y94 Y77) hZ (w30 hw) (w3 hw) (by decide) (by decide)) q34a q34c (g := (mkF m 90 #[.val (.int i0), .val (.ref b1), .val (.int (4 : Int32)), .val (.ref w75a)] [(.ref w55a)])) rfl (by rw [hml]; rfl) (Steps.refl _) (argsL := []) (rest := []) (lenOf pd_1 rfl) rfl (by show 2 * 0 + _ ≤ _; exact Nat.le_of_eq rfl) (hb hby at_90) (fun vm₁ hw₁ => ⟨rfl, e32, (by decide : 1 + 0 ≤ _), (by decide : 9 + 0 ≤ _)⟩)
    dsimp only [Pt.U, Pt.locs, Pt.cells, Pt.slots] at X34 l34 y34 z34 st34 hQ34
    subst l34 y34 z34
    obtain ⟨rfl, M34, eh34⟩ := hQ34
    have N34 := Fr.app N19 M34
    refine Go.tr st34 ?_
    show Go p e below _ (T34.setTop (mkF m 93 #[.val (.int i0), .val (.ref b1), .val (.int (4 : Int32)), .val (.ref w75a)] [(.ref w75a)]))
    refine Go.st (fun t k => XS.aloadN X34.here hx rfl (hb hby at_93) rfl rfl k) ?_
    show Go p e below _ (T34.setTop (mkF m 94 #[.val (.int i0), .val (.ref b1), .val (.int (4 : Int32)), .val (.ref w75a)] [(.ref w75a), (.ref w75a)]))
    refine Go.st (fun t k => Jvm.RoadKit.acmp (g := (mkF m 94 #[.val (.int i0), .val (.ref b1), .val (.int (4 : Int32)), .val (.ref w75a)] [(.ref w75a), (.ref w75a)])) X34 hx rfl rfl rfl (pc0 := 94) (pc' := 97) (same := true) rfl (hb hby at_94) rfl (decide_eq_true (congrArg Value.ref rfl)) (by decide) (by decide) k) ?_
    show Go p e below _ (T34.setTop (mkF m 97 #[.val (.int i0), .val (.ref b1), .val (.int (4 : Int32)), .val (.ref w75a)] []))
    refine Go.st (fun t k => XS.iconst X34.here hx rfl (hb hby at_97) k) ?_
    show Go p e below _ (T34.setTop (mkF m 98 #[.val (.int i0), .val (.ref b1), .val (.int (4 : Int32)), .val (.ref w75a)] [(.int (1 : Int32))]))
    refine Go.st (fun t k => XS.goto X34.here hx rfl (pc0 := 98) (pc' := 102) rfl (hb hby at_98) (by decide) (by decide) k) ?_
    show Go p e below _ (T34.setTop (mkF m 102 #[.val (.int i0), .val (.ref b1), .val (.int (4 : Int32)), .val (.ref w75a)] [(.int (1 : Int32))]))
    obtain ⟨fs, hr, hrun, hended, hWd, hsame⟩ := X34.leave (v := some (.int (1 : Int32))) (fun h => by rw [Bd.returns] at h; cases h)
    refine ⟨_, _, ?_, hrun, hended, _, _, rfl, ?_, ⟨⟨_, rfl⟩, hWd, hsame.mono (by decide) (by decide)⟩⟩
    · exact retN X34 hx (t := .boolean) Bd.returns (by simp) (hb hby at_102) hr
    · exact ⟨rfl, N34⟩
  · rw [hq]
    show Go p e below _ (T19.setTop (mkF m 70 #[.val (.int i0), .val (.ref b1), .unset, .unset] [(.int (5 : Int32))]))
    refine Go.st (fun t k => XS.istoreN X19.here hx rfl (hb hby at_70) rfl (l' := #[.val (.int i0), .val (.ref b1), .val (.int (5 : Int32)), .unset]) rfl k) ?_
    show Go p e below _ (T19.setTop (mkF m 71 #[.val (.int i0), .val (.ref b1), .val (.int (5 : Int32)), .unset] []))
    refine Go.st (fun t k => XS.iloadN X19.here hx rfl (hb hby at_71) rfl k) ?_
    show Go p e below _ (T19.setTop (mkF m 72 #[.val (.int i0), .val (.ref b1), .val (.int (5 : Int32)), .unset] [(.int (5 : Int32))]))
    refine Go.st (fun t k => XS.bipush X19.here hx rfl (hb hby at_72) k) ?_
    show Go p e below _ (T19.setTop (mkF m 74 #[.val (.int i0), .val (.ref b1), .val (.int (5 : Int32)), .unset] [(.int (6 : Int32)), (.int (5 : Int32))]))
    refine Go.st (fun t k => XS.icmpNo X19.here hx rfl (hb hby at_74) rfl (Jvm.Free.XT.ii_ge_f (by decide : (5 : Int32) < (6 : Int32))) k) ?_
    show Go p e below _ (T19.setTop (mkF m 77 #[.val (.int i0), .val (.ref b1), .val (.int (5 : Int32)), .unset] []))
    obtain ⟨T35, X35, e35, st35⟩ := getS2 X19 hx hZ hown (host := "") (Or.inl (w23 hw)) Via.refl e19 (Y77.ext O19.2) (g := (mkF m 77 #[.val (.int i0), .val (.ref b1), .val (.int (5 : Int32)), .unset] [])) rfl (hb hby at_77)
    refine Go.st st35 ?_
    show Go p e below _ (T35.setTop (mkF m 80 #[.val (.int i0), .val (.ref b1), .val (.int (5 : Int32)), .unset] [(.ref w75a)]))
    refine Go.st (fun t k => XS.goto X35.here hx rfl (pc0 := 80) (pc' := 86) rfl (hb hby at_80) (by decide) (by decide) k) ?_
    show Go p e below _ (T35.setTop (mkF m 86 #[.val (.int i0), .val (.ref b1), .val (.int (5 : Int32)), .unset] [(.ref w75a)]))
    refine Go.st (fun t k => XS.astoreN X35.here hx rfl (hb hby at_86) rfl rfl (l' := #[.val (.int i0), .val (.ref b1), .val (.int (5 : Int32)), .val (.ref w75a)]) rfl k) ?_
    show Go p e below _ (T35.setTop (mkF m 87 #[.val (.int i0), .val (.ref b1), .val (.int (5 : Int32)), .val (.ref w75a)] []))
    refine Go.st (fun t k => XS.aloadN X35.here hx rfl (hb hby at_87) rfl rfl k) ?_
    show Go p e below _ (T35.setTop (mkF m 88 #[.val (.int i0), .val (.ref b1), .val (.int (5 : Int32)), .val (.ref w75a)] [(.ref b1)]))
    refine Go.st (fun t k => XS.iloadN X35.here hx rfl (hb hby at_88) rfl k) ?_
    show Go p e below _ (T35.setTop (mkF m 89 #[.val (.int i0), .val (.ref b1), .val (.int (5 : Int32)), .val (.ref w75a)] [(.int (5 : Int32)), (.ref b1)]))
    obtain ⟨cl36, Ar36, q36, S36, M36, H36, G36⟩ := id V19
    have hin36 : ¬ ((5 : Int32) < 0 ∨ cl36.slots.size ≤ ((5 : Int32)).toNatClampNeg) := inb_of S36 ⟨by decide, by decide⟩
    have hat36 : cl36.slots[((5 : Int32)).toNatClampNeg]? = some (.ref w59a) := H36.at hin36 rfl
    refine Go.st (fun t k => X35.aaload hx (j := (5 : Int32)) (v := (.ref w59a)) (by rw [e35]; exact Ar36.1) (State.isArrayOf_alike hZ.alike Ar36.2.1) rfl Ar36.2.2 hin36 hat36 (g := (mkF m 89 #[.val (.int i0), .val (.ref b1), .val (.int (5 : Int32)), .val (.ref w75a)] [(.int (5 : Int32)), (.ref b1)])) rfl rfl (hb hby at_89) t k) ?_
    show Go p e below _ (T35.setTop (mkF m 90 #[.val (.int i0), .val (.ref b1), .val (.int (5 : Int32)), .val (.ref w75a)] [(.ref w59a)]))
    obtain ⟨cq37, kq37, q37a, q37b, q37c⟩ := isOf hZ e35 (Y62.ext O19.2)
    obtain ⟨_, _, ⟨T37, L37, k37, n37⟩, -, X37, ⟨Lc37, hQ37, l37, y37, z37⟩, st37⟩ := X35.virtualBack hx (y := (⟨"com/example/cropmark/cropmark/VarietalType", "group", "()Lcom/example/cropmark/cropmark/VarietalType$Group;"⟩ : MethodName)) (z := (⟨"com/example/cropmark/cropmark/VarietalType", "group", "()Lcom/example/cropmark/cropmark/VarietalType$Group;"⟩ : MethodName)) hown (mvT hZ (w26 hw)) (mvT hZ (w27 hw)) (notFace_of_selects (args := #[]) (mvT hZ (w29 hw))) (mvT hZ (w29 hw)) (mvT hZ (w28 hw)) (by decide) (backOf (W := 0) (rm1_6 l Z a0 hw [] w59a w75a h19 n0 O19 Y62 Y100 Y77) hZ (w30 hw) (w3 hw) (by decide) (by decide)) q37a q37c (g := (mkF m 90 #[.val (.int i0), .val (.ref b1), .val (.int (5 : Int32)), .val (.ref w75a)] [(.ref w59a)])) rfl (by rw [hml]; rfl) (Steps.refl _) (argsL := []) (rest := []) (lenOf pd_1 rfl) rfl (by show 2 * 0 + _ ≤ _; exact Nat.le_of_eq rfl) (hb hby at_90) (fun vm₁ hw₁ => ⟨rfl, e35, (by decide : 1 + 0 ≤ _), (by decide : 9 + 0 ≤ _)⟩)
    dsimp only [Pt.U, Pt.locs, Pt.cells, Pt.slots] at X37 l37 y37 z37 st37 hQ37
    subst l37 y37 z37
    obtain ⟨rfl, M37, eh37⟩ := hQ37
    have N37 := Fr.app N19 M37
    refine Go.tr st37 ?_
    show Go p e below _ (T37.setTop (mkF m 93 #[.val (.int i0), .val (.ref b1), .val (.int (5 : Int32)), .val (.ref w75a)] [(.ref w75a)]))
    refine Go.st (fun t k => XS.aloadN X37.here hx rfl (hb hby at_93) rfl rfl k) ?_
    show Go p e below _ (T37.setTop (mkF m 94 #[.val (.int i0), .val (.ref b1), .val (.int (5 : Int32)), .val (.ref w75a)] [(.ref w75a), (.ref w75a)]))
    refine Go.st (fun t k => Jvm.RoadKit.acmp (g := (mkF m 94 #[.val (.int i0), .val (.ref b1), .val (.int (5 : Int32)), .val (.ref w75a)] [(.ref w75a), (.ref w75a)])) X37 hx rfl rfl rfl (pc0 := 94) (pc' := 97) (same := true) rfl (hb hby at_94) rfl (decide_eq_true (congrArg Value.ref rfl)) (by decide) (by decide) k) ?_
    show Go p e below _ (T37.setTop (mkF m 97 #[.val (.int i0), .val (.ref b1), .val (.int (5 : Int32)), .val (.ref w75a)] []))
    refine Go.st (fun t k => XS.iconst X37.here hx rfl (hb hby at_97) k) ?_
    show Go p e below _ (T37.setTop (mkF m 98 #[.val (.int i0), .val (.ref b1), .val (.int (5 : Int32)), .val (.ref w75a)] [(.int (1 : Int32))]))
    refine Go.st (fun t k => XS.goto X37.here hx rfl (pc0 := 98) (pc' := 102) rfl (hb hby at_98) (by decide) (by decide) k) ?_
    show Go p e below _ (T37.setTop (mkF m 102 #[.val (.int i0), .val (.ref b1), .val (.int (5 : Int32)), .val (.ref w75a)] [(.int (1 : Int32))]))
    obtain ⟨fs, hr, hrun, hended, hWd, hsame⟩ := X37.leave (v := some (.int (1 : Int32))) (fun h => by rw [Bd.returns] at h; cases h)
    refine ⟨_, _, ?_, hrun, hended, _, _, rfl, ?_, ⟨⟨_, rfl⟩, hWd, hsame.mono (by decide) (by decide)⟩⟩
    · exact retN X37 hx (t := .boolean) Bd.returns (by simp) (hb hby at_102) hr
    · exact ⟨rfl, N37⟩
  · rw [hq]
    show Go p e below _ (T19.setTop (mkF m 70 #[.val (.int i0), .val (.ref b1), .unset, .unset] [(.int (6 : Int32))]))
    refine Go.st (fun t k => XS.istoreN X19.here hx rfl (hb hby at_70) rfl (l' := #[.val (.int i0), .val (.ref b1), .val (.int (6 : Int32)), .unset]) rfl k) ?_
    show Go p e below _ (T19.setTop (mkF m 71 #[.val (.int i0), .val (.ref b1), .val (.int (6 : Int32)), .unset] []))
    refine Go.st (fun t k => XS.iloadN X19.here hx rfl (hb hby at_71) rfl k) ?_
    show Go p e below _ (T19.setTop (mkF m 72 #[.val (.int i0), .val (.ref b1), .val (.int (6 : Int32)), .unset] [(.int (6 : Int32))]))
    refine Go.st (fun t k => XS.bipush X19.here hx rfl (hb hby at_72) k) ?_
    show Go p e below _ (T19.setTop (mkF m 74 #[.val (.int i0), .val (.ref b1), .val (.int (6 : Int32)), .unset] [(.int (6 : Int32)), (.int (6 : Int32))]))
    refine Go.st (fun t k => XS.icmpYes X19.here hx rfl (pc0 := 74) (pc' := 83) rfl (hb hby at_74) rfl (Jvm.Free.XT.ii_ge_t (by decide : ¬ ((6 : Int32) < (6 : Int32)))) (by decide) (by decide) k) ?_
    show Go p e below _ (T19.setTop (mkF m 83 #[.val (.int i0), .val (.ref b1), .val (.int (6 : Int32)), .unset] []))
    obtain ⟨T38, X38, e38, st38⟩ := getS2 X19 hx hZ hown (host := "") (Or.inl (w41 hw)) Via.refl e19 (Y81.ext O19.2) (g := (mkF m 83 #[.val (.int i0), .val (.ref b1), .val (.int (6 : Int32)), .unset] [])) rfl (hb hby at_83)
    refine Go.st st38 ?_
    show Go p e below _ (T38.setTop (mkF m 86 #[.val (.int i0), .val (.ref b1), .val (.int (6 : Int32)), .unset] [(.ref w79a)]))
    refine Go.st (fun t k => XS.astoreN X38.here hx rfl (hb hby at_86) rfl rfl (l' := #[.val (.int i0), .val (.ref b1), .val (.int (6 : Int32)), .val (.ref w79a)]) rfl k) ?_
    show Go p e below _ (T38.setTop (mkF m 87 #[.val (.int i0), .val (.ref b1), .val (.int (6 : Int32)), .val (.ref w79a)] []))
    refine Go.st (fun t k => XS.aloadN X38.here hx rfl (hb hby at_87) rfl rfl k) ?_
    show Go p e below _ (T38.setTop (mkF m 88 #[.val (.int i0), .val (.ref b1), .val (.int (6 : Int32)), .val (.ref w79a)] [(.ref b1)]))
    refine Go.st (fun t k => XS.iloadN X38.here hx rfl (hb hby at_88) rfl k) ?_
    show Go p e below _ (T38.setTop (mkF m 89 #[.val (.int i0), .val (.ref b1), .val (.int (6 : Int32)), .val (.ref w79a)] [(.int (6 : Int32)), (.ref b1)]))
    obtain ⟨cl39, Ar39, q39, S39, M39, H39, G39⟩ := id V19
    have hin39 : ¬ ((6 : Int32) < 0 ∨ cl39.slots.size ≤ ((6 : Int32)).toNatClampNeg) := inb_of S39 ⟨by decide, by decide⟩
    have hat39 : cl39.slots[((6 : Int32)).toNatClampNeg]? = some (.ref w63a) := H39.at hin39 rfl
    refine Go.st (fun t k => X38.aaload hx (j := (6 : Int32)) (v := (.ref w63a)) (by rw [e38]; exact Ar39.1) (State.isArrayOf_alike hZ.alike Ar39.2.1) rfl Ar39.2.2 hin39 hat39 (g := (mkF m 89 #[.val (.int i0), .val (.ref b1), .val (.int (6 : Int32)), .val (.ref w79a)] [(.int (6 : Int32)), (.ref b1)])) rfl rfl (hb hby at_89) t k) ?_
    show Go p e below _ (T38.setTop (mkF m 90 #[.val (.int i0), .val (.ref b1), .val (.int (6 : Int32)), .val (.ref w79a)] [(.ref w63a)]))
    obtain ⟨cq40, kq40, q40a, q40b, q40c⟩ := isOf hZ e38 (Y66.ext O19.2)
    obtain ⟨_, _, ⟨T40, L40, k40, n40⟩, -, X40, ⟨Lc40, hQ40, l40, y40, z40⟩, st40⟩ := X38.virtualBack hx (y := (⟨"com/example/cropmark/cropmark/VarietalType", "group", "()Lcom/example/cropmark/cropmark/VarietalType$Group;"⟩ : MethodName)) (z := (⟨"com/example/cropmark/cropmark/VarietalType", "group", "()Lcom/example/cropmark/cropmark/VarietalType$Group;"⟩ : MethodName)) hown (mvT hZ (w26 hw)) (mvT hZ (w27 hw)) (notFace_of_selects (args := #[]) (mvT hZ (w29 hw))) (mvT hZ (w29 hw)) (mvT hZ (w28 hw)) (by decide) (backOf (W := 0) (rm1_7 l Z a0 hw [] w63a w79a h19 n0 O19 Y66 Y98 Y81) hZ (w30 hw) (w3 hw) (by decide) (by decide)) q40a q40c (g := (mkF m 90 #[.val (.int i0), .val (.ref b1), .val (.int (6 : Int32)), .val (.ref w79a)] [(.ref w63a)])) rfl (by rw [hml]; rfl) (Steps.refl _) (argsL := []) (rest := []) (lenOf pd_1 rfl) rfl (by show 2 * 0 + _ ≤ _; exact Nat.le_of_eq rfl) (hb hby at_90) (fun vm₁ hw₁ => ⟨rfl, e38, (by decide : 1 + 0 ≤ _), (by decide : 9 + 0 ≤ _)⟩)
    dsimp only [Pt.U, Pt.locs, Pt.cells, Pt.slots] at X40 l40 y40 z40 st40 hQ40
    subst l40 y40 z40
    obtain ⟨rfl, M40, eh40⟩ := hQ40
    have N40 := Fr.app N19 M40
    refine Go.tr st40 ?_
    show Go p e below _ (T40.setTop (mkF m 93 #[.val (.int i0), .val (.ref b1), .val (.int (6 : Int32)), .val (.ref w79a)] [(.ref w79a)]))
    refine Go.st (fun t k => XS.aloadN X40.here hx rfl (hb hby at_93) rfl rfl k) ?_
    show Go p e below _ (T40.setTop (mkF m 94 #[.val (.int i0), .val (.ref b1), .val (.int (6 : Int32)), .val (.ref w79a)] [(.ref w79a), (.ref w79a)]))
    refine Go.st (fun t k => Jvm.RoadKit.acmp (g := (mkF m 94 #[.val (.int i0), .val (.ref b1), .val (.int (6 : Int32)), .val (.ref w79a)] [(.ref w79a), (.ref w79a)])) X40 hx rfl rfl rfl (pc0 := 94) (pc' := 97) (same := true) rfl (hb hby at_94) rfl (decide_eq_true (congrArg Value.ref rfl)) (by decide) (by decide) k) ?_
    show Go p e below _ (T40.setTop (mkF m 97 #[.val (.int i0), .val (.ref b1), .val (.int (6 : Int32)), .val (.ref w79a)] []))
    refine Go.st (fun t k => XS.iconst X40.here hx rfl (hb hby at_97) k) ?_
    show Go p e below _ (T40.setTop (mkF m 98 #[.val (.int i0), .val (.ref b1), .val (.int (6 : Int32)), .val (.ref w79a)] [(.int (1 : Int32))]))
    refine Go.st (fun t k => XS.goto X40.here hx rfl (pc0 := 98) (pc' := 102) rfl (hb hby at_98) (by decide) (by decide) k) ?_
    show Go p e below _ (T40.setTop (mkF m 102 #[.val (.int i0), .val (.ref b1), .val (.int (6 : Int32)), .val (.ref w79a)] [(.int (1 : Int32))]))
    obtain ⟨fs, hr, hrun, hended, hWd, hsame⟩ := X40.leave (v := some (.int (1 : Int32))) (fun h => by rw [Bd.returns] at h; cases h)
    refine ⟨_, _, ?_, hrun, hended, _, _, rfl, ?_, ⟨⟨_, rfl⟩, hWd, hsame.mono (by decide) (by decide)⟩⟩
    · exact retN X40 hx (t := .boolean) Bd.returns (by simp) (hb hby at_102) hr
    · exact ⟨rfl, N40⟩
  · rw [hq]
    show Go p e below _ (T19.setTop (mkF m 70 #[.val (.int i0), .val (.ref b1), .unset, .unset] [(.int (7 : Int32))]))
    refine Go.st (fun t k => XS.istoreN X19.here hx rfl (hb hby at_70) rfl (l' := #[.val (.int i0), .val (.ref b1), .val (.int (7 : Int32)), .unset]) rfl k) ?_
    show Go p e below _ (T19.setTop (mkF m 71 #[.val (.int i0), .val (.ref b1), .val (.int (7 : Int32)), .unset] []))
    refine Go.st (fun t k => XS.iloadN X19.here hx rfl (hb hby at_71) rfl k) ?_
    show Go p e below _ (T19.setTop (mkF m 72 #[.val (.int i0), .val (.ref b1), .val (.int (7 : Int32)), .unset] [(.int (7 : Int32))]))
    refine Go.st (fun t k => XS.bipush X19.here hx rfl (hb hby at_72) k) ?_
    show Go p e below _ (T19.setTop (mkF m 74 #[.val (.int i0), .val (.ref b1), .val (.int (7 : Int32)), .unset] [(.int (6 : Int32)), (.int (7 : Int32))]))
    refine Go.st (fun t k => XS.icmpYes X19.here hx rfl (pc0 := 74) (pc' := 83) rfl (hb hby at_74) rfl (Jvm.Free.XT.ii_ge_t (by decide : ¬ ((7 : Int32) < (6 : Int32)))) (by decide) (by decide) k) ?_
    show Go p e below _ (T19.setTop (mkF m 83 #[.val (.int i0), .val (.ref b1), .val (.int (7 : Int32)), .unset] []))
    obtain ⟨T41, X41, e41, st41⟩ := getS2 X19 hx hZ hown (host := "") (Or.inl (w41 hw)) Via.refl e19 (Y81.ext O19.2) (g := (mkF m 83 #[.val (.int i0), .val (.ref b1), .val (.int (7 : Int32)), .unset] [])) rfl (hb hby at_83)
    refine Go.st st41 ?_
    show Go p e below _ (T41.setTop (mkF m 86 #[.val (.int i0), .val (.ref b1), .val (.int (7 : Int32)), .unset] [(.ref w79a)]))
    refine Go.st (fun t k => XS.astoreN X41.here hx rfl (hb hby at_86) rfl rfl (l' := #[.val (.int i0), .val (.ref b1), .val (.int (7 : Int32)), .val (.ref w79a)]) rfl k) ?_
    show Go p e below _ (T41.setTop (mkF m 87 #[.val (.int i0), .val (.ref b1), .val (.int (7 : Int32)), .val (.ref w79a)] []))
    refine Go.st (fun t k => XS.aloadN X41.here hx rfl (hb hby at_87) rfl rfl k) ?_
    show Go p e below _ (T41.setTop (mkF m 88 #[.val (.int i0), .val (.ref b1), .val (.int (7 : Int32)), .val (.ref w79a)] [(.ref b1)]))
    refine Go.st (fun t k => XS.iloadN X41.here hx rfl (hb hby at_88) rfl k) ?_
    show Go p e below _ (T41.setTop (mkF m 89 #[.val (.int i0), .val (.ref b1), .val (.int (7 : Int32)), .val (.ref w79a)] [(.int (7 : Int32)), (.ref b1)]))
    obtain ⟨cl42, Ar42, q42, S42, M42, H42, G42⟩ := id V19
    have hin42 : ¬ ((7 : Int32) < 0 ∨ cl42.slots.size ≤ ((7 : Int32)).toNatClampNeg) := inb_of S42 ⟨by decide, by decide⟩
    have hat42 : cl42.slots[((7 : Int32)).toNatClampNeg]? = some (.ref w67a) := H42.at hin42 rfl
    refine Go.st (fun t k => X41.aaload hx (j := (7 : Int32)) (v := (.ref w67a)) (by rw [e41]; exact Ar42.1) (State.isArrayOf_alike hZ.alike Ar42.2.1) rfl Ar42.2.2 hin42 hat42 (g := (mkF m 89 #[.val (.int i0), .val (.ref b1), .val (.int (7 : Int32)), .val (.ref w79a)] [(.int (7 : Int32)), (.ref b1)])) rfl rfl (hb hby at_89) t k) ?_
    show Go p e below _ (T41.setTop (mkF m 90 #[.val (.int i0), .val (.ref b1), .val (.int (7 : Int32)), .val (.ref w79a)] [(.ref w67a)]))
    obtain ⟨cq43, kq43, q43a, q43b, q43c⟩ := isOf hZ e41 (Y70.ext O19.2)
    obtain ⟨_, _, ⟨T43, L43, k43, n43⟩, -, X43, ⟨Lc43, hQ43, l43, y43, z43⟩, st43⟩ := X41.virtualBack hx (y := (⟨"com/example/cropmark/cropmark/VarietalType", "group", "()Lcom/example/cropmark/cropmark/VarietalType$Group;"⟩ : MethodName)) (z := (⟨"com/example/cropmark/cropmark/VarietalType", "group", "()Lcom/example/cropmark/cropmark/VarietalType$Group;"⟩ : MethodName)) hown (mvT hZ (w26 hw)) (mvT hZ (w27 hw)) (notFace_of_selects (args := #[]) (mvT hZ (w29 hw))) (mvT hZ (w29 hw)) (mvT hZ (w28 hw)) (by decide) (backOf (W := 0) (rm1_8 l Z a0 hw [] w67a w79a h19 n0 O19 Y70 Y92 Y81) hZ (w30 hw) (w3 hw) (by decide) (by decide)) q43a q43c (g := (mkF m 90 #[.val (.int i0), .val (.ref b1), .val (.int (7 : Int32)), .val (.ref w79a)] [(.ref w67a)])) rfl (by rw [hml]; rfl) (Steps.refl _) (argsL := []) (rest := []) (lenOf pd_1 rfl) rfl (by show 2 * 0 + _ ≤ _; exact Nat.le_of_eq rfl) (hb hby at_90) (fun vm₁ hw₁ => ⟨rfl, e41, (by decide : 1 + 0 ≤ _), (by decide : 9 + 0 ≤ _)⟩)
    dsimp only [Pt.U, Pt.locs, Pt.cells, Pt.slots] at X43 l43 y43 z43 st43 hQ43
    subst l43 y43 z43
    obtain ⟨rfl, M43, eh43⟩ := hQ43
    have N43 := Fr.app N19 M43
    refine Go.tr st43 ?_
    show Go p e below _ (T43.setTop (mkF m 93 #[.val (.int i0), .val (.ref b1), .val (.int (7 : Int32)), .val (.ref w79a)] [(.ref w79a)]))
    refine Go.st (fun t k => XS.aloadN X43.here hx rfl (hb hby at_93) rfl rfl k) ?_
    show Go p e below _ (T43.setTop (mkF m 94 #[.val (.int i0), .val (.ref b1), .val (.int (7 : Int32)), .val (.ref w79a)] [(.ref w79a), (.ref w79a)]))
    refine Go.st (fun t k => Jvm.RoadKit.acmp (g := (mkF m 94 #[.val (.int i0), .val (.ref b1), .val (.int (7 : Int32)), .val (.ref w79a)] [(.ref w79a), (.ref w79a)])) X43 hx rfl rfl rfl (pc0 := 94) (pc' := 97) (same := true) rfl (hb hby at_94) rfl (decide_eq_true (congrArg Value.ref rfl)) (by decide) (by decide) k) ?_
    show Go p e below _ (T43.setTop (mkF m 97 #[.val (.int i0), .val (.ref b1), .val (.int (7 : Int32)), .val (.ref w79a)] []))
    refine Go.st (fun t k => XS.iconst X43.here hx rfl (hb hby at_97) k) ?_
    show Go p e below _ (T43.setTop (mkF m 98 #[.val (.int i0), .val (.ref b1), .val (.int (7 : Int32)), .val (.ref w79a)] [(.int (1 : Int32))]))
    refine Go.st (fun t k => XS.goto X43.here hx rfl (pc0 := 98) (pc' := 102) rfl (hb hby at_98) (by decide) (by decide) k) ?_
    show Go p e below _ (T43.setTop (mkF m 102 #[.val (.int i0), .val (.ref b1), .val (.int (7 : Int32)), .val (.ref w79a)] [(.int (1 : Int32))]))
    obtain ⟨fs, hr, hrun, hended, hWd, hsame⟩ := X43.leave (v := some (.int (1 : Int32))) (fun h => by rw [Bd.returns] at h; cases h)
    refine ⟨_, _, ?_, hrun, hended, _, _, rfl, ?_, ⟨⟨_, rfl⟩, hWd, hsame.mono (by decide) (by decide)⟩⟩
    · exact retN X43 hx (t := .boolean) Bd.returns (by simp) (hb hby at_102) hr
    · exact ⟨rfl, N43⟩
  · rw [hq]
    show Go p e below _ (T19.setTop (mkF m 70 #[.val (.int i0), .val (.ref b1), .unset, .unset] [(.int (8 : Int32))]))
    refine Go.st (fun t k => XS.istoreN X19.here hx rfl (hb hby at_70) rfl (l' := #[.val (.int i0), .val (.ref b1), .val (.int (8 : Int32)), .unset]) rfl k) ?_
    show Go p e below _ (T19.setTop (mkF m 71 #[.val (.int i0), .val (.ref b1), .val (.int (8 : Int32)), .unset] []))
    refine Go.st (fun t k => XS.iloadN X19.here hx rfl (hb hby at_71) rfl k) ?_
    show Go p e below _ (T19.setTop (mkF m 72 #[.val (.int i0), .val (.ref b1), .val (.int (8 : Int32)), .unset] [(.int (8 : Int32))]))
    refine Go.st (fun t k => XS.bipush X19.here hx rfl (hb hby at_72) k) ?_
    show Go p e below _ (T19.setTop (mkF m 74 #[.val (.int i0), .val (.ref b1), .val (.int (8 : Int32)), .unset] [(.int (6 : Int32)), (.int (8 : Int32))]))
    refine Go.st (fun t k => XS.icmpYes X19.here hx rfl (pc0 := 74) (pc' := 83) rfl (hb hby at_74) rfl (Jvm.Free.XT.ii_ge_t (by decide : ¬ ((8 : Int32) < (6 : Int32)))) (by decide) (by decide) k) ?_
    show Go p e below _ (T19.setTop (mkF m 83 #[.val (.int i0), .val (.ref b1), .val (.int (8 : Int32)), .unset] []))
    obtain ⟨T44, X44, e44, st44⟩ := getS2 X19 hx hZ hown (host := "") (Or.inl (w41 hw)) Via.refl e19 (Y81.ext O19.2) (g := (mkF m 83 #[.val (.int i0), .val (.ref b1), .val (.int (8 : Int32)), .unset] [])) rfl (hb hby at_83)
    refine Go.st st44 ?_
    show Go p e below _ (T44.setTop (mkF m 86 #[.val (.int i0), .val (.ref b1), .val (.int (8 : Int32)), .unset] [(.ref w79a)]))
    refine Go.st (fun t k => XS.astoreN X44.here hx rfl (hb hby at_86) rfl rfl (l' := #[.val (.int i0), .val (.ref b1), .val (.int (8 : Int32)), .val (.ref w79a)]) rfl k) ?_
    show Go p e below _ (T44.setTop (mkF m 87 #[.val (.int i0), .val (.ref b1), .val (.int (8 : Int32)), .val (.ref w79a)] []))
    refine Go.st (fun t k => XS.aloadN X44.here hx rfl (hb hby at_87) rfl rfl k) ?_
    show Go p e below _ (T44.setTop (mkF m 88 #[.val (.int i0), .val (.ref b1), .val (.int (8 : Int32)), .val (.ref w79a)] [(.ref b1)]))
    refine Go.st (fun t k => XS.iloadN X44.here hx rfl (hb hby at_88) rfl k) ?_
    show Go p e below _ (T44.setTop (mkF m 89 #[.val (.int i0), .val (.ref b1), .val (.int (8 : Int32)), .val (.ref w79a)] [(.int (8 : Int32)), (.ref b1)]))
    obtain ⟨cl45, Ar45, q45, S45, M45, H45, G45⟩ := id V19
    have hin45 : ¬ ((8 : Int32) < 0 ∨ cl45.slots.size ≤ ((8 : Int32)).toNatClampNeg) := inb_of S45 ⟨by decide, by decide⟩
    have hat45 : cl45.slots[((8 : Int32)).toNatClampNeg]? = some (.ref w71a) := H45.at hin45 rfl
    refine Go.st (fun t k => X44.aaload hx (j := (8 : Int32)) (v := (.ref w71a)) (by rw [e44]; exact Ar45.1) (State.isArrayOf_alike hZ.alike Ar45.2.1) rfl Ar45.2.2 hin45 hat45 (g := (mkF m 89 #[.val (.int i0), .val (.ref b1), .val (.int (8 : Int32)), .val (.ref w79a)] [(.int (8 : Int32)), (.ref b1)])) rfl rfl (hb hby at_89) t k) ?_
    show Go p e below _ (T44.setTop (mkF m 90 #[.val (.int i0), .val (.ref b1), .val (.int (8 : Int32)), .val (.ref w79a)] [(.ref w71a)]))
    obtain ⟨cq46, kq46, q46a, q46b, q46c⟩ := isOf hZ e44 (Y74.ext O19.2)
    obtain ⟨_, _, ⟨T46, L46, k46, n46⟩, -, X46, ⟨Lc46, hQ46, l46, y46, z46⟩, st46⟩ := X44.virtualBack hx (y := (⟨"com/example/cropmark/cropmark/VarietalType", "group", "()Lcom/example/cropmark/cropmark/VarietalType$Group;"⟩ : MethodName)) (z := (⟨"com/example/cropmark/cropmark/VarietalType", "group", "()Lcom/example/cropmark/cropmark/VarietalType$Group;"⟩ : MethodName)) hown (mvT hZ (w26 hw)) (mvT hZ (w27 hw)) (notFace_of_selects (args := #[]) (mvT hZ (w29 hw))) (mvT hZ (w29 hw)) (mvT hZ (w28 hw)) (by decide) (backOf (W := 0) (rm1_9 l Z a0 hw [] w71a w79a h19 n0 O19 Y74 Y96 Y81) hZ (w30 hw) (w3 hw) (by decide) (by decide)) q46a q46c (g := (mkF m 90 #[.val (.int i0), .val (.ref b1), .val (.int (8 : Int32)), .val (.ref w79a)] [(.ref w71a)])) rfl (by rw [hml]; rfl) (Steps.refl _) (argsL := []) (rest := []) (lenOf pd_1 rfl) rfl (by show 2 * 0 + _ ≤ _; exact Nat.le_of_eq rfl) (hb hby at_90) (fun vm₁ hw₁ => ⟨rfl, e44, (by decide : 1 + 0 ≤ _), (by decide : 9 + 0 ≤ _)⟩)
    dsimp only [Pt.U, Pt.locs, Pt.cells, Pt.slots] at X46 l46 y46 z46 st46 hQ46
    subst l46 y46 z46
    obtain ⟨rfl, M46, eh46⟩ := hQ46
    have N46 := Fr.app N19 M46
    refine Go.tr st46 ?_
    show Go p e below _ (T46.setTop (mkF m 93 #[.val (.int i0), .val (.ref b1), .val (.int (8 : Int32)), .val (.ref w79a)] [(.ref w79a)]))
    refine Go.st (fun t k => XS.aloadN X46.here hx rfl (hb hby at_93) rfl rfl k) ?_
    show Go p e below _ (T46.setTop (mkF m 94 #[.val (.int i0), .val (.ref b1), .val (.int (8 : Int32)), .val (.ref w79a)] [(.ref w79a), (.ref w79a)]))
    refine Go.st (fun t k => Jvm.RoadKit.acmp (g := (mkF m 94 #[.val (.int i0), .val (.ref b1), .val (.int (8 : Int32)), .val (.ref w79a)] [(.ref w79a), (.ref w79a)])) X46 hx rfl rfl rfl (pc0 := 94) (pc' := 97) (same := true) rfl (hb hby at_94) rfl (decide_eq_true (congrArg Value.ref rfl)) (by decide) (by decide) k) ?_
    show Go p e below _ (T46.setTop (mkF m 97 #[.val (.int i0), .val (.ref b1), .val (.int (8 : Int32)), .val (.ref w79a)] []))
    refine Go.st (fun t k => XS.iconst X46.here hx rfl (hb hby at_97) k) ?_
    show Go p e below _ (T46.setTop (mkF m 98 #[.val (.int i0), .val (.ref b1), .val (.int (8 : Int32)), .val (.ref w79a)] [(.int (1 : Int32))]))
    refine Go.st (fun t k => XS.goto X46.here hx rfl (pc0 := 98) (pc' := 102) rfl (hb hby at_98) (by decide) (by decide) k) ?_
    show Go p e below _ (T46.setTop (mkF m 102 #[.val (.int i0), .val (.ref b1), .val (.int (8 : Int32)), .val (.ref w79a)] [(.int (1 : Int32))]))
    obtain ⟨fs, hr, hrun, hended, hWd, hsame⟩ := X46.leave (v := some (.int (1 : Int32))) (fun h => by rw [Bd.returns] at h; cases h)
    refine ⟨_, _, ?_, hrun, hended, _, _, rfl, ?_, ⟨⟨_, rfl⟩, hWd, hsame.mono (by decide) (by decide)⟩⟩
    · exact retN X46 hx (t := .boolean) Bd.returns (by simp) (hb hby at_102) hr
    · exact ⟨rfl, N46⟩
set_option maxRecDepth 65536 in
set_option maxHeartbeats 40000000 in
theorem comes_1 {Post : Tables → Env → Array Value → State → Outcome → State → Prop} (hpost : ∀ tb e args s v u, (limb_1_1.after args s (.returned v) u = true ∧ limb_1_2.after args s (.returned v) u = true ∧ True) → FrameEnd s (.returned v) u (Jvm.fieldLocs frame_1_writes args s ++ Jvm.arrayLocs frame_1_arrays args s ++ Jvm.staticLocs frame_1_statics s) 16 128 → Post tb e args s (.returned v) u) :
    ArmFor flags0 classFile x code maxLocals ret World_1 tables_1 room_1 Calls_1 rest_1 Pre_1 Post := by
  intro l hfl _ _ p e ha hc hk s m args below hf hA hF happ hP
  obtain ⟨hcalls, hrest, hpre⟩ := hP
  obtain ⟨-, -, -, hnamed, -, -, -, hat⟩ := (Spec.applies_iff hf).mp happ
  obtain ⟨hg, hn⟩ := and_e (Cond.before_iff.mp (show (Jvm.Cond.and given_1 narrow_1).before args s = true from hpre))
  obtain ⟨hcnt, hg⟩ := and_e hg
  have hv0 := hg
  obtain ⟨w0, rfl⟩ : ∃ w0 : Value, args = #[w0] := by
    have hs : args.size = 1 := by simpa [Cond.value, given_1] using hcnt
    obtain ⟨L⟩ := args
    match L, hs with
    | [w0], _ => exact ⟨w0, rfl⟩
  have hw := fun d (hd : d ∈ tables_1) => atoms_spec (ws := Jvm.Cond.code x code maxLocals ret :: tables_1) hat d (List.mem_cons_of_mem _ hd)
  have hfit : Fit s := fun {y c} hc i hi => by
    obtain ⟨ha, rfl⟩ := Array.getElem?_eq_some_iff.mp hc
    have q := List.all_eq_true.mp ((Array.all_eq_true_iff_forall_mem.mp hF) _ (Array.getElem_mem ha)) i (List.mem_range.mpr hi)
    simpa [Array.getElem?_eq_getElem hi] using q
  obtain ⟨i0, ei0⟩ := is_v hv0
  obtain rfl : w0 = (.int i0) := Option.some.inj ei0
  obtain ⟨u1, u2⟩ := and_e hn
  obtain ⟨u3, u4⟩ := and_e u2
  obtain ⟨u5, u6⟩ := and_e u4
  obtain ⟨u7, u8⟩ := and_e u6
  obtain ⟨u9, u10⟩ := and_e u8
  obtain ⟨u11, u12⟩ := and_e u10
  obtain ⟨u13, u14⟩ := and_e u12
  obtain ⟨u15, u16⟩ := and_e u14
  obtain ⟨u17, u18⟩ := and_e u16
  obtain ⟨u19, u20⟩ := and_e u18
  obtain ⟨u21, u22⟩ := and_e u20
  obtain ⟨u23, u24⟩ := and_e u22
  obtain ⟨u25, u26⟩ := and_e u24
  obtain ⟨u27, u28⟩ := and_e u26
  obtain ⟨u29, u30⟩ := and_e u28
  obtain ⟨u31, u32⟩ := and_e u30
  obtain ⟨u33, u34⟩ := and_e u32
  obtain ⟨u35, u36⟩ := and_e u34
  obtain ⟨u37, u38⟩ := and_e u36
  obtain ⟨w39a, ev40⟩ := exa_v u1
  have Y41 : Sta s s.heap "com/example/cropmark/cropmark/VarietalType" "NATURAL_SEEDLESS" "Lcom/example/cropmark/cropmark/VarietalType;" (.ref w39a) := Sta.start ev40 (Or.inr ⟨(w3 hw), (w4 hw)⟩)
  have Y42 : Exa s s.heap w39a "com/example/cropmark/cropmark/VarietalType" := Exa.start ev40 u1
  obtain ⟨w43a, ev44⟩ := exa_v u3
  have Y45 : Sta s s.heap "com/example/cropmark/cropmark/VarietalType" "GOLDEN_SEEDLESS" "Lcom/example/cropmark/cropmark/VarietalType;" (.ref w43a) := Sta.start ev44 (Or.inr ⟨(w3 hw), (w7 hw)⟩)
  have Y46 : Exa s s.heap w43a "com/example/cropmark/cropmark/VarietalType" := Exa.start ev44 u3
  obtain ⟨w47a, ev48⟩ := exa_v u5
  have Y49 : Sta s s.heap "com/example/cropmark/cropmark/VarietalType" "DIPPED_SEEDLESS" "Lcom/example/cropmark/cropmark/VarietalType;" (.ref w47a) := Sta.start ev48 (Or.inr ⟨(w3 hw), (w9 hw)⟩)
  have Y50 : Exa s s.heap w47a "com/example/cropmark/cropmark/VarietalType" := Exa.start ev48 u5
  obtain ⟨w51a, ev52⟩ := exa_v u7
  have Y53 : Sta s s.heap "com/example/cropmark/cropmark/VarietalType" "MONUKKA" "Lcom/example/cropmark/cropmark/VarietalType;" (.ref w51a) := Sta.start ev52 (Or.inr ⟨(w3 hw), (w11 hw)⟩)
  have Y54 : Exa s s.heap w51a "com/example/cropmark/cropmark/VarietalType" := Exa.start ev52 u7
  obtain ⟨w55a, ev56⟩ := exa_v u9
  have Y57 : Sta s s.heap "com/example/cropmark/cropmark/VarietalType" "OTHER_SEEDLESS" "Lcom/example/cropmark/cropmark/VarietalType;" (.ref w55a) := Sta.start ev56 (Or.inr ⟨(w3 hw), (w13 hw)⟩)
  have Y58 : Exa s s.heap w55a "com/example/cropmark/cropmark/VarietalType" := Exa.start ev56 u9
  obtain ⟨w59a, ev60⟩ := exa_v u11
  have Y61 : Sta s s.heap "com/example/cropmark/cropmark/VarietalType" "OTHER_SEEDLESS_SULFURED" "Lcom/example/cropmark/cropmark/VarietalType;" (.ref w59a) := Sta.start ev60 (Or.inr ⟨(w3 hw), (w15 hw)⟩)
  have Y62 : Exa s s.heap w59a "com/example/cropmark/cropmark/VarietalType" := Exa.start ev60 u11
  obtain ⟨w63a, ev64⟩ := exa_v u13
  have Y65 : Sta s s.heap "com/example/cropmark/cropmark/VarietalType" "MUSCAT" "Lcom/example/cropmark/cropmark/VarietalType;" (.ref w63a) := Sta.start ev64 (Or.inr ⟨(w3 hw), (w17 hw)⟩)
  have Y66 : Exa s s.heap w63a "com/example/cropmark/cropmark/VarietalType" := Exa.start ev64 u13
  obtain ⟨w67a, ev68⟩ := exa_v u15
  have Y69 : Sta s s.heap "com/example/cropmark/cropmark/VarietalType" "SULTANA" "Lcom/example/cropmark/cropmark/VarietalType;" (.ref w67a) := Sta.start ev68 (Or.inr ⟨(w3 hw), (w19 hw)⟩)
  have Y70 : Exa s s.heap w67a "com/example/cropmark/cropmark/VarietalType" := Exa.start ev68 u15
  obtain ⟨w71a, ev72⟩ := exa_v u17
  have Y73 : Sta s s.heap "com/example/cropmark/cropmark/VarietalType" "ZANTE_CURRANT" "Lcom/example/cropmark/cropmark/VarietalType;" (.ref w71a) := Sta.start ev72 (Or.inr ⟨(w3 hw), (w21 hw)⟩)
  have Y74 : Exa s s.heap w71a "com/example/cropmark/cropmark/VarietalType" := Exa.start ev72 u17
  obtain ⟨w75a, ev76⟩ := exa_v u19
  have Y77 : Sta s s.heap "com/example/cropmark/cropmark/VarietalType$Group" "A" "Lcom/example/cropmark/cropmark/VarietalType$Group;" (.ref w75a) := Sta.start ev76 (Or.inr ⟨(w24 hw), (w25 hw)⟩)
  obtain ⟨w79a, ev80⟩ := exa_v u29
  have Y81 : Sta s s.heap "com/example/cropmark/cropmark/VarietalType$Group" "B" "Lcom/example/cropmark/cropmark/VarietalType$Group;" (.ref w79a) := Sta.start ev80 (Or.inr ⟨(w24 hw), (w42 hw)⟩)
  have ev83 : (Term.field (Term.static "com/example/cropmark/cropmark/VarietalType" "NATURAL_SEEDLESS" "Lcom/example/cropmark/cropmark/VarietalType;") "java/lang/Enum" "ordinal" "I").eval _ s none [] s = some (.int (0 : Int32)) := own_valI u21
  have Y84 : Fld s s.heap w39a "java/lang/Enum" "ordinal" "I" (.int (0 : Int32)) := Fld.start ((fld_at ev40).symm.trans ev83)
  have ev85 : (Term.field (Term.static "com/example/cropmark/cropmark/VarietalType" "MONUKKA" "Lcom/example/cropmark/cropmark/VarietalType;") "java/lang/Enum" "ordinal" "I").eval _ s none [] s = some (.int (3 : Int32)) := own_valI u23
  have Y86 : Fld s s.heap w51a "java/lang/Enum" "ordinal" "I" (.int (3 : Int32)) := Fld.start ((fld_at ev52).symm.trans ev85)
  have ev87 : (Term.field (Term.static "com/example/cropmark/cropmark/VarietalType" "DIPPED_SEEDLESS" "Lcom/example/cropmark/cropmark/VarietalType;") "java/lang/Enum" "ordinal" "I").eval _ s none [] s = some (.int (2 : Int32)) := own_valI u25
  have Y88 : Fld s s.heap w47a "java/lang/Enum" "ordinal" "I" (.int (2 : Int32)) := Fld.start ((fld_at ev48).symm.trans ev87)
  have ev89 : (Term.field (Term.static "com/example/cropmark/cropmark/VarietalType" "GOLDEN_SEEDLESS" "Lcom/example/cropmark/cropmark/VarietalType;") "java/lang/Enum" "ordinal" "I").eval _ s none [] s = some (.int (1 : Int32)) := own_valI u27
  have Y90 : Fld s s.heap w43a "java/lang/Enum" "ordinal" "I" (.int (1 : Int32)) := Fld.start ((fld_at ev44).symm.trans ev89)
  have ev91 : (Term.field (Term.static "com/example/cropmark/cropmark/VarietalType" "SULTANA" "Lcom/example/cropmark/cropmark/VarietalType;") "java/lang/Enum" "ordinal" "I").eval _ s none [] s = some (.int (7 : Int32)) := own_valI u31
  have Y92 : Fld s s.heap w67a "java/lang/Enum" "ordinal" "I" (.int (7 : Int32)) := Fld.start ((fld_at ev68).symm.trans ev91)
  have ev93 : (Term.field (Term.static "com/example/cropmark/cropmark/VarietalType" "OTHER_SEEDLESS" "Lcom/example/cropmark/cropmark/VarietalType;") "java/lang/Enum" "ordinal" "I").eval _ s none [] s = some (.int (4 : Int32)) := own_valI u33
  have Y94 : Fld s s.heap w55a "java/lang/Enum" "ordinal" "I" (.int (4 : Int32)) := Fld.start ((fld_at ev56).symm.trans ev93)
  have ev95 : (Term.field (Term.static "com/example/cropmark/cropmark/VarietalType" "ZANTE_CURRANT" "Lcom/example/cropmark/cropmark/VarietalType;") "java/lang/Enum" "ordinal" "I").eval _ s none [] s = some (.int (8 : Int32)) := own_valI u35
  have Y96 : Fld s s.heap w71a "java/lang/Enum" "ordinal" "I" (.int (8 : Int32)) := Fld.start ((fld_at ev72).symm.trans ev95)
  have ev97 : (Term.field (Term.static "com/example/cropmark/cropmark/VarietalType" "MUSCAT" "Lcom/example/cropmark/cropmark/VarietalType;") "java/lang/Enum" "ordinal" "I").eval _ s none [] s = some (.int (6 : Int32)) := own_valI u37
  have Y98 : Fld s s.heap w63a "java/lang/Enum" "ordinal" "I" (.int (6 : Int32)) := Fld.start ((fld_at ev64).symm.trans ev97)
  have ev99 : (Term.field (Term.static "com/example/cropmark/cropmark/VarietalType" "OTHER_SEEDLESS_SULFURED" "Lcom/example/cropmark/cropmark/VarietalType;") "java/lang/Enum" "ordinal" "I").eval _ s none [] s = some (.int (5 : Int32)) := own_valI u38
  have Y100 : Fld s s.heap w59a "java/lang/Enum" "ordinal" "I" (.int (5 : Int32)) := Fld.start ((fld_at ev60).symm.trans ev99)
  obtain ⟨n, o, h1, h2, h3, _, L, rfl, ⟨rfl, N⟩, hq⟩ := rm0 l s _ hw tables_1 i0 w39a w43a w47a w51a w55a w59a w63a w67a w71a w75a w79a s.heap s.heap.size (Old.start s) Y41 Y42 Y45 Y46 Y49 Y50 Y53 Y54 Y57 Y58 Y61 Y62 Y65 Y66 Y69 Y70 Y73 Y74 Y77 Y81 Y84 Y86 Y88 Y90 Y92 Y94 Y96 Y98 Y100 p e ha hc hk s m _ below hf ((Spec.applies_iff_loose hf).mp happ).1 ⟨rfl, State.Warmed39.refl s, rfl⟩ trivial
  refine ⟨n, _, h1, h2, h3, hpost _ _ _ _ _ _ ⟨Cond.after_iff.mpr rfl, Cond.after_iff.mpr (eq_i res_at (Term.int_eval (1)) rfl), trivial⟩ ⟨hq.1, hq.2.1, (hq.2.2.sift fun y hy => Or.inr (N y hy)).mono (by decide) (by decide)⟩⟩
theorem main_1_1 : Claimed_1_1 := comes_1 fun _ _ _ _ _ _ h hF => ⟨h.1, hF⟩
theorem main_1_2 : Claimed_1_2 := comes_1 fun _ _ _ _ _ _ h hF => ⟨h.2.1, hF⟩
end Jvm.Pilot.@@N@@
namespace Jvm.Pilot.@@N@@
open Jvm Jvm.ClassFile Sem Op Lib Jvm.Free Jvm.Stand Jvm.Pilot.@@N@@.Jvm.D
/-! MADE BY PROGRAM (witnessworld.py) out of the Statement's table words and the real class files: 14 classes; the members and pool entries that the words name. The judged class is class 1, her method 1. -/
namespace start1
open Jvm.ClassFile
def u (s : String) : CpInfo := .utf8 (stringToUtf16 s)
/-- a pool by its gaps: so many unusable entries, then the entry; so many at the end -/
def gap : Nat → List CpInfo → List CpInfo
  | 0, r => r
  | n + 1, r => .unusable :: gap n r
def poolList (es : List (Nat × CpInfo)) (last : Nat) : List CpInfo := es.foldr (fun e r => gap e.1 (e.2 :: r)) (gap last [])
def pool (es : List (Nat × CpInfo)) (last : Nat) : Array CpInfo := ⟨poolList es last⟩
def fileOf (pool : Array CpInfo) (this : Nat) (attrs : Array Attribute := #[]) (ms : Array MethodInfo := #[]) (fl : Nat := 33) (sup : Nat := 0) (ifs : Array Nat := #[]) (fds : Array FieldInfo := #[]) : ClassFile where
  minorVersion := 0
  majorVersion := 65
  constantPool := pool
  accessFlags := fl
  thisClass := this
  superClass := sup
  interfaces := ifs
  fields := fds
  methods := ms
  attributes := attrs
def plain (name : String) (sup : Option ClassId) : Class where
  name := name
  kind := .ordinary
  loader := none
  accessFlags := 33
  super := sup
  interfaces := #[]
  cf := none
  fields := #[]
  methods := #[]
  instanceTypes := #[]
  staticTypes := #[]
  resolved := #[]
  callSites := []
  init := .initialized
  statics := none
  mirror := none

def pool0 : Array CpInfo := pool [(5, u "<init>"), (0, u "()V"), (1, .class_ 10), (1, u "java/lang/Object")] 113

def k0m0 : Method := { name := "<init>", desc := "()V", sig := { parameters := [], returnType := none }, accessFlags := 1, code := none }
/-- java/lang/Object -/
def k0 : Class := { plain "java/lang/Object" none with
  accessFlags := 33
  interfaces := #[]
  cf := some (fileOf pool0 8 #[] #[{ accessFlags := 1, nameIndex := 5, descriptorIndex := 6, attributes := #[] }] 33 0 #[] #[])
  fields := #[]
  methods := #[k0m0]
  instanceTypes := #[]
  staticTypes := #[]
  resolved := Array.replicate 124 none
  statics := none }

def pool1 : Array CpInfo := pool [(2, .class_ 4), (1, u "java/lang/Object"), (0, u "<init>"), (0, u "()V"), (0, .class_ 8), (0, u "com/example/cropmark/cropmark/VarietalType"), (0, .fieldref 7 10), (0, .nameAndType 11 12), (0, u "NATURAL_SEEDLESS"), (0, u "Lcom/example/cropmark/cropmark/VarietalType;"), (0, .fieldref 7 14), (0, .nameAndType 15 12), (0, u "GOLDEN_SEEDLESS"), (0, .fieldref 7 17), (0, .nameAndType 18 12), (0, u "DIPPED_SEEDLESS"), (0, .fieldref 7 20), (0, .nameAndType 21 12), (0, u "MONUKKA"), (0, .fieldref 7 23), (0, .nameAndType 24 12), (0, u "OTHER_SEEDLESS"), (0, .fieldref 7 26), (0, .nameAndType 27 12), (0, u "OTHER_SEEDLESS_SULFURED"), (0, .fieldref 7 29), (0, .nameAndType 30 12), (0, u "MUSCAT"), (0, .fieldref 7 32), (0, .nameAndType 33 12), (0, u "SULTANA"), (0, .fieldref 7 35), (0, .nameAndType 36 12), (0, u "ZANTE_CURRANT"), (0, .integer 2147483647), (0, .fieldref 39 40), (0, .class_ 41), (0, .nameAndType 42 43), (0, u "com/example/cropmark/cropmark/VarietalType$Group"), (0, u "A"), (0, u "Lcom/example/cropmark/cropmark/VarietalType$Group;"), (0, .fieldref 39 45), (0, .nameAndType 46 43), (0, u "B"), (0, .methodref 7 48), (0, .nameAndType 49 50), (0, u "group"), (0, u "()Lcom/example/cropmark/cropmark/VarietalType$Group;"), (0, .class_ 52), (0, u "com/example/cropmark/cropmark/VarietalTypeGroupPinLaw"), (2, u "law"), (0, u "(I)Z")] 7

def k1m0 : Method := { name := "<init>", desc := "()V", sig := { parameters := [], returnType := none }, accessFlags := 1, code := none }
def k1c1 : Code := { maxStack := 4, maxLocals := 4, code := code, exceptionTable := #[], attributes := #[] }
def k1m1 : Method := { name := "law", desc := "(I)Z", sig := { parameters := [.int], returnType := some .boolean }, accessFlags := 9, code := some k1c1 }
/-- com/example/cropmark/cropmark/VarietalTypeGroupPinLaw -/
def k1 : Class := { plain "com/example/cropmark/cropmark/VarietalTypeGroupPinLaw" (some 0) with
  accessFlags := 49
  interfaces := #[]
  cf := some (fileOf pool1 51 #[] #[{ accessFlags := 1, nameIndex := 5, descriptorIndex := 6, attributes := #[] }, { accessFlags := 9, nameIndex := 55, descriptorIndex := 56, attributes := #[] }] 49 2 #[] #[])
  fields := #[]
  methods := #[k1m0, k1m1]
  instanceTypes := #[]
  staticTypes := #[]
  resolved := Array.replicate 64 none
  statics := none }

def pool2 : Array CpInfo := pool [(1, .class_ 2), (0, u "java/lang/constant/Constable"), (0, .class_ 4), (0, u "java/lang/Object")] 6

/-- java/lang/constant/Constable -/
def k2 : Class := { plain "java/lang/constant/Constable" (some 0) with
  accessFlags := 1537
  interfaces := #[]
  cf := some (fileOf pool2 1 #[] #[] 1537 3 #[] #[])
  fields := #[]
  methods := #[]
  instanceTypes := #[]
  staticTypes := #[]
  resolved := Array.replicate 11 none
  statics := none }

def pool3 : Array CpInfo := pool [(1, .class_ 2), (0, u "java/lang/Comparable"), (0, .class_ 4), (0, u "java/lang/Object")] 7

/-- java/lang/Comparable -/
def k3 : Class := { plain "java/lang/Comparable" (some 0) with
  accessFlags := 1537
  interfaces := #[]
  cf := some (fileOf pool3 1 #[] #[] 1537 3 #[] #[])
  fields := #[]
  methods := #[]
  instanceTypes := #[]
  staticTypes := #[]
  resolved := Array.replicate 12 none
  statics := none }

def pool4 : Array CpInfo := pool [(1, .class_ 2), (0, u "java/io/Serializable"), (0, .class_ 4), (0, u "java/lang/Object")] 2

/-- java/io/Serializable -/
def k4 : Class := { plain "java/io/Serializable" (some 0) with
  accessFlags := 1537
  interfaces := #[]
  cf := some (fileOf pool4 1 #[] #[] 1537 3 #[] #[])
  fields := #[]
  methods := #[]
  instanceTypes := #[]
  staticTypes := #[]
  resolved := Array.replicate 7 none
  statics := none }

def pool5 : Array CpInfo := pool [(2, .class_ 4), (1, u "java/lang/Enum"), (0, u "name"), (0, u "Ljava/lang/String;"), (0, .fieldref 2 8), (0, .nameAndType 9 10), (0, u "ordinal"), (0, u "I"), (1, .class_ 14), (1, u "java/lang/Object"), (4, u "hash"), (86, .class_ 108), (1, u "java/lang/Enum$EnumDesc"), (2, .class_ 112), (0, u "java/lang/constant/Constable"), (0, .class_ 114), (0, u "java/lang/Comparable"), (0, .class_ 116), (0, u "java/io/Serializable"), (9, u "()I")] 77

def k5c0 : Code := { maxStack := 1, maxLocals := 1, code := jdk_37_method_2_code, exceptionTable := #[], attributes := #[] }
def k5m0 : Method := { name := "ordinal", desc := "()I", sig := { parameters := [], returnType := some .int }, accessFlags := 17, code := some k5c0 }
/-- java/lang/Enum -/
def k5 : Class := { plain "java/lang/Enum" (some 0) with
  accessFlags := 1057
  interfaces := #[2, 3, 4]
  cf := some (fileOf pool5 2 #[.nestMembers #[106]] #[{ accessFlags := 17, nameIndex := 9, descriptorIndex := 126, attributes := #[] }] 1057 12 #[111, 113, 115] #[{ accessFlags := 18, nameIndex := 5, descriptorIndex := 6, attributes := #[] }, { accessFlags := 18, nameIndex := 9, descriptorIndex := 10, attributes := #[] }, { accessFlags := 2, nameIndex := 19, descriptorIndex := 10, attributes := #[] }])
  fields := #[{ name := "name", type := (.object "java/lang/String"), accessFlags := 18, slot := 0, constantValue := 0 }, { name := "ordinal", type := .int, accessFlags := 18, slot := 1, constantValue := 0 }, { name := "hash", type := .int, accessFlags := 2, slot := 2, constantValue := 0 }]
  methods := #[k5m0]
  instanceTypes := #[(.object "java/lang/String"), .int, .int]
  staticTypes := #[]
  resolved := Array.replicate 204 none
  statics := none }

def pool6 : Array CpInfo := pool [(1, .class_ 2), (0, u "com/example/cropmark/cropmark/VarietalType"), (2, u "NATURAL_SEEDLESS"), (0, u "Lcom/example/cropmark/cropmark/VarietalType;"), (2, u "GOLDEN_SEEDLESS"), (2, u "DIPPED_SEEDLESS"), (2, u "MONUKKA"), (2, u "OTHER_SEEDLESS"), (2, u "OTHER_SEEDLESS_SULFURED"), (2, u "MUSCAT"), (2, u "SULTANA"), (2, u "ZANTE_CURRANT"), (2, u "$VALUES"), (0, u "[Lcom/example/cropmark/cropmark/VarietalType;"), (6, .class_ 43), (1, u "java/lang/Enum"), (6, .methodref 1 51), (0, .nameAndType 52 53), (0, u "ordinal"), (0, u "()I"), (5, .fieldref 60 61), (0, .class_ 62), (0, .nameAndType 63 64), (0, u "com/example/cropmark/cropmark/VarietalType$Group"), (0, u "A"), (0, u "Lcom/example/cropmark/cropmark/VarietalType$Group;"), (0, .fieldref 60 66), (0, .nameAndType 67 64), (0, u "B"), (41, u "group"), (0, u "()Lcom/example/cropmark/cropmark/VarietalType$Group;")] 9

def k6c0 : Code := { maxStack := 4, maxLocals := 1, code := prog_87_method_4_code, exceptionTable := #[], attributes := #[] }
def k6m0 : Method := { name := "group", desc := "()Lcom/example/cropmark/cropmark/VarietalType$Group;", sig := { parameters := [], returnType := some (.object "com/example/cropmark/cropmark/VarietalType$Group") }, accessFlags := 0, code := some k6c0 }
/-- com/example/cropmark/cropmark/VarietalType -/
def k6 : Class := { plain "com/example/cropmark/cropmark/VarietalType" (some 5) with
  accessFlags := 16432
  interfaces := #[]
  cf := some (fileOf pool6 1 #[.nestMembers #[60]] #[{ accessFlags := 0, nameIndex := 109, descriptorIndex := 110, attributes := #[] }] 16432 41 #[] #[{ accessFlags := 16409, nameIndex := 5, descriptorIndex := 6, attributes := #[] }, { accessFlags := 16409, nameIndex := 9, descriptorIndex := 6, attributes := #[] }, { accessFlags := 16409, nameIndex := 12, descriptorIndex := 6, attributes := #[] }, { accessFlags := 16409, nameIndex := 15, descriptorIndex := 6, attributes := #[] }, { accessFlags := 16409, nameIndex := 18, descriptorIndex := 6, attributes := #[] }, { accessFlags := 16409, nameIndex := 21, descriptorIndex := 6, attributes := #[] }, { accessFlags := 16409, nameIndex := 24, descriptorIndex := 6, attributes := #[] }, { accessFlags := 16409, nameIndex := 27, descriptorIndex := 6, attributes := #[] }, { accessFlags := 16409, nameIndex := 30, descriptorIndex := 6, attributes := #[] }, { accessFlags := 4122, nameIndex := 33, descriptorIndex := 34, attributes := #[] }])
  fields := #[{ name := "NATURAL_SEEDLESS", type := (.object "com/example/cropmark/cropmark/VarietalType"), accessFlags := 16409, slot := 0, constantValue := 0 }, { name := "GOLDEN_SEEDLESS", type := (.object "com/example/cropmark/cropmark/VarietalType"), accessFlags := 16409, slot := 1, constantValue := 0 }, { name := "DIPPED_SEEDLESS", type := (.object "com/example/cropmark/cropmark/VarietalType"), accessFlags := 16409, slot := 2, constantValue := 0 }, { name := "MONUKKA", type := (.object "com/example/cropmark/cropmark/VarietalType"), accessFlags := 16409, slot := 3, constantValue := 0 }, { name := "OTHER_SEEDLESS", type := (.object "com/example/cropmark/cropmark/VarietalType"), accessFlags := 16409, slot := 4, constantValue := 0 }, { name := "OTHER_SEEDLESS_SULFURED", type := (.object "com/example/cropmark/cropmark/VarietalType"), accessFlags := 16409, slot := 5, constantValue := 0 }, { name := "MUSCAT", type := (.object "com/example/cropmark/cropmark/VarietalType"), accessFlags := 16409, slot := 6, constantValue := 0 }, { name := "SULTANA", type := (.object "com/example/cropmark/cropmark/VarietalType"), accessFlags := 16409, slot := 7, constantValue := 0 }, { name := "ZANTE_CURRANT", type := (.object "com/example/cropmark/cropmark/VarietalType"), accessFlags := 16409, slot := 8, constantValue := 0 }, { name := "$VALUES", type := (.array (.object "com/example/cropmark/cropmark/VarietalType")), accessFlags := 4122, slot := 9, constantValue := 0 }]
  methods := #[k6m0]
  instanceTypes := #[(.object "java/lang/String"), .int, .int]
  staticTypes := #[(.object "com/example/cropmark/cropmark/VarietalType"), (.object "com/example/cropmark/cropmark/VarietalType"), (.object "com/example/cropmark/cropmark/VarietalType"), (.object "com/example/cropmark/cropmark/VarietalType"), (.object "com/example/cropmark/cropmark/VarietalType"), (.object "com/example/cropmark/cropmark/VarietalType"), (.object "com/example/cropmark/cropmark/VarietalType"), (.object "com/example/cropmark/cropmark/VarietalType"), (.object "com/example/cropmark/cropmark/VarietalType"), (.array (.object "com/example/cropmark/cropmark/VarietalType"))]
  resolved := Array.replicate 120 none
  statics := some 0 }

def pool7 : Array CpInfo := pool [(1, .class_ 2), (0, u "com/example/cropmark/cropmark/VarietalType$Group"), (2, u "A"), (0, u "Lcom/example/cropmark/cropmark/VarietalType$Group;"), (2, u "B"), (2, u "$VALUES"), (0, u "[Lcom/example/cropmark/cropmark/VarietalType$Group;"), (6, .class_ 22), (1, u "java/lang/Enum"), (25, .class_ 49), (0, u "com/example/cropmark/cropmark/VarietalType")] 2

/-- com/example/cropmark/cropmark/VarietalType$Group -/
def k7 : Class := { plain "com/example/cropmark/cropmark/VarietalType$Group" (some 5) with
  accessFlags := 16432
  interfaces := #[]
  cf := some (fileOf pool7 1 #[.nestHost 48] #[] 16432 20 #[] #[{ accessFlags := 16409, nameIndex := 5, descriptorIndex := 6, attributes := #[] }, { accessFlags := 16409, nameIndex := 9, descriptorIndex := 6, attributes := #[] }, { accessFlags := 4122, nameIndex := 12, descriptorIndex := 13, attributes := #[] }])
  fields := #[{ name := "A", type := (.object "com/example/cropmark/cropmark/VarietalType$Group"), accessFlags := 16409, slot := 0, constantValue := 0 }, { name := "B", type := (.object "com/example/cropmark/cropmark/VarietalType$Group"), accessFlags := 16409, slot := 1, constantValue := 0 }, { name := "$VALUES", type := (.array (.object "com/example/cropmark/cropmark/VarietalType$Group")), accessFlags := 4122, slot := 2, constantValue := 0 }]
  methods := #[]
  instanceTypes := #[(.object "java/lang/String"), .int, .int]
  staticTypes := #[(.object "com/example/cropmark/cropmark/VarietalType$Group"), (.object "com/example/cropmark/cropmark/VarietalType$Group"), (.array (.object "com/example/cropmark/cropmark/VarietalType$Group"))]
  resolved := Array.replicate 52 none
  statics := some 1 }

def pool8 : Array CpInfo := pool [(1, u "java/lang/Cloneable"), (0, .class_ 1), (0, u "java/lang/Object"), (0, .class_ 3)] 3

/-- java/lang/Cloneable -/
def k8 : Class := { plain "java/lang/Cloneable" (some 0) with
  accessFlags := 1537
  interfaces := #[]
  cf := some (fileOf pool8 2 #[] #[] 1537 4 #[] #[])
  fields := #[]
  methods := #[]
  instanceTypes := #[]
  staticTypes := #[]
  resolved := Array.replicate 8 none
  statics := none }

/-- the primitive byte -/
def k9 : Class := { plain "byte" none with kind := .primitive 'B', accessFlags := 0x411 }
/-- [B -/
def k10 : Class := { plain "[B" (some 0) with kind := .array 9 .byte, interfaces := #[8, 4], accessFlags := 1041 }

/-- the primitive int -/
def k11 : Class := { plain "int" none with kind := .primitive 'I', accessFlags := 0x411 }
/-- [I -/
def k12 : Class := { plain "[I" (some 0) with kind := .array 11 .int, interfaces := #[8, 4], accessFlags := 1041 }

/-- [Lcom/example/cropmark/cropmark/VarietalType; -/
def k13 : Class := { plain "[Lcom/example/cropmark/cropmark/VarietalType;" (some 0) with kind := .array 6 (.object "com/example/cropmark/cropmark/VarietalType"), interfaces := #[8, 4], accessFlags := 1041 }

def heap : Heap := #[{ cls := 6, slots := #[.ref 2, .ref 3, .ref 4, .ref 5, .ref 6, .ref 7, .ref 8, .ref 9, .ref 10, .null], vm := .statics 6 },
  { cls := 7, slots := #[.ref 11, .ref 12, .null], vm := .statics 7 },
  { cls := 6, slots := #[.null, .int 0, .int 0], vm := .none },
  { cls := 6, slots := #[.null, .int 1, .int 0], vm := .none },
  { cls := 6, slots := #[.null, .int 2, .int 0], vm := .none },
  { cls := 6, slots := #[.null, .int 3, .int 0], vm := .none },
  { cls := 6, slots := #[.null, .int 4, .int 0], vm := .none },
  { cls := 6, slots := #[.null, .int 5, .int 0], vm := .none },
  { cls := 6, slots := #[.null, .int 6, .int 0], vm := .none },
  { cls := 6, slots := #[.null, .int 7, .int 0], vm := .none },
  { cls := 6, slots := #[.null, .int 8, .int 0], vm := .none },
  { cls := 7, slots := #[.null, .int 0, .int 0], vm := .none },
  { cls := 7, slots := #[.null, .int 0, .int 0], vm := .none }]
def classes : Array Class := #[k0, k1, k2, k3, k4, k5, k6, k7, k8, k9, k10, k11, k12, k13]
def interned : List (Array UInt16 × Addr) := []
def slotsUsed : Nat := 46
def theMethod : MethodId := ⟨1, 1⟩
def args0 : Array Value := #[.int 1]
def aboutOver (below : List Frame) : State where
  vm := { classes := classes, interned := interned.toArray }
  heap := heap
  slotsUsed := slotsUsed
  threads := #[{ frames := .invoking theMethod args0 :: below }]
def below0 : List Frame := [.native { method := ⟨0, 0⟩, args := #[] }]
def about1 : State := aboutOver below0
def p0 : Program := .bare "" "" ""
def e0 : Env := launch0.env 0 0 0
theorem w_frames : about1.frames = Frame.invoking theMethod args0 :: below0 := rfl
set_option maxRecDepth 65536 in
theorem w_args : argsFit about1.vm theMethod args0 = true := by decide +kernel
set_option maxRecDepth 65536 in
theorem w_heap : heapFits about1 = true := by decide +kernel
set_option maxRecDepth 65536 in
theorem w_runnable : about1.curStatus? = some .runnable := by decide +kernel
set_option maxRecDepth 65536 in
theorem w_alone : about1.alone = true := by decide +kernel
set_option maxRecDepth 65536 in
theorem w_named : about1.methodNamed? x = some theMethod := by decide +kernel
set_option maxRecDepth 65536 in
theorem w_hears : about1.hears theMethod below0 = true := by decide +kernel
set_option maxRecDepth 65536 in
theorem w_ripe : about1.ripe theMethod args0 below0 = true := by decide +kernel
theorem w_running : about1.status = .running := rfl
set_option maxRecDepth 65536 in
theorem w_room : about1.hasRoom e0.platform room_1 = true :=
  launch0.hasRoom_least _ room_1 (by decide +kernel) (by decide +kernel) (by decide +kernel) (by decide +kernel) (by decide +kernel) (by decide +kernel)
theorem allAtoms_all (ts : List Jvm.Cond) (a : Array Jvm.Value) (st : Jvm.State) : (allAtoms ts).before a st = ts.all (fun c => c.before a st) := by
  induction ts with
  | nil => rfl
  | cons c t ih =>
    show (Jvm.Cond.and c (allAtoms t)).before a st = _
    rw [Jvm.Cond.before_and, ih, List.all_cons]
def words1 : List Jvm.Cond := Jvm.Cond.code x code maxLocals ret :: tables_1
/-- a 'code' word, met by the world's own term for the bytes: nothing is compared byte by byte -/
theorem code_word {y : MethodName} {bytes : ByteArray} {mx : Nat} {rt : Option FieldType} {a : Array Value} {s : State} {m : MethodId} {meth : Method} {c : Code} (h1 : s.methodNamed? y = some m) (h2 : s.vm.method? m = some meth) (h3 : meth.code = some c) (h4 : c.code = bytes)
    (h5 : (c.maxLocals == mx && c.exceptionTable.isEmpty && decide (c.maxStack ≤ mostOperands) && decide (meth.sig.returnType = rt) && !meth.locks && decide (parseMethodDescriptor y.desc = some meth.sig)) = true) : (Jvm.Cond.code y bytes mx rt).before a s = true := by
  simp only [Bool.and_eq_true, beq_iff_eq, Bool.not_eq_true', decide_eq_true_eq] at h5
  obtain ⟨⟨⟨⟨⟨g1, g2⟩, g3⟩, g4⟩, g5⟩, g6⟩ := h5
  simp [Cond.before, Cond.holds, Cond.value, h1, h2, h3, h4, g1, g2, g3, g4, g5, g6]
def isCode : Jvm.Cond → Bool
  | .code _ _ _ _ => true
  | _ => false
theorem all_split {L : List Jvm.Cond} {P : Jvm.Cond → Bool} (h1 : L.all (fun c => isCode c || P c) = true) (h2 : ∀ c ∈ L.filter isCode, P c = true) : L.all P = true := by
  refine List.all_eq_true.mpr fun c hc => ?_
  have h := List.all_eq_true.mp h1 c hc
  rcases Bool.eq_false_or_eq_true (isCode c) with hi | hi
  · exact h2 c (List.mem_filter.mpr ⟨hc, hi⟩)
  · simpa [hi] using h
set_option maxRecDepth 65536 in
theorem w_c0 : (Jvm.Cond.code x code maxLocals ret).before args0 about1 = true := code_word (m := ⟨1, 1⟩) (meth := k1m1) (c := k1c1) (by decide +kernel) rfl rfl rfl (by decide +kernel)
set_option maxRecDepth 65536 in
theorem w_c1 : (Jvm.Cond.code ({ cls := "com/example/cropmark/cropmark/VarietalType", name := "group", desc := "()Lcom/example/cropmark/cropmark/VarietalType$Group;" } : Jvm.MethodName) prog_87_method_4_code (1 : Nat) (Option.some (Jvm.ClassFile.FieldType.object "com/example/cropmark/cropmark/VarietalType$Group"))).before args0 about1 = true := code_word (m := ⟨6, 0⟩) (meth := k6m0) (c := k6c0) (by decide +kernel) rfl rfl rfl (by decide +kernel)
set_option maxRecDepth 65536 in
theorem w_c2 : (Jvm.Cond.code ({ cls := "java/lang/Enum", name := "ordinal", desc := "()I" } : Jvm.MethodName) jdk_37_method_2_code (1 : Nat) (Option.some Jvm.ClassFile.FieldType.int)).before args0 about1 = true := code_word (m := ⟨5, 0⟩) (meth := k5m0) (c := k5c0) (by decide +kernel) rfl rfl rfl (by decide +kernel)
def codes1 : List Jvm.Cond := [Jvm.Cond.code x code maxLocals ret, Jvm.Cond.code ({ cls := "com/example/cropmark/cropmark/VarietalType", name := "group", desc := "()Lcom/example/cropmark/cropmark/VarietalType$Group;" } : Jvm.MethodName) prog_87_method_4_code (1 : Nat) (Option.some (Jvm.ClassFile.FieldType.object "com/example/cropmark/cropmark/VarietalType$Group")), Jvm.Cond.code ({ cls := "java/lang/Enum", name := "ordinal", desc := "()I" } : Jvm.MethodName) jdk_37_method_2_code (1 : Nat) (Option.some Jvm.ClassFile.FieldType.int)]
set_option maxRecDepth 65536 in
theorem codes_eq : words1.filter isCode = codes1 := rfl
theorem w_codes : ∀ c ∈ words1.filter isCode, c.before args0 about1 = true := by
  rw [codes_eq]
  intro c hc
  simp only [codes1, List.mem_cons, List.not_mem_nil, or_false] at hc
  rcases hc with rfl | rfl | rfl
  · exact w_c0
  · exact w_c1
  · exact w_c2
set_option maxRecDepth 65536 in
theorem w_t1 : (words1.take 24).all (fun c => isCode c || c.before args0 about1) = true := by decide +kernel
set_option maxRecDepth 65536 in
theorem w_t2 : (words1.drop 24).all (fun c => isCode c || c.before args0 about1) = true := by decide +kernel
theorem w_tables : (allAtoms (Jvm.Cond.code x code maxLocals ret :: tables_1)).before args0 about1 = true := by
  rw [allAtoms_all]
  show words1.all (fun c => c.before args0 about1) = true
  refine all_split ?_ w_codes
  rw [← List.take_append_drop 24 words1, List.all_append, w_t1, w_t2]
  rfl
set_option maxRecDepth 65536 in
theorem w_case : (Jvm.Cond.and given_1 narrow_1).before args0 about1 = true := by decide +kernel
theorem w_applies : (headSpec (Jvm.Cond.code x code maxLocals ret :: tables_1) room_1).applies x e0.platform about1 = true :=
  (Spec.applies_iff w_frames).mpr ⟨w_running, w_runnable, w_alone, w_named, w_hears, w_ripe, w_room, w_tables⟩
theorem atStart : AtStart classFile x code maxLocals ret World_1 tables_1 room_1 Calls_1 rest_1 Pre_1 launch0 p0 e0 about1 theMethod args0 below0 :=
  ⟨lists_1, trivial, launch0.admits_env _ _ _, launch0.least_env, fairChoices_fair.cas, fairChoices_fair.clock, w_frames, w_args, w_heap, w_applies, trivial, trivial, w_case⟩
end start1
theorem witness_1 : WitnessClaimed_1 := ⟨start1.p0, start1.e0, start1.about1, start1.theMethod, start1.args0, start1.below0, start1.atStart⟩
end Jvm.Pilot.@@N@@
