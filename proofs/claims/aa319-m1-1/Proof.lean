import JvmDerived
import JvmDerived.Pilot.@@N@@Statement
import JvmDerived.Pilot.@@N@@Code
set_option linter.unusedVariables false
set_option linter.unusedSimpArgs false
namespace Jvm.RoadKit
open Sem ClassFile Op Lib Jvm.Stand Jvm.Free Jvm.LawKit
section New
variable {p : Program} {l : Launch} {e : Env} {R : Room} {s : State} {m : MethodId} {args : Array Value} {below : List Frame} {meth : Method} {c : Code} {T : State} {locs : List Loc} {cells slots : Nat}
theorem retI (X : Stand p l e R s m args below meth c T locs cells slots) (hx : p.tables.exec = Jvm.exec) {pc : Nat} {Ls : Array Slot} {z : Int32} {rest : List Value} (hret : meth.sig.returnType = some .int) (hd : decode c.code pc = .ok (.ireturn, 1)) {fs : List Frame}
    (hl : ∀ (f : JFrame) (acts : List Action), f.method = m → f.locked = none → f.entered = [] → (doReturn e (T.setTop f) acts (some (.int z))).1 = T.setFrames fs) : Steps p.tables e below (T.setTop (mkF m pc Ls (.int z :: rest))) (T.setFrames fs) := by
  have hm' : T.vm.method? m = some meth := X.method'
  have hn : narrow .int (.int z) = .int z := rfl
  show Steps p.tables e below (T.setTop { method := m, pc := pc, locals := Ls, stack := _ :: rest, locked := none }) _
  jvm_step X.here [X.here.top, hx, hd, hm', hret, hn]
  first | (intro acts; rw [hl _ acts rfl rfl rfl]) | rw [hl _ _ rfl rfl rfl]
  exact Steps.refl _
theorem own_retA (X : Stand p l e R s m args below meth c T locs cells slots) (hx : p.tables.exec = Jvm.exec) {pc : Nat} {Ls : Array Slot} {z : Value} {ty : FieldType} {rest : List Value} (hret : meth.sig.returnType = some ty) (hty : ty.isReference = true) (hz : z.isRef = true) (hd : decode c.code pc = .ok (.areturn, 1)) {fs : List Frame}
    (hl : ∀ (f : JFrame) (acts : List Action), f.method = m → f.locked = none → f.entered = [] → (doReturn e (T.setTop f) acts (some z)).1 = T.setFrames fs) : Steps p.tables e below (T.setTop (mkF m pc Ls (z :: rest))) (T.setFrames fs) := by
  have hm' : T.vm.method? m = some meth := X.method'
  show Steps p.tables e below (T.setTop { method := m, pc := pc, locals := Ls, stack := _ :: rest, locked := none }) _
  jvm_step X.here [X.here.top, hx, hd, hm', hret, hz, hty]
  first | (intro acts; rw [hl _ acts rfl rfl rfl]) | rw [hl _ _ rfl rfl rfl]
  exact Steps.refl _
theorem own_lremM {g : JFrame} {target : State} (X : Stand p l e R s m args below meth c T locs cells slots) (hx : p.tables.exec = Jvm.exec) (hg : g.method = m) {x y : Int64} {rest : List Value} (hd : decode c.code g.pc = .ok (.lrem, 1)) (hs : g.stack = .long y :: .long x :: rest) (hy : y ≠ 0)
    (hr : Steps p.tables e below (T.setTop { g with pc := g.pc + 1, stack := .long (x % y) :: rest }) target) : Steps p.tables e below (T.setTop g) target :=
  XS.lrem X.here hx hg hd hs hy (by rw [lrem_mod]; exact hr)
end New
end Jvm.RoadKit
namespace Jvm.Pilot.@@N@@
open Jvm Jvm.ClassFile Sem Op Lib Jvm.Free Jvm.Stand Jvm.LawKit Jvm.RoadKit Bundle Jvm.Pilot.@@N@@.Jvm.D
theorem own_selP {Z s : State} {args a0 : Array Value} {y : MethodName} {n : Nat} (hZ : Z.Warmed39 s.vm) (wi : (Jvm.Cond.instantiable y.cls n).before a0 Z = true) (wp : (Jvm.Cond.privateMethod y).before a0 Z = true) (wm : (Jvm.Cond.instanceMethod y).before a0 Z = true) (hy : y.cls ≠ "java/lang/invoke/MethodHandle" ∧ y.cls ≠ "java/lang/invoke/VarHandle") : (Jvm.Cond.selects y.cls y y).before args s = true := by
  obtain ⟨c, k, h1, h2, -, h3, -⟩ := Cond.instantiable_spec (mv (args := args) hZ wi)
  exact Jvm.Stand.selects_self_of_private h1 h2 (by simp only [Bool.or_eq_false_iff] at h3; exact h3.1) (Cond.privateMethod_at (mvP hZ wp (args := args))) (mv hZ wm) hy
theorem own_fitC {Z : State} {h : Heap} {a : Addr} {cl : Cell} {ty : FieldType} {vs : List Value} {dv : Value} (A : Arr Z h a cl ty) (H : Has cl vs dv) (G : ∀ i, i < cl.slots.size → fits ty (vs.getD i dv) = true) : FitC Z cl := fun i v hv => by
  obtain ⟨hi, -⟩ := Array.getElem?_eq_some_iff.mp hv
  obtain ⟨hs, k, hk, comp, hkind⟩ := A.2.1
  have e : Z.slotType? cl.cls .none i = some ty := by simp [State.slotType?, hk, hkind]
  have q := G i hi
  have hv' : v = vs.getD i dv := Option.some.inj (hv.symm.trans (H i hi))
  rw [State.fitsSlot, e, hv']
  exact q
theorem own_ibW {Z s : State} {vm₁ : Vm} {Ts : List String} (I : IB Z s.vm Ts) (h : s.WarmedH vm₁) : IB Z vm₁ Ts := by
  obtain ⟨more, q1, q2⟩ := I
  exact ⟨more, by rw [h.interned_eq]; exact q1, q2⟩
theorem own_litS {Z s : State} {vm₁ : Vm} {own : String} {i : Nat} {a : Addr} (L : Lit s own i a) (h : s.Warmed39 vm₁) : Lit (Z.setVm vm₁) own i a := State.resolvedAt?_warmed39 (s := s) h L
theorem own_litW {Z s : State} {vm₁ : Vm} {own : String} {i : Nat} {a : Addr} (L : Lit s own i a) (h : s.WarmedH vm₁) : Lit (Z.setVm vm₁) own i a := own_litS L h.wide
theorem own_backOfV {p : Program} {l : Launch} {e : Env} {R : Room} {s : State} {args : Array Value} {below : List Frame} {Z : State} {a0 : Array Value} {h : Heap} {y : MethodName} {bytes : ByteArray} {maxL : Nat} {ret : Option FieldType} {rm : Room} {len W : Nat} {as' : Array Value} {VP : Vm → Prop} {Q : Option Value → Heap → Vm → List Loc → Prop}
    (hM : MetFree l y (head1 [Jvm.Cond.code y bytes maxL ret] rm) (fun a U => a = as' ∧ Z.Warmed39 U.vm ∧ U.heap = h ∧ VP U.vm) (fun _ _ _ _ _ => True) (fun _ U o U' => ∃ v L, o = .returned v ∧ Q v U'.heap U'.vm L ∧ ReturnedEndW U o U' L rm.cells rm.slots))
    (hZ : Z.Warmed39 s.vm) (wc : (Jvm.Cond.code y bytes maxL ret).before a0 Z = true) (wz : (Jvm.Cond.initialized y.cls).before a0 Z = true) (hf : rm.frames + 1 ≤ R.frames) (hl : W + (maxL + 11) + rm.locals ≤ R.locals) :
    BackS l R p e below s args y len W (fun A a => a = as' ∧ A.U.heap = h ∧ VP A.U.vm ∧ A.cells + rm.cells ≤ R.cells ∧ A.slots + rm.slots ≤ R.slots)
      (fun A _ v B => ∃ L, Q v B.U.heap B.U.vm L ∧ B.locs = A.locs ++ L ∧ B.cells = A.cells + rm.cells ∧ B.slots = A.slots + rm.slots) := by
  refine BackS.of_freeW (bytes := bytes) (maxL := maxL) (ret := ret) (E := fun _ _ o t L k n => k = rm.cells ∧ n = rm.slots ∧ ∃ v, o = .returned v ∧ Q v t.heap t.vm L) hM hf hl ?_ ?_ (fun _ _ _ _ _ _ _ _ _ => trivial) ?_ ?_
  · intro m meth c A a Y hp
    have hU : Z.Warmed39 A.U.vm := wtrans hZ Y.warmed
    refine ⟨?_, mv hU wc, mv hU wz, hp.2.2.2.1, hp.2.2.2.2⟩
    show (Jvm.Cond.and _ .tt).before a A.U = true
    rw [Cond.before_and, mv hU wc]
    rfl
  · intro m meth c A a g mk Y hp
    exact ⟨hp.1, wtrans hZ Y.warmed, hp.2.1, hp.2.2.1⟩
  · rintro _ _ _ _ ⟨v, L, h1, h2, h3⟩
    exact ⟨L, _, _, h3, rfl, rfl, v, h1, h2⟩
  · rintro m meth c A a g mk v t L k n Y hp _ _ ⟨e1, e2, v', e3, e4⟩
    cases e3
    subst e1 e2
    exact ⟨L, e4, rfl, rfl, rfl⟩
theorem own_n0 {Z : State} {n0 : Nat} {h : Heap} (X : Old Z n0 h) : n0 ≤ h.size := X.1 ▸ X.2.1
/-- the run comes from U to an end of which P says enough -/
def Go (p : Program) (e : Env) (below : List Frame) (P : Outcome → State → Prop) (U : State) : Prop := ∃ s₂ o, Steps p.tables e below U s₂ ∧ s₂.status = .running ∧ Ended s₂ below o ∧ P o s₂
theorem Go.st {p : Program} {e : Env} {below : List Frame} {P : Outcome → State → Prop} {U V : State} (k : ∀ t, Steps p.tables e below V t → Steps p.tables e below U t) (g : Go p e below P V) : Go p e below P U := by
  obtain ⟨a, b, h, r⟩ := g
  exact ⟨a, b, k _ h, r⟩
theorem Go.tr {p : Program} {e : Env} {below : List Frame} {P : Outcome → State → Prop} {U V : State} (k : Steps p.tables e below U V) (g : Go p e below P V) : Go p e below P U := by
  obtain ⟨a, b, h, r⟩ := g
  exact ⟨a, b, k.trans h, r⟩
theorem Go.start {p : Program} {e : Env} {below : List Frame} {P : Outcome → State → Prop} {U V : State} (k : ∀ {t}, Steps p.tables e below V t → Steps p.tables e below U t) (g : Go p e below P V) : ∃ s₂ o, Steps p.tables e below U s₂ ∧ s₂.status = .running ∧ Ended s₂ below o ∧ P o s₂ := by
  obtain ⟨a, b, h, r⟩ := g
  exact ⟨a, b, k h, r⟩
theorem own_valI {args : Array Value} {s : State} {t : Term} {k : Int32} (h : (Cond.eq t (.int k)).value args s none s [] = some true) : t.eval args s none [] s = some (.int k) := by
  obtain ⟨x, y, h1, h2, h3, -⟩ := cmp_v (Or.inl h)
  have e2 : y = .int k := (Option.some.inj h2).symm
  subst e2
  cases x <;> simp [Kin, Value.isRef] at h3
  simp only [Cond.value, h1, h2] at h
  simp at h
  rw [h1, h]
theorem own_valJ {args : Array Value} {s : State} {t : Term} {k : Int64} (h : (Cond.eq t (.long k)).value args s none s [] = some true) : t.eval args s none [] s = some (.long k) := by
  obtain ⟨x, y, h1, h2, h3, -⟩ := cmp_v (Or.inl h)
  have e2 : y = .long k := (Option.some.inj h2).symm
  subst e2
  cases x <;> simp [Kin, Value.isRef] at h3
  simp only [Cond.value, h1, h2] at h
  simp at h
  rw [h1, h]
theorem own_eqR {args : Array Value} {s : State} {t u : Term} {a : Addr} (ev : t.eval args s none [] s = some (.ref a)) (h : (Cond.eq t u).value args s none s [] = some true) : u.eval args s none [] s = some (.ref a) := by
  obtain ⟨x, y, h1, h2, h3, -⟩ := cmp_v (Or.inl h)
  cases h1.symm.trans ev
  have hy : y.isRef = true := h3.2
  have q := gotT (eq_R h1 h2 rfl hy) h
  rw [h2, ← q]
theorem own_eqL {args : Array Value} {s : State} {t u : Term} {a : Addr} (ev : u.eval args s none [] s = some (.ref a)) (h : (Cond.eq t u).value args s none s [] = some true) : t.eval args s none [] s = some (.ref a) := by
  obtain ⟨x, y, h1, h2, -, h4⟩ := cmp_v (Or.inl h)
  cases h2.symm.trans ev
  have hx : x.isRef = true := h4.2
  have q := gotT (eq_R h1 h2 hx rfl) h
  rw [h1, q]
theorem own_elI {Z : State} {args : Array Value} {t : Term} {a : Addr} {cl : Cell} {ty : FieldType} {i k : Int32} (A : Arr Z Z.heap a cl ty) (ev : t.eval args Z none [] Z = some (.ref a)) (h : (Cond.eq (.elem t (.int i)) (.int k)).value args Z none Z [] = some true) : cl.slots[i.toNatClampNeg]? = some (.int k) := (elem_in (own_valI h) ev rfl A.1).2
theorem own_elJ {Z : State} {args : Array Value} {t : Term} {a : Addr} {cl : Cell} {ty : FieldType} {i : Int32} {k : Int64} (A : Arr Z Z.heap a cl ty) (ev : t.eval args Z none [] Z = some (.ref a)) (h : (Cond.eq (.elem t (.int i)) (.long k)).value args Z none Z [] = some true) : cl.slots[i.toNatClampNeg]? = some (.long k) := (elem_in (own_valJ h) ev rfl A.1).2
theorem own_elR {Z : State} {args : Array Value} {t u : Term} {a b : Addr} {cl : Cell} {ty : FieldType} {i : Int32} (A : Arr Z Z.heap a cl ty) (ev : t.eval args Z none [] Z = some (.ref a)) (eu : u.eval args Z none [] Z = some (.ref b)) (h : (Cond.eq (.elem t (.int i)) u).value args Z none Z [] = some true) : cl.slots[i.toNatClampNeg]? = some (.ref b) := (elem_in (own_eqL eu h) ev rfl A.1).2
theorem own_arv {Z : State} {args : Array Value} {t : Term} {a : Addr} {cl : Cell} {ty : FieldType} {z : Int32} {vs : List Value} {dv : Value} (hf : Fit Z) (A : Arr Z Z.heap a cl ty) (ev : t.eval args Z none [] Z = some (.ref a)) (h : (Cond.eq (.length t) (.int z)).value args Z none Z [] = some true) (hz : ¬ z < 0) (hl : z.toNatClampNeg = vs.length) (H : HasL cl 0 vs) : Arv Z Z.heap a cl.cls ty z vs dv := by
  have hv := own_valI h
  have hA : Z.arrayAt? a = some cl := A.fin (Vm.Alike.refl _)
  have q : cl.slots.size < 2 ^ 31 := by
    simp only [Term.eval, ev, hA] at hv
    by_cases hq : cl.slots.size < 2 ^ 31
    · exact hq
    · simp [hA, hq] at hv
  have e : cl.slots.size.toInt32 = z := by
    have := len_f (args := args) (first := Z) (o := none) (idx := []) ev hA q
    rw [this] at hv
    exact Value.int.inj (Option.some.inj hv)
  exact Arv.start hf A q e hz hl H
theorem own_neI {args : Array Value} {s : State} {t : Term} {x k : Int32} (ev : t.eval args s none [] s = some (.int x)) (h : (Cond.not (Cond.eq t (.int k))).value args s none s [] = some true) : ¬ (x = k) := by
  have h' := not_v h
  intro e
  subst e
  simp [Cond.value, ev, Term.eval] at h'
theorem own_mod5 (k : Int32) : (k &&& (2147483647 : Int32)) % (5 : Int32) = (0 : Int32) ∨ (k &&& (2147483647 : Int32)) % (5 : Int32) = (1 : Int32) ∨ (k &&& (2147483647 : Int32)) % (5 : Int32) = (2 : Int32) ∨ (k &&& (2147483647 : Int32)) % (5 : Int32) = (3 : Int32) ∨ (k &&& (2147483647 : Int32)) % (5 : Int32) = (4 : Int32) := by
  obtain ⟨h0, -⟩ := c_and k (2147483647 : Int32) (by decide)
  obtain ⟨h1, -⟩ := c_irem (k &&& (2147483647 : Int32)) (5 : Int32) 5 (by decide)
  have h2 := h1 h0
  simp only [← Int32.toInt_inj]
  rw [h2, show (0 : Int32).toInt = 0 from by decide, show (1 : Int32).toInt = 1 from by decide, show (2 : Int32).toInt = 2 from by decide, show (3 : Int32).toInt = 3 from by decide, show (4 : Int32).toInt = 4 from by decide]
  omega

theorem w0 {Z : State} {a0 : Array Value} (hw : ∀ d ∈ tables_1, d.before a0 Z = true) : (Jvm.Cond.constant "com/example/lease/lease/store/OutcomeIsFailurePinLaw" (25 : Nat) (2147483647 : Int32)).before a0 Z = true := hw _ (List.mem_of_getElem? (i := 0) rfl)
theorem w1 {Z : State} {a0 : Array Value} (hw : ∀ d ∈ tables_1, d.before a0 Z = true) : (Jvm.Cond.arrayClass Jvm.ClassFile.FieldType.boolean).before a0 Z = true := hw _ (List.mem_of_getElem? (i := 1) rfl)
theorem w2 {Z : State} {a0 : Array Value} (hw : ∀ d ∈ tables_1, d.before a0 Z = true) : (Jvm.Cond.methodLink "com/example/lease/lease/store/OutcomeIsFailurePinLaw" (26 : Nat) ({ cls := "com/example/lease/lease/store/OutcomeIsFailurePinLaw", name := "pick", desc := "(I)Lcom/example/lease/lease/store/Outcome;" } : Jvm.MethodName)).before a0 Z = true := hw _ (List.mem_of_getElem? (i := 2) rfl)
theorem w3 {Z : State} {a0 : Array Value} (hw : ∀ d ∈ tables_1, d.before a0 Z = true) : (Jvm.Cond.static ({ cls := "com/example/lease/lease/store/OutcomeIsFailurePinLaw", name := "pick", desc := "(I)Lcom/example/lease/lease/store/Outcome;" } : Jvm.MethodName)).before a0 Z = true := hw _ (List.mem_of_getElem? (i := 3) rfl)
theorem w4 {Z : State} {a0 : Array Value} (hw : ∀ d ∈ tables_1, d.before a0 Z = true) : (Jvm.Cond.initialized "com/example/lease/lease/store/OutcomeIsFailurePinLaw").before a0 Z = true := hw _ (List.mem_of_getElem? (i := 4) rfl)
theorem w5 {Z : State} {a0 : Array Value} (hw : ∀ d ∈ tables_1, d.before a0 Z = true) : (Jvm.Cond.code ({ cls := "com/example/lease/lease/store/OutcomeIsFailurePinLaw", name := "pick", desc := "(I)Lcom/example/lease/lease/store/Outcome;" } : Jvm.MethodName) method_2_code (1 : Nat) (Option.some (Jvm.ClassFile.FieldType.object "com/example/lease/lease/store/Outcome"))).before a0 Z = true := hw _ (List.mem_of_getElem? (i := 5) rfl)
theorem w6 {Z : State} {a0 : Array Value} (hw : ∀ d ∈ tables_1, d.before a0 Z = true) : (Jvm.Cond.fieldLink "com/example/lease/lease/store/OutcomeIsFailurePinLaw" (7 : Nat) "com/example/lease/lease/store/Outcome" "SUCCEEDED" "Lcom/example/lease/lease/store/Outcome;").before a0 Z = true := hw _ (List.mem_of_getElem? (i := 6) rfl)
theorem w7 {Z : State} {a0 : Array Value} (hw : ∀ d ∈ tables_1, d.before a0 Z = true) : (Jvm.Cond.initialized "com/example/lease/lease/store/Outcome").before a0 Z = true := hw _ (List.mem_of_getElem? (i := 7) rfl)
theorem w8 {Z : State} {a0 : Array Value} (hw : ∀ d ∈ tables_1, d.before a0 Z = true) : (Jvm.Cond.laysStatic "com/example/lease/lease/store/Outcome" "SUCCEEDED" "Lcom/example/lease/lease/store/Outcome;").before a0 Z = true := hw _ (List.mem_of_getElem? (i := 8) rfl)
theorem w9 {Z : State} {a0 : Array Value} (hw : ∀ d ∈ tables_1, d.before a0 Z = true) : (Jvm.Cond.methodLink "com/example/lease/lease/store/OutcomeIsFailurePinLaw" (32 : Nat) ({ cls := "com/example/lease/lease/store/Outcome", name := "isFailure", desc := "()Z" } : Jvm.MethodName)).before a0 Z = true := hw _ (List.mem_of_getElem? (i := 9) rfl)
theorem w10 {Z : State} {a0 : Array Value} (hw : ∀ d ∈ tables_1, d.before a0 Z = true) : (Jvm.Cond.declares ({ cls := "com/example/lease/lease/store/Outcome", name := "isFailure", desc := "()Z" } : Jvm.MethodName)).before a0 Z = true := hw _ (List.mem_of_getElem? (i := 10) rfl)
theorem w11 {Z : State} {a0 : Array Value} (hw : ∀ d ∈ tables_1, d.before a0 Z = true) : (Jvm.Cond.instanceMethod ({ cls := "com/example/lease/lease/store/Outcome", name := "isFailure", desc := "()Z" } : Jvm.MethodName)).before a0 Z = true := hw _ (List.mem_of_getElem? (i := 11) rfl)
theorem w12 {Z : State} {a0 : Array Value} (hw : ∀ d ∈ tables_1, d.before a0 Z = true) : (Jvm.Cond.selects "com/example/lease/lease/store/Outcome" ({ cls := "com/example/lease/lease/store/Outcome", name := "isFailure", desc := "()Z" } : Jvm.MethodName) ({ cls := "com/example/lease/lease/store/Outcome", name := "isFailure", desc := "()Z" } : Jvm.MethodName)).before a0 Z = true := hw _ (List.mem_of_getElem? (i := 12) rfl)
theorem w13 {Z : State} {a0 : Array Value} (hw : ∀ d ∈ tables_1, d.before a0 Z = true) : (Jvm.Cond.code ({ cls := "com/example/lease/lease/store/Outcome", name := "isFailure", desc := "()Z" } : Jvm.MethodName) prog_56_method_4_code (1 : Nat) (Option.some Jvm.ClassFile.FieldType.boolean)).before a0 Z = true := hw _ (List.mem_of_getElem? (i := 13) rfl)
theorem w14 {Z : State} {a0 : Array Value} (hw : ∀ d ∈ tables_1, d.before a0 Z = true) : (Jvm.Cond.fieldLink "com/example/lease/lease/store/Outcome" (7 : Nat) "com/example/lease/lease/store/Outcome" "FAILED" "Lcom/example/lease/lease/store/Outcome;").before a0 Z = true := hw _ (List.mem_of_getElem? (i := 14) rfl)
theorem w15 {Z : State} {a0 : Array Value} (hw : ∀ d ∈ tables_1, d.before a0 Z = true) : (Jvm.Cond.laysStatic "com/example/lease/lease/store/Outcome" "FAILED" "Lcom/example/lease/lease/store/Outcome;").before a0 Z = true := hw _ (List.mem_of_getElem? (i := 15) rfl)
theorem w16 {Z : State} {a0 : Array Value} (hw : ∀ d ∈ tables_1, d.before a0 Z = true) : (Jvm.Cond.fieldLink "com/example/lease/lease/store/Outcome" (10 : Nat) "com/example/lease/lease/store/Outcome" "TIMED_OUT" "Lcom/example/lease/lease/store/Outcome;").before a0 Z = true := hw _ (List.mem_of_getElem? (i := 16) rfl)
theorem w17 {Z : State} {a0 : Array Value} (hw : ∀ d ∈ tables_1, d.before a0 Z = true) : (Jvm.Cond.laysStatic "com/example/lease/lease/store/Outcome" "TIMED_OUT" "Lcom/example/lease/lease/store/Outcome;").before a0 Z = true := hw _ (List.mem_of_getElem? (i := 17) rfl)
theorem w18 {Z : State} {a0 : Array Value} (hw : ∀ d ∈ tables_1, d.before a0 Z = true) : (Jvm.Cond.fieldLink "com/example/lease/lease/store/OutcomeIsFailurePinLaw" (19 : Nat) "com/example/lease/lease/store/Outcome" "CANCELLED" "Lcom/example/lease/lease/store/Outcome;").before a0 Z = true := hw _ (List.mem_of_getElem? (i := 18) rfl)
theorem w19 {Z : State} {a0 : Array Value} (hw : ∀ d ∈ tables_1, d.before a0 Z = true) : (Jvm.Cond.laysStatic "com/example/lease/lease/store/Outcome" "CANCELLED" "Lcom/example/lease/lease/store/Outcome;").before a0 Z = true := hw _ (List.mem_of_getElem? (i := 19) rfl)
theorem w20 {Z : State} {a0 : Array Value} (hw : ∀ d ∈ tables_1, d.before a0 Z = true) : (Jvm.Cond.fieldLink "com/example/lease/lease/store/OutcomeIsFailurePinLaw" (13 : Nat) "com/example/lease/lease/store/Outcome" "FAILED" "Lcom/example/lease/lease/store/Outcome;").before a0 Z = true := hw _ (List.mem_of_getElem? (i := 20) rfl)
theorem w21 {Z : State} {a0 : Array Value} (hw : ∀ d ∈ tables_1, d.before a0 Z = true) : (Jvm.Cond.fieldLink "com/example/lease/lease/store/OutcomeIsFailurePinLaw" (22 : Nat) "com/example/lease/lease/store/Outcome" "LOST" "Lcom/example/lease/lease/store/Outcome;").before a0 Z = true := hw _ (List.mem_of_getElem? (i := 21) rfl)
theorem w22 {Z : State} {a0 : Array Value} (hw : ∀ d ∈ tables_1, d.before a0 Z = true) : (Jvm.Cond.laysStatic "com/example/lease/lease/store/Outcome" "LOST" "Lcom/example/lease/lease/store/Outcome;").before a0 Z = true := hw _ (List.mem_of_getElem? (i := 22) rfl)
theorem w23 {Z : State} {a0 : Array Value} (hw : ∀ d ∈ tables_1, d.before a0 Z = true) : (Jvm.Cond.fieldLink "com/example/lease/lease/store/OutcomeIsFailurePinLaw" (16 : Nat) "com/example/lease/lease/store/Outcome" "TIMED_OUT" "Lcom/example/lease/lease/store/Outcome;").before a0 Z = true := hw _ (List.mem_of_getElem? (i := 23) rfl)
theorem d1_0 : decode method_2_code 0 = .ok (.iload_n 0, 1) := by decide +kernel
theorem d1_1 : decode method_2_code 1 = .ok (.ifCond .ne 7, 3) := by decide +kernel
theorem d1_4 : decode method_2_code 4 = .ok (.getstatic 7, 3) := by decide +kernel
theorem d1_7 : decode method_2_code 7 = .ok (.areturn, 1) := by decide +kernel
theorem d1_8 : decode method_2_code 8 = .ok (.iload_n 0, 1) := by decide +kernel
theorem d1_9 : decode method_2_code 9 = .ok (.iconst 1, 1) := by decide +kernel
theorem d1_10 : decode method_2_code 10 = .ok (.if_icmp .ne 7, 3) := by decide +kernel
theorem d1_13 : decode method_2_code 13 = .ok (.getstatic 13, 3) := by decide +kernel
theorem d1_16 : decode method_2_code 16 = .ok (.areturn, 1) := by decide +kernel
theorem d1_17 : decode method_2_code 17 = .ok (.iload_n 0, 1) := by decide +kernel
theorem d1_18 : decode method_2_code 18 = .ok (.iconst 2, 1) := by decide +kernel
theorem d1_19 : decode method_2_code 19 = .ok (.if_icmp .ne 7, 3) := by decide +kernel
theorem d1_22 : decode method_2_code 22 = .ok (.getstatic 16, 3) := by decide +kernel
theorem d1_25 : decode method_2_code 25 = .ok (.areturn, 1) := by decide +kernel
theorem d1_26 : decode method_2_code 26 = .ok (.iload_n 0, 1) := by decide +kernel
theorem d1_27 : decode method_2_code 27 = .ok (.iconst 3, 1) := by decide +kernel
theorem d1_28 : decode method_2_code 28 = .ok (.if_icmp .ne 7, 3) := by decide +kernel
theorem d1_31 : decode method_2_code 31 = .ok (.getstatic 19, 3) := by decide +kernel
theorem d1_34 : decode method_2_code 34 = .ok (.areturn, 1) := by decide +kernel
theorem d1_35 : decode method_2_code 35 = .ok (.getstatic 22, 3) := by decide +kernel
theorem d1_38 : decode method_2_code 38 = .ok (.areturn, 1) := by decide +kernel
theorem d2_0 : decode prog_56_method_4_code 0 = .ok (.aload_n 0, 1) := by decide +kernel
theorem d2_1 : decode prog_56_method_4_code 1 = .ok (.getstatic 7, 3) := by decide +kernel
theorem d2_4 : decode prog_56_method_4_code 4 = .ok (.if_acmp .eq 10, 3) := by decide +kernel
theorem d2_7 : decode prog_56_method_4_code 7 = .ok (.aload_n 0, 1) := by decide +kernel
theorem d2_8 : decode prog_56_method_4_code 8 = .ok (.getstatic 10, 3) := by decide +kernel
theorem d2_11 : decode prog_56_method_4_code 11 = .ok (.if_acmp .ne 7, 3) := by decide +kernel
theorem d2_14 : decode prog_56_method_4_code 14 = .ok (.iconst 1, 1) := by decide +kernel
theorem d2_15 : decode prog_56_method_4_code 15 = .ok (.goto 4, 3) := by decide +kernel
theorem d2_18 : decode prog_56_method_4_code 18 = .ok (.iconst 0, 1) := by decide +kernel
theorem d2_19 : decode prog_56_method_4_code 19 = .ok (.ireturn, 1) := by decide +kernel
theorem pd_0 : parseMethodDescriptor "(I)Lcom/example/lease/lease/store/Outcome;" = some ⟨[.int], some (.object "com/example/lease/lease/store/Outcome")⟩ := by decide +kernel
theorem pd_1 : parseMethodDescriptor "()Z" = some ⟨[], some .boolean⟩ := by decide +kernel
theorem pn_0 : plainName "com/example/lease/lease/store/OutcomeIsFailurePinLaw" = true := by first | (simp [plainName, overriddenIn]; done) | decide +kernel
theorem pn_1 : plainName "com/example/lease/lease/store/Outcome" = true := by first | (simp [plainName, overriddenIn]; done) | decide +kernel
def Q_rm1_1 (Z : State) (a1 : Addr) (h0 : Heap) (n0 : Nat) (v : Option Value) (h : Heap) (L : List Loc) : Prop := v = some (.ref a1) ∧ Fr n0 L ∧ h = h0
set_option maxRecDepth 65536 in
set_option maxHeartbeats 40000000 in
theorem rm1_1 (l : Launch) (Z : State) (a0 : Array Value) (hw : ∀ d ∈ tables_1, d.before a0 Z = true) (ws : List Jvm.Cond) (a1 : Addr) (h0 : Heap) (n0 : Nat) (O0 : Old Z n0 h0) (P1 : Sta Z Z.heap "com/example/lease/lease/store/Outcome" "SUCCEEDED" "Lcom/example/lease/lease/store/Outcome;" (.ref a1)) :
    MetFree l (⟨"com/example/lease/lease/store/OutcomeIsFailurePinLaw", "pick", "(I)Lcom/example/lease/lease/store/Outcome;"⟩ : MethodName) (head1 (Jvm.Cond.code (⟨"com/example/lease/lease/store/OutcomeIsFailurePinLaw", "pick", "(I)Lcom/example/lease/lease/store/Outcome;"⟩ : MethodName) method_2_code 1 (some (.object "com/example/lease/lease/store/Outcome")) :: ws) ({ frames := 0, cells := 0, slots := 0, locals := 0 } : Room)) (fun a U => a = #[(.int (0 : Int32))] ∧ Z.Warmed39 U.vm ∧ U.heap = h0) (fun _ _ _ _ _ => True) (fun _ U o U' => ∃ v L, o = .returned v ∧ Q_rm1_1 Z a1 h0 n0 v U'.heap L ∧ FrameEnd U o U' L ({ frames := 0, cells := 0, slots := 0, locals := 0 } : Room).cells ({ frames := 0, cells := 0, slots := 0, locals := 0 } : Room).slots) := by
  refine MetFree.of_bodySF (plainFor_of_name pn_0) hisR ?_
  intro p e s m args below meth c s₁ Bd hml0 hP hK
  obtain ⟨rfl, hZ, hh⟩ := hP
  have hx := Bd.exec
  have hby := Bd.bytes
  have hml : c.maxLocals = 1 := hml0
  have hown : s.vm.findClass "com/example/lease/lease/store/OutcomeIsFailurePinLaw" = some m.cls := findClass_of_methodNamed Bd.named
  have hnm := (name_of_methodNamed Bd.named Bd.method).1
  have X0 : Stand p l e ({ frames := 0, cells := 0, slots := 0, locals := 0 } : Room) s m #[(.int (0 : Int32))] below meth c s₁ [] 0 0 := Stand.of_body Bd
  have e0 : s₁.heap = h0 := by rw [← hh, Bd.state]; rfl
  have N0 := Fr.nil n0
  refine Go.start (P := (fun o U' => ∃ v L, o = .returned v ∧ Q_rm1_1 Z a1 h0 n0 v U'.heap L ∧ FrameEnd s o U' L ({ frames := 0, cells := 0, slots := 0, locals := 0 } : Room).cells ({ frames := 0, cells := 0, slots := 0, locals := 0 } : Room).slots)) (castTop (g' := (mkF m 0 #[.val (.int (0 : Int32))] [])) (by first | rfl | simp [entryFrame, mkF, argsToLocals, Value.category]) (T := s₁)) ?_
  refine Go.st (fun t k => XS.iloadN X0.here hx rfl (hb hby d1_0) rfl k) ?_
  show Go p e below _ (s₁.setTop (mkF m 1 #[.val (.int (0 : Int32))] [(.int (0 : Int32))]))
  refine Go.st (fun t k => XS.ifNo X0.here hx rfl (hb hby d1_1) rfl (Jvm.Free.XT.i0_ne_f (by decide : (0 : Int32) = (0 : Int32))) k) ?_
  show Go p e below _ (s₁.setTop (mkF m 4 #[.val (.int (0 : Int32))] []))
  obtain ⟨T1, X1, e1, st1⟩ := getS2 X0 hx hZ hown (host := "") (Or.inl (w6 hw)) Via.refl e0 (P1.ext O0.2) (g := (mkF m 4 #[.val (.int (0 : Int32))] [])) rfl (hb hby d1_4)
  refine Go.st st1 ?_
  show Go p e below _ (T1.setTop (mkF m 7 #[.val (.int (0 : Int32))] [(.ref a1)]))
  obtain ⟨fs, hr, hrun, hended, hWd, hsame⟩ := X1.leave (v := some (.ref a1)) (fun h => by rw [Bd.returns] at h; cases h)
  refine ⟨_, _, ?_, hrun, hended, _, _, rfl, ?_, ⟨⟨_, rfl⟩, hWd, hsame.mono (by decide) (by decide)⟩⟩
  · exact own_retA X1 hx Bd.returns rfl rfl (hb hby d1_7) hr
  · show Q_rm1_1 Z a1 h0 n0 _ T1.heap _
    rw [e1]
    exact ⟨rfl, N0, rfl⟩
def Q_rm2_1 (Z : State) (a1 : Addr) (a2 : Addr) (a3 : Addr) (h0 : Heap) (n0 : Nat) (v : Option Value) (h : Heap) (L : List Loc) : Prop := v = some (.int (0 : Int32)) ∧ Fr n0 L ∧ h = h0
set_option maxRecDepth 65536 in
set_option maxHeartbeats 40000000 in
theorem rm2_1 (l : Launch) (Z : State) (a0 : Array Value) (hw : ∀ d ∈ tables_1, d.before a0 Z = true) (ws : List Jvm.Cond) (a1 : Addr) (a2 : Addr) (a3 : Addr) (h0 : Heap) (n0 : Nat) (O0 : Old Z n0 h0) (P1 : Sta Z Z.heap "com/example/lease/lease/store/Outcome" "FAILED" "Lcom/example/lease/lease/store/Outcome;" (.ref a2)) (P2 : a1 ≠ a2) (P3 : Sta Z Z.heap "com/example/lease/lease/store/Outcome" "TIMED_OUT" "Lcom/example/lease/lease/store/Outcome;" (.ref a3)) (P4 : a1 ≠ a3) :
    MetFree l (⟨"com/example/lease/lease/store/Outcome", "isFailure", "()Z"⟩ : MethodName) (head1 (Jvm.Cond.code (⟨"com/example/lease/lease/store/Outcome", "isFailure", "()Z"⟩ : MethodName) prog_56_method_4_code 1 (some .boolean) :: ws) ({ frames := 0, cells := 0, slots := 0, locals := 0 } : Room)) (fun a U => a = #[(.ref a1)] ∧ Z.Warmed39 U.vm ∧ U.heap = h0) (fun _ _ _ _ _ => True) (fun _ U o U' => ∃ v L, o = .returned v ∧ Q_rm2_1 Z a1 a2 a3 h0 n0 v U'.heap L ∧ FrameEnd U o U' L ({ frames := 0, cells := 0, slots := 0, locals := 0 } : Room).cells ({ frames := 0, cells := 0, slots := 0, locals := 0 } : Room).slots) := by
  refine MetFree.of_bodySF (plainFor_of_name pn_1) hisR ?_
  intro p e s m args below meth c s₁ Bd hml0 hP hK
  obtain ⟨rfl, hZ, hh⟩ := hP
  have hx := Bd.exec
  have hby := Bd.bytes
  have hml : c.maxLocals = 1 := hml0
  have hown : s.vm.findClass "com/example/lease/lease/store/Outcome" = some m.cls := findClass_of_methodNamed Bd.named
  have hnm := (name_of_methodNamed Bd.named Bd.method).1
  have X0 : Stand p l e ({ frames := 0, cells := 0, slots := 0, locals := 0 } : Room) s m #[(.ref a1)] below meth c s₁ [] 0 0 := Stand.of_body Bd
  have e0 : s₁.heap = h0 := by rw [← hh, Bd.state]; rfl
  have N0 := Fr.nil n0
  refine Go.start (P := (fun o U' => ∃ v L, o = .returned v ∧ Q_rm2_1 Z a1 a2 a3 h0 n0 v U'.heap L ∧ FrameEnd s o U' L ({ frames := 0, cells := 0, slots := 0, locals := 0 } : Room).cells ({ frames := 0, cells := 0, slots := 0, locals := 0 } : Room).slots)) (castTop (g' := (mkF m 0 #[.val (.ref a1)] [])) (by first | rfl | simp [entryFrame, mkF, argsToLocals, Value.category]) (T := s₁)) ?_
  refine Go.st (fun t k => XS.aloadN X0.here hx rfl (hb hby d2_0) rfl rfl k) ?_
  show Go p e below _ (s₁.setTop (mkF m 1 #[.val (.ref a1)] [(.ref a1)]))
  obtain ⟨T1, X1, e1, st1⟩ := getS2 X0 hx hZ hown (host := "") (Or.inl (w14 hw)) Via.refl e0 (P1.ext O0.2) (g := (mkF m 1 #[.val (.ref a1)] [(.ref a1)])) rfl (hb hby d2_1)
  refine Go.st st1 ?_
  show Go p e below _ (T1.setTop (mkF m 4 #[.val (.ref a1)] [(.ref a2), (.ref a1)]))
  refine Go.st (fun t k => Jvm.RoadKit.acmp (g := (mkF m 4 #[.val (.ref a1)] [(.ref a2), (.ref a1)])) X1 hx rfl rfl rfl (pc0 := 4) (pc' := 7) (same := false) rfl (hb hby d2_4) rfl (decide_eq_false fun q => P2 (Value.ref.inj q)) (by decide) (by decide) k) ?_
  show Go p e below _ (T1.setTop (mkF m 7 #[.val (.ref a1)] []))
  refine Go.st (fun t k => XS.aloadN X1.here hx rfl (hb hby d2_7) rfl rfl k) ?_
  show Go p e below _ (T1.setTop (mkF m 8 #[.val (.ref a1)] [(.ref a1)]))
  obtain ⟨T2, X2, e2, st2⟩ := getS2 X1 hx hZ hown (host := "") (Or.inl (w16 hw)) Via.refl e1 (P3.ext O0.2) (g := (mkF m 8 #[.val (.ref a1)] [(.ref a1)])) rfl (hb hby d2_8)
  refine Go.st st2 ?_
  show Go p e below _ (T2.setTop (mkF m 11 #[.val (.ref a1)] [(.ref a3), (.ref a1)]))
  refine Go.st (fun t k => Jvm.RoadKit.acmp (g := (mkF m 11 #[.val (.ref a1)] [(.ref a3), (.ref a1)])) X2 hx rfl rfl rfl (pc0 := 11) (pc' := 18) (same := false) rfl (hb hby d2_11) rfl (decide_eq_false fun q => P4 (Value.ref.inj q)) (by decide) (by decide) k) ?_
  show Go p e below _ (T2.setTop (mkF m 18 #[.val (.ref a1)] []))
  refine Go.st (fun t k => XS.iconst X2.here hx rfl (hb hby d2_18) k) ?_
  show Go p e below _ (T2.setTop (mkF m 19 #[.val (.ref a1)] [(.int (0 : Int32))]))
  obtain ⟨fs, hr, hrun, hended, hWd, hsame⟩ := X2.leave (v := some (.int (0 : Int32))) (fun h => by rw [Bd.returns] at h; cases h)
  refine ⟨_, _, ?_, hrun, hended, _, _, rfl, ?_, ⟨⟨_, rfl⟩, hWd, hsame.mono (by decide) (by decide)⟩⟩
  · exact retN X2 hx (t := .boolean) Bd.returns (by simp) (hb hby d2_19) hr
  · show Q_rm2_1 Z a1 a2 a3 h0 n0 _ T2.heap _
    rw [e2]
    exact ⟨rfl, N0, rfl⟩
def Q_rm1_2 (Z : State) (a1 : Addr) (h0 : Heap) (n0 : Nat) (v : Option Value) (h : Heap) (L : List Loc) : Prop := v = some (.ref a1) ∧ Fr n0 L ∧ h = h0
set_option maxRecDepth 65536 in
set_option maxHeartbeats 40000000 in
theorem rm1_2 (l : Launch) (Z : State) (a0 : Array Value) (hw : ∀ d ∈ tables_1, d.before a0 Z = true) (ws : List Jvm.Cond) (a1 : Addr) (h0 : Heap) (n0 : Nat) (O0 : Old Z n0 h0) (P1 : Sta Z Z.heap "com/example/lease/lease/store/Outcome" "FAILED" "Lcom/example/lease/lease/store/Outcome;" (.ref a1)) :
    MetFree l (⟨"com/example/lease/lease/store/OutcomeIsFailurePinLaw", "pick", "(I)Lcom/example/lease/lease/store/Outcome;"⟩ : MethodName) (head1 (Jvm.Cond.code (⟨"com/example/lease/lease/store/OutcomeIsFailurePinLaw", "pick", "(I)Lcom/example/lease/lease/store/Outcome;"⟩ : MethodName) method_2_code 1 (some (.object "com/example/lease/lease/store/Outcome")) :: ws) ({ frames := 0, cells := 0, slots := 0, locals := 0 } : Room)) (fun a U => a = #[(.int (1 : Int32))] ∧ Z.Warmed39 U.vm ∧ U.heap = h0) (fun _ _ _ _ _ => True) (fun _ U o U' => ∃ v L, o = .returned v ∧ Q_rm1_2 Z a1 h0 n0 v U'.heap L ∧ FrameEnd U o U' L ({ frames := 0, cells := 0, slots := 0, locals := 0 } : Room).cells ({ frames := 0, cells := 0, slots := 0, locals := 0 } : Room).slots) := by
  refine MetFree.of_bodySF (plainFor_of_name pn_0) hisR ?_
  intro p e s m args below meth c s₁ Bd hml0 hP hK
  obtain ⟨rfl, hZ, hh⟩ := hP
  have hx := Bd.exec
  have hby := Bd.bytes
  have hml : c.maxLocals = 1 := hml0
  have hown : s.vm.findClass "com/example/lease/lease/store/OutcomeIsFailurePinLaw" = some m.cls := findClass_of_methodNamed Bd.named
  have hnm := (name_of_methodNamed Bd.named Bd.method).1
  have X0 : Stand p l e ({ frames := 0, cells := 0, slots := 0, locals := 0 } : Room) s m #[(.int (1 : Int32))] below meth c s₁ [] 0 0 := Stand.of_body Bd
  have e0 : s₁.heap = h0 := by rw [← hh, Bd.state]; rfl
  have N0 := Fr.nil n0
  refine Go.start (P := (fun o U' => ∃ v L, o = .returned v ∧ Q_rm1_2 Z a1 h0 n0 v U'.heap L ∧ FrameEnd s o U' L ({ frames := 0, cells := 0, slots := 0, locals := 0 } : Room).cells ({ frames := 0, cells := 0, slots := 0, locals := 0 } : Room).slots)) (castTop (g' := (mkF m 0 #[.val (.int (1 : Int32))] [])) (by first | rfl | simp [entryFrame, mkF, argsToLocals, Value.category]) (T := s₁)) ?_
  refine Go.st (fun t k => XS.iloadN X0.here hx rfl (hb hby d1_0) rfl k) ?_
  show Go p e below _ (s₁.setTop (mkF m 1 #[.val (.int (1 : Int32))] [(.int (1 : Int32))]))
  refine Go.st (fun t k => XS.ifYes X0.here hx rfl (pc0 := 1) (pc' := 8) rfl (hb hby d1_1) rfl (Jvm.Free.XT.i0_ne_t (by decide : ¬ ((1 : Int32) = (0 : Int32)))) (by decide) (by decide) k) ?_
  show Go p e below _ (s₁.setTop (mkF m 8 #[.val (.int (1 : Int32))] []))
  refine Go.st (fun t k => XS.iloadN X0.here hx rfl (hb hby d1_8) rfl k) ?_
  show Go p e below _ (s₁.setTop (mkF m 9 #[.val (.int (1 : Int32))] [(.int (1 : Int32))]))
  refine Go.st (fun t k => XS.iconst X0.here hx rfl (hb hby d1_9) k) ?_
  show Go p e below _ (s₁.setTop (mkF m 10 #[.val (.int (1 : Int32))] [(.int (1 : Int32)), (.int (1 : Int32))]))
  refine Go.st (fun t k => XS.icmpNo X0.here hx rfl (hb hby d1_10) rfl (Jvm.Free.XT.ii_ne_f (by decide : (1 : Int32) = (1 : Int32))) k) ?_
  show Go p e below _ (s₁.setTop (mkF m 13 #[.val (.int (1 : Int32))] []))
  obtain ⟨T1, X1, e1, st1⟩ := getS2 X0 hx hZ hown (host := "") (Or.inl (w20 hw)) Via.refl e0 (P1.ext O0.2) (g := (mkF m 13 #[.val (.int (1 : Int32))] [])) rfl (hb hby d1_13)
  refine Go.st st1 ?_
  show Go p e below _ (T1.setTop (mkF m 16 #[.val (.int (1 : Int32))] [(.ref a1)]))
  obtain ⟨fs, hr, hrun, hended, hWd, hsame⟩ := X1.leave (v := some (.ref a1)) (fun h => by rw [Bd.returns] at h; cases h)
  refine ⟨_, _, ?_, hrun, hended, _, _, rfl, ?_, ⟨⟨_, rfl⟩, hWd, hsame.mono (by decide) (by decide)⟩⟩
  · exact own_retA X1 hx Bd.returns rfl rfl (hb hby d1_16) hr
  · show Q_rm1_2 Z a1 h0 n0 _ T1.heap _
    rw [e1]
    exact ⟨rfl, N0, rfl⟩
def Q_rm2_2 (Z : State) (a1 : Addr) (h0 : Heap) (n0 : Nat) (v : Option Value) (h : Heap) (L : List Loc) : Prop := v = some (.int (1 : Int32)) ∧ Fr n0 L ∧ h = h0
set_option maxRecDepth 65536 in
set_option maxHeartbeats 40000000 in
theorem rm2_2 (l : Launch) (Z : State) (a0 : Array Value) (hw : ∀ d ∈ tables_1, d.before a0 Z = true) (ws : List Jvm.Cond) (a1 : Addr) (h0 : Heap) (n0 : Nat) (O0 : Old Z n0 h0) (P1 : Sta Z Z.heap "com/example/lease/lease/store/Outcome" "FAILED" "Lcom/example/lease/lease/store/Outcome;" (.ref a1)) :
    MetFree l (⟨"com/example/lease/lease/store/Outcome", "isFailure", "()Z"⟩ : MethodName) (head1 (Jvm.Cond.code (⟨"com/example/lease/lease/store/Outcome", "isFailure", "()Z"⟩ : MethodName) prog_56_method_4_code 1 (some .boolean) :: ws) ({ frames := 0, cells := 0, slots := 0, locals := 0 } : Room)) (fun a U => a = #[(.ref a1)] ∧ Z.Warmed39 U.vm ∧ U.heap = h0) (fun _ _ _ _ _ => True) (fun _ U o U' => ∃ v L, o = .returned v ∧ Q_rm2_2 Z a1 h0 n0 v U'.heap L ∧ FrameEnd U o U' L ({ frames := 0, cells := 0, slots := 0, locals := 0 } : Room).cells ({ frames := 0, cells := 0, slots := 0, locals := 0 } : Room).slots) := by
  refine MetFree.of_bodySF (plainFor_of_name pn_1) hisR ?_
  intro p e s m args below meth c s₁ Bd hml0 hP hK
  obtain ⟨rfl, hZ, hh⟩ := hP
  have hx := Bd.exec
  have hby := Bd.bytes
  have hml : c.maxLocals = 1 := hml0
  have hown : s.vm.findClass "com/example/lease/lease/store/Outcome" = some m.cls := findClass_of_methodNamed Bd.named
  have hnm := (name_of_methodNamed Bd.named Bd.method).1
  have X0 : Stand p l e ({ frames := 0, cells := 0, slots := 0, locals := 0 } : Room) s m #[(.ref a1)] below meth c s₁ [] 0 0 := Stand.of_body Bd
  have e0 : s₁.heap = h0 := by rw [← hh, Bd.state]; rfl
  have N0 := Fr.nil n0
  refine Go.start (P := (fun o U' => ∃ v L, o = .returned v ∧ Q_rm2_2 Z a1 h0 n0 v U'.heap L ∧ FrameEnd s o U' L ({ frames := 0, cells := 0, slots := 0, locals := 0 } : Room).cells ({ frames := 0, cells := 0, slots := 0, locals := 0 } : Room).slots)) (castTop (g' := (mkF m 0 #[.val (.ref a1)] [])) (by first | rfl | simp [entryFrame, mkF, argsToLocals, Value.category]) (T := s₁)) ?_
  refine Go.st (fun t k => XS.aloadN X0.here hx rfl (hb hby d2_0) rfl rfl k) ?_
  show Go p e below _ (s₁.setTop (mkF m 1 #[.val (.ref a1)] [(.ref a1)]))
  obtain ⟨T1, X1, e1, st1⟩ := getS2 X0 hx hZ hown (host := "") (Or.inl (w14 hw)) Via.refl e0 (P1.ext O0.2) (g := (mkF m 1 #[.val (.ref a1)] [(.ref a1)])) rfl (hb hby d2_1)
  refine Go.st st1 ?_
  show Go p e below _ (T1.setTop (mkF m 4 #[.val (.ref a1)] [(.ref a1), (.ref a1)]))
  refine Go.st (fun t k => Jvm.RoadKit.acmp (g := (mkF m 4 #[.val (.ref a1)] [(.ref a1), (.ref a1)])) X1 hx rfl rfl rfl (pc0 := 4) (pc' := 14) (same := true) rfl (hb hby d2_4) rfl (decide_eq_true (congrArg Value.ref rfl)) (by decide) (by decide) k) ?_
  show Go p e below _ (T1.setTop (mkF m 14 #[.val (.ref a1)] []))
  refine Go.st (fun t k => XS.iconst X1.here hx rfl (hb hby d2_14) k) ?_
  show Go p e below _ (T1.setTop (mkF m 15 #[.val (.ref a1)] [(.int (1 : Int32))]))
  refine Go.st (fun t k => XS.goto X1.here hx rfl (pc0 := 15) (pc' := 19) rfl (hb hby d2_15) (by decide) (by decide) k) ?_
  show Go p e below _ (T1.setTop (mkF m 19 #[.val (.ref a1)] [(.int (1 : Int32))]))
  obtain ⟨fs, hr, hrun, hended, hWd, hsame⟩ := X1.leave (v := some (.int (1 : Int32))) (fun h => by rw [Bd.returns] at h; cases h)
  refine ⟨_, _, ?_, hrun, hended, _, _, rfl, ?_, ⟨⟨_, rfl⟩, hWd, hsame.mono (by decide) (by decide)⟩⟩
  · exact retN X1 hx (t := .boolean) Bd.returns (by simp) (hb hby d2_19) hr
  · show Q_rm2_2 Z a1 h0 n0 _ T1.heap _
    rw [e1]
    exact ⟨rfl, N0, rfl⟩
def Q_rm1_3 (Z : State) (a1 : Addr) (h0 : Heap) (n0 : Nat) (v : Option Value) (h : Heap) (L : List Loc) : Prop := v = some (.ref a1) ∧ Fr n0 L ∧ h = h0
set_option maxRecDepth 65536 in
set_option maxHeartbeats 40000000 in
theorem rm1_3 (l : Launch) (Z : State) (a0 : Array Value) (hw : ∀ d ∈ tables_1, d.before a0 Z = true) (ws : List Jvm.Cond) (a1 : Addr) (h0 : Heap) (n0 : Nat) (O0 : Old Z n0 h0) (P1 : Sta Z Z.heap "com/example/lease/lease/store/Outcome" "TIMED_OUT" "Lcom/example/lease/lease/store/Outcome;" (.ref a1)) :
    MetFree l (⟨"com/example/lease/lease/store/OutcomeIsFailurePinLaw", "pick", "(I)Lcom/example/lease/lease/store/Outcome;"⟩ : MethodName) (head1 (Jvm.Cond.code (⟨"com/example/lease/lease/store/OutcomeIsFailurePinLaw", "pick", "(I)Lcom/example/lease/lease/store/Outcome;"⟩ : MethodName) method_2_code 1 (some (.object "com/example/lease/lease/store/Outcome")) :: ws) ({ frames := 0, cells := 0, slots := 0, locals := 0 } : Room)) (fun a U => a = #[(.int (2 : Int32))] ∧ Z.Warmed39 U.vm ∧ U.heap = h0) (fun _ _ _ _ _ => True) (fun _ U o U' => ∃ v L, o = .returned v ∧ Q_rm1_3 Z a1 h0 n0 v U'.heap L ∧ FrameEnd U o U' L ({ frames := 0, cells := 0, slots := 0, locals := 0 } : Room).cells ({ frames := 0, cells := 0, slots := 0, locals := 0 } : Room).slots) := by
  refine MetFree.of_bodySF (plainFor_of_name pn_0) hisR ?_
  intro p e s m args below meth c s₁ Bd hml0 hP hK
  obtain ⟨rfl, hZ, hh⟩ := hP
  have hx := Bd.exec
  have hby := Bd.bytes
  have hml : c.maxLocals = 1 := hml0
  have hown : s.vm.findClass "com/example/lease/lease/store/OutcomeIsFailurePinLaw" = some m.cls := findClass_of_methodNamed Bd.named
  have hnm := (name_of_methodNamed Bd.named Bd.method).1
  have X0 : Stand p l e ({ frames := 0, cells := 0, slots := 0, locals := 0 } : Room) s m #[(.int (2 : Int32))] below meth c s₁ [] 0 0 := Stand.of_body Bd
  have e0 : s₁.heap = h0 := by rw [← hh, Bd.state]; rfl
  have N0 := Fr.nil n0
  refine Go.start (P := (fun o U' => ∃ v L, o = .returned v ∧ Q_rm1_3 Z a1 h0 n0 v U'.heap L ∧ FrameEnd s o U' L ({ frames := 0, cells := 0, slots := 0, locals := 0 } : Room).cells ({ frames := 0, cells := 0, slots := 0, locals := 0 } : Room).slots)) (castTop (g' := (mkF m 0 #[.val (.int (2 : Int32))] [])) (by first | rfl | simp [entryFrame, mkF, argsToLocals, Value.category]) (T := s₁)) ?_
  refine Go.st (fun t k => XS.iloadN X0.here hx rfl (hb hby d1_0) rfl k) ?_
  show Go p e below _ (s₁.setTop (mkF m 1 #[.val (.int (2 : Int32))] [(.int (2 : Int32))]))
  refine Go.st (fun t k => XS.ifYes X0.here hx rfl (pc0 := 1) (pc' := 8) rfl (hb hby d1_1) rfl (Jvm.Free.XT.i0_ne_t (by decide : ¬ ((2 : Int32) = (0 : Int32)))) (by decide) (by decide) k) ?_
  show Go p e below _ (s₁.setTop (mkF m 8 #[.val (.int (2 : Int32))] []))
  refine Go.st (fun t k => XS.iloadN X0.here hx rfl (hb hby d1_8) rfl k) ?_
  show Go p e below _ (s₁.setTop (mkF m 9 #[.val (.int (2 : Int32))] [(.int (2 : Int32))]))
  refine Go.st (fun t k => XS.iconst X0.here hx rfl (hb hby d1_9) k) ?_
  show Go p e below _ (s₁.setTop (mkF m 10 #[.val (.int (2 : Int32))] [(.int (1 : Int32)), (.int (2 : Int32))]))
  refine Go.st (fun t k => XS.icmpYes X0.here hx rfl (pc0 := 10) (pc' := 17) rfl (hb hby d1_10) rfl (Jvm.Free.XT.ii_ne_t (by decide : ¬ ((2 : Int32) = (1 : Int32)))) (by decide) (by decide) k) ?_
  show Go p e below _ (s₁.setTop (mkF m 17 #[.val (.int (2 : Int32))] []))
  refine Go.st (fun t k => XS.iloadN X0.here hx rfl (hb hby d1_17) rfl k) ?_
  show Go p e below _ (s₁.setTop (mkF m 18 #[.val (.int (2 : Int32))] [(.int (2 : Int32))]))
  refine Go.st (fun t k => XS.iconst X0.here hx rfl (hb hby d1_18) k) ?_
  show Go p e below _ (s₁.setTop (mkF m 19 #[.val (.int (2 : Int32))] [(.int (2 : Int32)), (.int (2 : Int32))]))
  refine Go.st (fun t k => XS.icmpNo X0.here hx rfl (hb hby d1_19) rfl (Jvm.Free.XT.ii_ne_f (by decide : (2 : Int32) = (2 : Int32))) k) ?_
  show Go p e below _ (s₁.setTop (mkF m 22 #[.val (.int (2 : Int32))] []))
  obtain ⟨T1, X1, e1, st1⟩ := getS2 X0 hx hZ hown (host := "") (Or.inl (w23 hw)) Via.refl e0 (P1.ext O0.2) (g := (mkF m 22 #[.val (.int (2 : Int32))] [])) rfl (hb hby d1_22)
  refine Go.st st1 ?_
  show Go p e below _ (T1.setTop (mkF m 25 #[.val (.int (2 : Int32))] [(.ref a1)]))
  obtain ⟨fs, hr, hrun, hended, hWd, hsame⟩ := X1.leave (v := some (.ref a1)) (fun h => by rw [Bd.returns] at h; cases h)
  refine ⟨_, _, ?_, hrun, hended, _, _, rfl, ?_, ⟨⟨_, rfl⟩, hWd, hsame.mono (by decide) (by decide)⟩⟩
  · exact own_retA X1 hx Bd.returns rfl rfl (hb hby d1_25) hr
  · show Q_rm1_3 Z a1 h0 n0 _ T1.heap _
    rw [e1]
    exact ⟨rfl, N0, rfl⟩
def Q_rm2_3 (Z : State) (a1 : Addr) (a2 : Addr) (h0 : Heap) (n0 : Nat) (v : Option Value) (h : Heap) (L : List Loc) : Prop := v = some (.int (1 : Int32)) ∧ Fr n0 L ∧ h = h0
set_option maxRecDepth 65536 in
set_option maxHeartbeats 40000000 in
theorem rm2_3 (l : Launch) (Z : State) (a0 : Array Value) (hw : ∀ d ∈ tables_1, d.before a0 Z = true) (ws : List Jvm.Cond) (a1 : Addr) (a2 : Addr) (h0 : Heap) (n0 : Nat) (O0 : Old Z n0 h0) (P1 : Sta Z Z.heap "com/example/lease/lease/store/Outcome" "FAILED" "Lcom/example/lease/lease/store/Outcome;" (.ref a2)) (P2 : a1 ≠ a2) (P3 : Sta Z Z.heap "com/example/lease/lease/store/Outcome" "TIMED_OUT" "Lcom/example/lease/lease/store/Outcome;" (.ref a1)) :
    MetFree l (⟨"com/example/lease/lease/store/Outcome", "isFailure", "()Z"⟩ : MethodName) (head1 (Jvm.Cond.code (⟨"com/example/lease/lease/store/Outcome", "isFailure", "()Z"⟩ : MethodName) prog_56_method_4_code 1 (some .boolean) :: ws) ({ frames := 0, cells := 0, slots := 0, locals := 0 } : Room)) (fun a U => a = #[(.ref a1)] ∧ Z.Warmed39 U.vm ∧ U.heap = h0) (fun _ _ _ _ _ => True) (fun _ U o U' => ∃ v L, o = .returned v ∧ Q_rm2_3 Z a1 a2 h0 n0 v U'.heap L ∧ FrameEnd U o U' L ({ frames := 0, cells := 0, slots := 0, locals := 0 } : Room).cells ({ frames := 0, cells := 0, slots := 0, locals := 0 } : Room).slots) := by
  refine MetFree.of_bodySF (plainFor_of_name pn_1) hisR ?_
  intro p e s m args below meth c s₁ Bd hml0 hP hK
  obtain ⟨rfl, hZ, hh⟩ := hP
  have hx := Bd.exec
  have hby := Bd.bytes
  have hml : c.maxLocals = 1 := hml0
  have hown : s.vm.findClass "com/example/lease/lease/store/Outcome" = some m.cls := findClass_of_methodNamed Bd.named
  have hnm := (name_of_methodNamed Bd.named Bd.method).1
  have X0 : Stand p l e ({ frames := 0, cells := 0, slots := 0, locals := 0 } : Room) s m #[(.ref a1)] below meth c s₁ [] 0 0 := Stand.of_body Bd
  have e0 : s₁.heap = h0 := by rw [← hh, Bd.state]; rfl
  have N0 := Fr.nil n0
  refine Go.start (P := (fun o U' => ∃ v L, o = .returned v ∧ Q_rm2_3 Z a1 a2 h0 n0 v U'.heap L ∧ FrameEnd s o U' L ({ frames := 0, cells := 0, slots := 0, locals := 0 } : Room).cells ({ frames := 0, cells := 0, slots := 0, locals := 0 } : Room).slots)) (castTop (g' := (mkF m 0 #[.val (.ref a1)] [])) (by first | rfl | simp [entryFrame, mkF, argsToLocals, Value.category]) (T := s₁)) ?_
  refine Go.st (fun t k => XS.aloadN X0.here hx rfl (hb hby d2_0) rfl rfl k) ?_
  show Go p e below _ (s₁.setTop (mkF m 1 #[.val (.ref a1)] [(.ref a1)]))
  obtain ⟨T1, X1, e1, st1⟩ := getS2 X0 hx hZ hown (host := "") (Or.inl (w14 hw)) Via.refl e0 (P1.ext O0.2) (g := (mkF m 1 #[.val (.ref a1)] [(.ref a1)])) rfl (hb hby d2_1)
  refine Go.st st1 ?_
  show Go p e below _ (T1.setTop (mkF m 4 #[.val (.ref a1)] [(.ref a2), (.ref a1)]))
  refine Go.st (fun t k => Jvm.RoadKit.acmp (g := (mkF m 4 #[.val (.ref a1)] [(.ref a2), (.ref a1)])) X1 hx rfl rfl rfl (pc0 := 4) (pc' := 7) (same := false) rfl (hb hby d2_4) rfl (decide_eq_false fun q => P2 (Value.ref.inj q)) (by decide) (by decide) k) ?_
  show Go p e below _ (T1.setTop (mkF m 7 #[.val (.ref a1)] []))
  refine Go.st (fun t k => XS.aloadN X1.here hx rfl (hb hby d2_7) rfl rfl k) ?_
  show Go p e below _ (T1.setTop (mkF m 8 #[.val (.ref a1)] [(.ref a1)]))
  obtain ⟨T2, X2, e2, st2⟩ := getS2 X1 hx hZ hown (host := "") (Or.inl (w16 hw)) Via.refl e1 (P3.ext O0.2) (g := (mkF m 8 #[.val (.ref a1)] [(.ref a1)])) rfl (hb hby d2_8)
  refine Go.st st2 ?_
  show Go p e below _ (T2.setTop (mkF m 11 #[.val (.ref a1)] [(.ref a1), (.ref a1)]))
  refine Go.st (fun t k => Jvm.RoadKit.acmp (g := (mkF m 11 #[.val (.ref a1)] [(.ref a1), (.ref a1)])) X2 hx rfl rfl rfl (pc0 := 11) (pc' := 14) (same := true) rfl (hb hby d2_11) rfl (decide_eq_true (congrArg Value.ref rfl)) (by decide) (by decide) k) ?_
  show Go p e below _ (T2.setTop (mkF m 14 #[.val (.ref a1)] []))
  refine Go.st (fun t k => XS.iconst X2.here hx rfl (hb hby d2_14) k) ?_
  show Go p e below _ (T2.setTop (mkF m 15 #[.val (.ref a1)] [(.int (1 : Int32))]))
  refine Go.st (fun t k => XS.goto X2.here hx rfl (pc0 := 15) (pc' := 19) rfl (hb hby d2_15) (by decide) (by decide) k) ?_
  show Go p e below _ (T2.setTop (mkF m 19 #[.val (.ref a1)] [(.int (1 : Int32))]))
  obtain ⟨fs, hr, hrun, hended, hWd, hsame⟩ := X2.leave (v := some (.int (1 : Int32))) (fun h => by rw [Bd.returns] at h; cases h)
  refine ⟨_, _, ?_, hrun, hended, _, _, rfl, ?_, ⟨⟨_, rfl⟩, hWd, hsame.mono (by decide) (by decide)⟩⟩
  · exact retN X2 hx (t := .boolean) Bd.returns (by simp) (hb hby d2_19) hr
  · show Q_rm2_3 Z a1 a2 h0 n0 _ T2.heap _
    rw [e2]
    exact ⟨rfl, N0, rfl⟩
def Q_rm1_4 (Z : State) (a1 : Addr) (h0 : Heap) (n0 : Nat) (v : Option Value) (h : Heap) (L : List Loc) : Prop := v = some (.ref a1) ∧ Fr n0 L ∧ h = h0
set_option maxRecDepth 65536 in
set_option maxHeartbeats 40000000 in
theorem rm1_4 (l : Launch) (Z : State) (a0 : Array Value) (hw : ∀ d ∈ tables_1, d.before a0 Z = true) (ws : List Jvm.Cond) (a1 : Addr) (h0 : Heap) (n0 : Nat) (O0 : Old Z n0 h0) (P1 : Sta Z Z.heap "com/example/lease/lease/store/Outcome" "CANCELLED" "Lcom/example/lease/lease/store/Outcome;" (.ref a1)) :
    MetFree l (⟨"com/example/lease/lease/store/OutcomeIsFailurePinLaw", "pick", "(I)Lcom/example/lease/lease/store/Outcome;"⟩ : MethodName) (head1 (Jvm.Cond.code (⟨"com/example/lease/lease/store/OutcomeIsFailurePinLaw", "pick", "(I)Lcom/example/lease/lease/store/Outcome;"⟩ : MethodName) method_2_code 1 (some (.object "com/example/lease/lease/store/Outcome")) :: ws) ({ frames := 0, cells := 0, slots := 0, locals := 0 } : Room)) (fun a U => a = #[(.int (3 : Int32))] ∧ Z.Warmed39 U.vm ∧ U.heap = h0) (fun _ _ _ _ _ => True) (fun _ U o U' => ∃ v L, o = .returned v ∧ Q_rm1_4 Z a1 h0 n0 v U'.heap L ∧ FrameEnd U o U' L ({ frames := 0, cells := 0, slots := 0, locals := 0 } : Room).cells ({ frames := 0, cells := 0, slots := 0, locals := 0 } : Room).slots) := by
  refine MetFree.of_bodySF (plainFor_of_name pn_0) hisR ?_
  intro p e s m args below meth c s₁ Bd hml0 hP hK
  obtain ⟨rfl, hZ, hh⟩ := hP
  have hx := Bd.exec
  have hby := Bd.bytes
  have hml : c.maxLocals = 1 := hml0
  have hown : s.vm.findClass "com/example/lease/lease/store/OutcomeIsFailurePinLaw" = some m.cls := findClass_of_methodNamed Bd.named
  have hnm := (name_of_methodNamed Bd.named Bd.method).1
  have X0 : Stand p l e ({ frames := 0, cells := 0, slots := 0, locals := 0 } : Room) s m #[(.int (3 : Int32))] below meth c s₁ [] 0 0 := Stand.of_body Bd
  have e0 : s₁.heap = h0 := by rw [← hh, Bd.state]; rfl
  have N0 := Fr.nil n0
  refine Go.start (P := (fun o U' => ∃ v L, o = .returned v ∧ Q_rm1_4 Z a1 h0 n0 v U'.heap L ∧ FrameEnd s o U' L ({ frames := 0, cells := 0, slots := 0, locals := 0 } : Room).cells ({ frames := 0, cells := 0, slots := 0, locals := 0 } : Room).slots)) (castTop (g' := (mkF m 0 #[.val (.int (3 : Int32))] [])) (by first | rfl | simp [entryFrame, mkF, argsToLocals, Value.category]) (T := s₁)) ?_
  refine Go.st (fun t k => XS.iloadN X0.here hx rfl (hb hby d1_0) rfl k) ?_
  show Go p e below _ (s₁.setTop (mkF m 1 #[.val (.int (3 : Int32))] [(.int (3 : Int32))]))
  refine Go.st (fun t k => XS.ifYes X0.here hx rfl (pc0 := 1) (pc' := 8) rfl (hb hby d1_1) rfl (Jvm.Free.XT.i0_ne_t (by decide : ¬ ((3 : Int32) = (0 : Int32)))) (by decide) (by decide) k) ?_
  show Go p e below _ (s₁.setTop (mkF m 8 #[.val (.int (3 : Int32))] []))
  refine Go.st (fun t k => XS.iloadN X0.here hx rfl (hb hby d1_8) rfl k) ?_
  show Go p e below _ (s₁.setTop (mkF m 9 #[.val (.int (3 : Int32))] [(.int (3 : Int32))]))
  refine Go.st (fun t k => XS.iconst X0.here hx rfl (hb hby d1_9) k) ?_
  show Go p e below _ (s₁.setTop (mkF m 10 #[.val (.int (3 : Int32))] [(.int (1 : Int32)), (.int (3 : Int32))]))
  refine Go.st (fun t k => XS.icmpYes X0.here hx rfl (pc0 := 10) (pc' := 17) rfl (hb hby d1_10) rfl (Jvm.Free.XT.ii_ne_t (by decide : ¬ ((3 : Int32) = (1 : Int32)))) (by decide) (by decide) k) ?_
  show Go p e below _ (s₁.setTop (mkF m 17 #[.val (.int (3 : Int32))] []))
  refine Go.st (fun t k => XS.iloadN X0.here hx rfl (hb hby d1_17) rfl k) ?_
  show Go p e below _ (s₁.setTop (mkF m 18 #[.val (.int (3 : Int32))] [(.int (3 : Int32))]))
  refine Go.st (fun t k => XS.iconst X0.here hx rfl (hb hby d1_18) k) ?_
  show Go p e below _ (s₁.setTop (mkF m 19 #[.val (.int (3 : Int32))] [(.int (2 : Int32)), (.int (3 : Int32))]))
  refine Go.st (fun t k => XS.icmpYes X0.here hx rfl (pc0 := 19) (pc' := 26) rfl (hb hby d1_19) rfl (Jvm.Free.XT.ii_ne_t (by decide : ¬ ((3 : Int32) = (2 : Int32)))) (by decide) (by decide) k) ?_
  show Go p e below _ (s₁.setTop (mkF m 26 #[.val (.int (3 : Int32))] []))
  refine Go.st (fun t k => XS.iloadN X0.here hx rfl (hb hby d1_26) rfl k) ?_
  show Go p e below _ (s₁.setTop (mkF m 27 #[.val (.int (3 : Int32))] [(.int (3 : Int32))]))
  refine Go.st (fun t k => XS.iconst X0.here hx rfl (hb hby d1_27) k) ?_
  show Go p e below _ (s₁.setTop (mkF m 28 #[.val (.int (3 : Int32))] [(.int (3 : Int32)), (.int (3 : Int32))]))
  refine Go.st (fun t k => XS.icmpNo X0.here hx rfl (hb hby d1_28) rfl (Jvm.Free.XT.ii_ne_f (by decide : (3 : Int32) = (3 : Int32))) k) ?_
  show Go p e below _ (s₁.setTop (mkF m 31 #[.val (.int (3 : Int32))] []))
  obtain ⟨T1, X1, e1, st1⟩ := getS2 X0 hx hZ hown (host := "") (Or.inl (w18 hw)) Via.refl e0 (P1.ext O0.2) (g := (mkF m 31 #[.val (.int (3 : Int32))] [])) rfl (hb hby d1_31)
  refine Go.st st1 ?_
  show Go p e below _ (T1.setTop (mkF m 34 #[.val (.int (3 : Int32))] [(.ref a1)]))
  obtain ⟨fs, hr, hrun, hended, hWd, hsame⟩ := X1.leave (v := some (.ref a1)) (fun h => by rw [Bd.returns] at h; cases h)
  refine ⟨_, _, ?_, hrun, hended, _, _, rfl, ?_, ⟨⟨_, rfl⟩, hWd, hsame.mono (by decide) (by decide)⟩⟩
  · exact own_retA X1 hx Bd.returns rfl rfl (hb hby d1_34) hr
  · show Q_rm1_4 Z a1 h0 n0 _ T1.heap _
    rw [e1]
    exact ⟨rfl, N0, rfl⟩
def Q_rm1_5 (Z : State) (a1 : Addr) (h0 : Heap) (n0 : Nat) (v : Option Value) (h : Heap) (L : List Loc) : Prop := v = some (.ref a1) ∧ Fr n0 L ∧ h = h0
set_option maxRecDepth 65536 in
set_option maxHeartbeats 40000000 in
theorem rm1_5 (l : Launch) (Z : State) (a0 : Array Value) (hw : ∀ d ∈ tables_1, d.before a0 Z = true) (ws : List Jvm.Cond) (a1 : Addr) (h0 : Heap) (n0 : Nat) (O0 : Old Z n0 h0) (P1 : Sta Z Z.heap "com/example/lease/lease/store/Outcome" "LOST" "Lcom/example/lease/lease/store/Outcome;" (.ref a1)) :
    MetFree l (⟨"com/example/lease/lease/store/OutcomeIsFailurePinLaw", "pick", "(I)Lcom/example/lease/lease/store/Outcome;"⟩ : MethodName) (head1 (Jvm.Cond.code (⟨"com/example/lease/lease/store/OutcomeIsFailurePinLaw", "pick", "(I)Lcom/example/lease/lease/store/Outcome;"⟩ : MethodName) method_2_code 1 (some (.object "com/example/lease/lease/store/Outcome")) :: ws) ({ frames := 0, cells := 0, slots := 0, locals := 0 } : Room)) (fun a U => a = #[(.int (4 : Int32))] ∧ Z.Warmed39 U.vm ∧ U.heap = h0) (fun _ _ _ _ _ => True) (fun _ U o U' => ∃ v L, o = .returned v ∧ Q_rm1_5 Z a1 h0 n0 v U'.heap L ∧ FrameEnd U o U' L ({ frames := 0, cells := 0, slots := 0, locals := 0 } : Room).cells ({ frames := 0, cells := 0, slots := 0, locals := 0 } : Room).slots) := by
  refine MetFree.of_bodySF (plainFor_of_name pn_0) hisR ?_
  intro p e s m args below meth c s₁ Bd hml0 hP hK
  obtain ⟨rfl, hZ, hh⟩ := hP
  have hx := Bd.exec
  have hby := Bd.bytes
  have hml : c.maxLocals = 1 := hml0
  have hown : s.vm.findClass "com/example/lease/lease/store/OutcomeIsFailurePinLaw" = some m.cls := findClass_of_methodNamed Bd.named
  have hnm := (name_of_methodNamed Bd.named Bd.method).1
  have X0 : Stand p l e ({ frames := 0, cells := 0, slots := 0, locals := 0 } : Room) s m #[(.int (4 : Int32))] below meth c s₁ [] 0 0 := Stand.of_body Bd
  have e0 : s₁.heap = h0 := by rw [← hh, Bd.state]; rfl
  have N0 := Fr.nil n0
  refine Go.start (P := (fun o U' => ∃ v L, o = .returned v ∧ Q_rm1_5 Z a1 h0 n0 v U'.heap L ∧ FrameEnd s o U' L ({ frames := 0, cells := 0, slots := 0, locals := 0 } : Room).cells ({ frames := 0, cells := 0, slots := 0, locals := 0 } : Room).slots)) (castTop (g' := (mkF m 0 #[.val (.int (4 : Int32))] [])) (by first | rfl | simp [entryFrame, mkF, argsToLocals, Value.category]) (T := s₁)) ?_
  refine Go.st (fun t k => XS.iloadN X0.here hx rfl (hb hby d1_0) rfl k) ?_
  show Go p e below _ (s₁.setTop (mkF m 1 #[.val (.int (4 : Int32))] [(.int (4 : Int32))]))
  refine Go.st (fun t k => XS.ifYes X0.here hx rfl (pc0 := 1) (pc' := 8) rfl (hb hby d1_1) rfl (Jvm.Free.XT.i0_ne_t (by decide : ¬ ((4 : Int32) = (0 : Int32)))) (by decide) (by decide) k) ?_
  show Go p e below _ (s₁.setTop (mkF m 8 #[.val (.int (4 : Int32))] []))
  refine Go.st (fun t k => XS.iloadN X0.here hx rfl (hb hby d1_8) rfl k) ?_
  show Go p e below _ (s₁.setTop (mkF m 9 #[.val (.int (4 : Int32))] [(.int (4 : Int32))]))
  refine Go.st (fun t k => XS.iconst X0.here hx rfl (hb hby d1_9) k) ?_
  show Go p e below _ (s₁.setTop (mkF m 10 #[.val (.int (4 : Int32))] [(.int (1 : Int32)), (.int (4 : Int32))]))
  refine Go.st (fun t k => XS.icmpYes X0.here hx rfl (pc0 := 10) (pc' := 17) rfl (hb hby d1_10) rfl (Jvm.Free.XT.ii_ne_t (by decide : ¬ ((4 : Int32) = (1 : Int32)))) (by decide) (by decide) k) ?_
  show Go p e below _ (s₁.setTop (mkF m 17 #[.val (.int (4 : Int32))] []))
  refine Go.st (fun t k => XS.iloadN X0.here hx rfl (hb hby d1_17) rfl k) ?_
  show Go p e below _ (s₁.setTop (mkF m 18 #[.val (.int (4 : Int32))] [(.int (4 : Int32))]))
  refine Go.st (fun t k => XS.iconst X0.here hx rfl (hb hby d1_18) k) ?_
  show Go p e below _ (s₁.setTop (mkF m 19 #[.val (.int (4 : Int32))] [(.int (2 : Int32)), (.int (4 : Int32))]))
  refine Go.st (fun t k => XS.icmpYes X0.here hx rfl (pc0 := 19) (pc' := 26) rfl (hb hby d1_19) rfl (Jvm.Free.XT.ii_ne_t (by decide : ¬ ((4 : Int32) = (2 : Int32)))) (by decide) (by decide) k) ?_
  show Go p e below _ (s₁.setTop (mkF m 26 #[.val (.int (4 : Int32))] []))
  refine Go.st (fun t k => XS.iloadN X0.here hx rfl (hb hby d1_26) rfl k) ?_
  show Go p e below _ (s₁.setTop (mkF m 27 #[.val (.int (4 : Int32))] [(.int (4 : Int32))]))
  refine Go.st (fun t k => XS.iconst X0.here hx rfl (hb hby d1_27) k) ?_
  show Go p e below _ (s₁.setTop (mkF m 28 #[.val (.int (4 : Int32))] [(.int (3 : Int32)), (.int (4 : Int32))]))
  refine Go.st (fun t k => XS.icmpYes X0.here hx rfl (pc0 := 28) (pc' := 35) rfl (hb hby d1_28) rfl (Jvm.Free.XT.ii_ne_t (by decide : ¬ ((4 : Int32) = (3 : Int32)))) (by decide) (by decide) k) ?_
  show Go p e below _ (s₁.setTop (mkF m 35 #[.val (.int (4 : Int32))] []))
  obtain ⟨T1, X1, e1, st1⟩ := getS2 X0 hx hZ hown (host := "") (Or.inl (w21 hw)) Via.refl e0 (P1.ext O0.2) (g := (mkF m 35 #[.val (.int (4 : Int32))] [])) rfl (hb hby d1_35)
  refine Go.st st1 ?_
  show Go p e below _ (T1.setTop (mkF m 38 #[.val (.int (4 : Int32))] [(.ref a1)]))
  obtain ⟨fs, hr, hrun, hended, hWd, hsame⟩ := X1.leave (v := some (.ref a1)) (fun h => by rw [Bd.returns] at h; cases h)
  refine ⟨_, _, ?_, hrun, hended, _, _, rfl, ?_, ⟨⟨_, rfl⟩, hWd, hsame.mono (by decide) (by decide)⟩⟩
  · exact own_retA X1 hx Bd.returns rfl rfl (hb hby d1_38) hr
  · show Q_rm1_5 Z a1 h0 n0 _ T1.heap _
    rw [e1]
    exact ⟨rfl, N0, rfl⟩
def Q_rm0 (n0 : Nat) (v : Option Value) (L : List Loc) : Prop := v = some (.int (1 : Int32)) ∧ Fr n0 L
set_option maxRecDepth 65536 in
set_option maxHeartbeats 400000000 in
theorem rm0 (l : Launch) (Z : State) (a0 : Array Value) (hw : ∀ d ∈ tables_1, d.before a0 Z = true) (ws : List Jvm.Cond) (i0 : Int32) (w19a : Addr) (w23a : Addr) (w27a : Addr) (w31a : Addr) (w35a : Addr) (h0 : Heap) (n0 : Nat) (O0 : Old Z n0 h0) (Y21 : Sta Z Z.heap "com/example/lease/lease/store/Outcome" "SUCCEEDED" "Lcom/example/lease/lease/store/Outcome;" (.ref w19a)) (Y22 : Exa Z Z.heap w19a "com/example/lease/lease/store/Outcome") (Y25 : Sta Z Z.heap "com/example/lease/lease/store/Outcome" "FAILED" "Lcom/example/lease/lease/store/Outcome;" (.ref w23a)) (Y26 : Exa Z Z.heap w23a "com/example/lease/lease/store/Outcome") (Y29 : Sta Z Z.heap "com/example/lease/lease/store/Outcome" "TIMED_OUT" "Lcom/example/lease/lease/store/Outcome;" (.ref w27a)) (Y30 : Exa Z Z.heap w27a "com/example/lease/lease/store/Outcome") (Y33 : Sta Z Z.heap "com/example/lease/lease/store/Outcome" "CANCELLED" "Lcom/example/lease/lease/store/Outcome;" (.ref w31a)) (Y34 : Exa Z Z.heap w31a "com/example/lease/lease/store/Outcome") (Y37 : Sta Z Z.heap "com/example/lease/lease/store/Outcome" "LOST" "Lcom/example/lease/lease/store/Outcome;" (.ref w35a)) (Y38 : Exa Z Z.heap w35a "com/example/lease/lease/store/Outcome") (D49 : w19a ≠ w23a) (D50 : w19a ≠ w27a) (D53 : w23a ≠ w27a) (D54 : w23a ≠ w31a) (D55 : w23a ≠ w35a) (D56 : w27a ≠ w31a) (D57 : w27a ≠ w35a) :
    MetFree l x (head1 (Jvm.Cond.code x code maxLocals ret :: ws) room_1) (fun a U => a = #[(.int i0)] ∧ Z.Warmed39 U.vm ∧ U.heap = h0) (fun _ _ _ _ _ => True) (fun _ U o U' => ∃ v L, o = .returned v ∧ Q_rm0 n0 v L ∧ FrameEnd U o U' L room_1.cells room_1.slots) := by
  refine MetFree.of_bodySF (plainFor_of_name pn_0) hisR ?_
  intro p e s m args below meth c s₁ Bd hml0 hP hK
  obtain ⟨rfl, hZ, hh⟩ := hP
  have hx := Bd.exec
  have hby := Bd.bytes
  have hml : c.maxLocals = 4 := hml0
  have hown : s.vm.findClass "com/example/lease/lease/store/OutcomeIsFailurePinLaw" = some m.cls := findClass_of_methodNamed Bd.named
  have hnm := (name_of_methodNamed Bd.named Bd.method).1
  have X0 : Stand p l e room_1 s m #[(.int i0)] below meth c s₁ [] 0 0 := Stand.of_body Bd
  have e0 : s₁.heap = h0 := by rw [← hh, Bd.state]; rfl
  have N0 := Fr.nil n0
  refine Go.start (P := (fun o U' => ∃ v L, o = .returned v ∧ Q_rm0 n0 v L ∧ FrameEnd s o U' L room_1.cells room_1.slots)) (castTop (g' := (mkF m 0 #[.val (.int i0), .unset, .unset, .unset] [])) (by first | rfl | simp [entryFrame, mkF, argsToLocals, Value.category, maxLocals]) (T := s₁)) ?_
  refine Go.st (fun t k => XS.iloadN X0.here hx rfl (hb hby at_0) rfl k) ?_
  show Go p e below _ (s₁.setTop (mkF m 1 #[.val (.int i0), .unset, .unset, .unset] [(.int i0)]))
  refine Go.st (fun t k => X0.ldcI hx hown (mvT hZ (w0 hw)) (g := (mkF m 1 #[.val (.int i0), .unset, .unset, .unset] [(.int i0)])) rfl (hb hby at_1) k) ?_
  show Go p e below _ (s₁.setTop (mkF m 3 #[.val (.int i0), .unset, .unset, .unset] [(.int (2147483647 : Int32)), (.int i0)]))
  refine Go.st (fun t k => XS.iand X0.here hx rfl (hb hby at_3) rfl k) ?_
  show Go p e below _ (s₁.setTop (mkF m 4 #[.val (.int i0), .unset, .unset, .unset] [(.int (i0 &&& (2147483647 : Int32)))]))
  refine Go.st (fun t k => XS.iconst X0.here hx rfl (hb hby at_4) k) ?_
  show Go p e below _ (s₁.setTop (mkF m 5 #[.val (.int i0), .unset, .unset, .unset] [(.int (5 : Int32)), (.int (i0 &&& (2147483647 : Int32)))]))
  refine Go.st (fun t k => iremM X0 hx rfl (hb hby at_5) rfl (by decide : ¬ ((5 : Int32) = (0 : Int32))) k) ?_
  show Go p e below _ (s₁.setTop (mkF m 6 #[.val (.int i0), .unset, .unset, .unset] [(.int ((i0 &&& (2147483647 : Int32)) % (5 : Int32)))]))
  rcases own_mod5 i0 with hq | hq | hq | hq | hq
  · rw [hq]
    show Go p e below _ (s₁.setTop (mkF m 6 #[.val (.int i0), .unset, .unset, .unset] [(.int (0 : Int32))]))
    refine Go.st (fun t k => XS.istoreN X0.here hx rfl (hb hby at_6) rfl (l' := #[.val (.int i0), .val (.int (0 : Int32)), .unset, .unset]) rfl k) ?_
    show Go p e below _ (s₁.setTop (mkF m 7 #[.val (.int i0), .val (.int (0 : Int32)), .unset, .unset] []))
    refine Go.st (fun t k => XS.iconst X0.here hx rfl (hb hby at_7) k) ?_
    show Go p e below _ (s₁.setTop (mkF m 8 #[.val (.int i0), .val (.int (0 : Int32)), .unset, .unset] [(.int (5 : Int32))]))
    obtain ⟨T1, h1, k1, X1, e1, E1, A1, st1⟩ := newP X0 hx hZ (aty := .boolean) (w1 hw) e0 (g := (mkF m 8 #[.val (.int i0), .val (.int (0 : Int32)), .unset, .unset] [(.int (5 : Int32))])) rfl (hb hby at_8) rfl (by decide) (cap := 5) (by decide) (by decide) (by decide) (by decide)
    obtain ⟨b1, z1⟩ : ∃ z, z = h0.size := ⟨_, rfl⟩
    rw [← z1] at A1 st1
    have g_b1 : n0 ≤ b1 := Nat.le_trans (own_n0 O0) (Nat.le_of_eq z1.symm)
    have V1 : Arv Z h1 b1 k1 .boolean (5 : Int32) [(.int (0 : Int32)), (.int (0 : Int32)), (.int (0 : Int32)), (.int (0 : Int32)), (.int (0 : Int32))] (.int (0 : Int32)) := (Arv.new A1 (by decide)).pad (pad_rep [] (.int (0 : Int32)) 5)
    have O1 : Old Z n0 h1 := O0.ext E1
    refine Go.st st1 ?_
    show Go p e below _ (T1.setTop (mkF m 10 #[.val (.int i0), .val (.int (0 : Int32)), .unset, .unset] [(.ref b1)]))
    refine Go.st (fun t k => XS.dup X1.here hx rfl (hb hby at_10) rfl rfl k) ?_
    show Go p e below _ (T1.setTop (mkF m 11 #[.val (.int i0), .val (.int (0 : Int32)), .unset, .unset] [(.ref b1), (.ref b1)]))
    refine Go.st (fun t k => XS.iconst X1.here hx rfl (hb hby at_11) k) ?_
    show Go p e below _ (T1.setTop (mkF m 12 #[.val (.int i0), .val (.int (0 : Int32)), .unset, .unset] [(.int (0 : Int32)), (.ref b1), (.ref b1)]))
    refine Go.st (fun t k => XS.iconst X1.here hx rfl (hb hby at_12) k) ?_
    show Go p e below _ (T1.setTop (mkF m 13 #[.val (.int i0), .val (.int (0 : Int32)), .unset, .unset] [(.int (0 : Int32)), (.int (0 : Int32)), (.ref b1), (.ref b1)]))
    obtain ⟨cl2, Ar2, q2, S2, M2, H2, G2⟩ := id V1
    have hin2 : ¬ ((0 : Int32) < 0 ∨ cl2.slots.size ≤ ((0 : Int32)).toNatClampNeg) := inb_of S2 ⟨by decide, by decide⟩
    obtain ⟨T2, h2, X2, e2, W2, st2⟩ := stZ X1 hx hZ e1 Ar2 (j := (0 : Int32)) hin2 (g := (mkF m 13 #[.val (.int i0), .val (.int (0 : Int32)), .unset, .unset] [(.int (0 : Int32)), (.int (0 : Int32)), (.ref b1), (.ref b1)])) rfl rfl (hb hby at_13)
    have V2 : Arv Z h2 b1 k1 .boolean (5 : Int32) [(.int (0 : Int32)), (.int (0 : Int32)), (.int (0 : Int32)), (.int (0 : Int32)), (.int (0 : Int32))] (.int (0 : Int32)) := Arv.set Ar2 q2 S2 M2 H2 G2 (by decide) W2 0 rfl (Nat.le_of_ble_eq_true rfl)
    have N2 := Fr.snoc X2 N0 g_b1
    have O2 : Old Z n0 h2 := O1.wr W2 g_b1
    refine Go.st st2 ?_
    show Go p e below _ (T2.setTop (mkF m 14 #[.val (.int i0), .val (.int (0 : Int32)), .unset, .unset] [(.ref b1)]))
    refine Go.st (fun t k => XS.dup X2.here hx rfl (hb hby at_14) rfl rfl k) ?_
    show Go p e below _ (T2.setTop (mkF m 15 #[.val (.int i0), .val (.int (0 : Int32)), .unset, .unset] [(.ref b1), (.ref b1)]))
    refine Go.st (fun t k => XS.iconst X2.here hx rfl (hb hby at_15) k) ?_
    show Go p e below _ (T2.setTop (mkF m 16 #[.val (.int i0), .val (.int (0 : Int32)), .unset, .unset] [(.int (1 : Int32)), (.ref b1), (.ref b1)]))
    refine Go.st (fun t k => XS.iconst X2.here hx rfl (hb hby at_16) k) ?_
    show Go p e below _ (T2.setTop (mkF m 17 #[.val (.int i0), .val (.int (0 : Int32)), .unset, .unset] [(.int (1 : Int32)), (.int (1 : Int32)), (.ref b1), (.ref b1)]))
    obtain ⟨cl3, Ar3, q3, S3, M3, H3, G3⟩ := id V2
    have hin3 : ¬ ((1 : Int32) < 0 ∨ cl3.slots.size ≤ ((1 : Int32)).toNatClampNeg) := inb_of S3 ⟨by decide, by decide⟩
    obtain ⟨T3, h3, X3, e3, W3, st3⟩ := stZ X2 hx hZ e2 Ar3 (j := (1 : Int32)) hin3 (g := (mkF m 17 #[.val (.int i0), .val (.int (0 : Int32)), .unset, .unset] [(.int (1 : Int32)), (.int (1 : Int32)), (.ref b1), (.ref b1)])) rfl rfl (hb hby at_17)
    have V3 : Arv Z h3 b1 k1 .boolean (5 : Int32) [(.int (0 : Int32)), (.int (1 : Int32)), (.int (0 : Int32)), (.int (0 : Int32)), (.int (0 : Int32))] (.int (0 : Int32)) := Arv.set Ar3 q3 S3 M3 H3 G3 (by decide) W3 1 rfl (Nat.le_of_ble_eq_true rfl)
    have N3 := Fr.snoc X3 N2 g_b1
    have O3 : Old Z n0 h3 := O2.wr W3 g_b1
    refine Go.st st3 ?_
    show Go p e below _ (T3.setTop (mkF m 18 #[.val (.int i0), .val (.int (0 : Int32)), .unset, .unset] [(.ref b1)]))
    refine Go.st (fun t k => XS.dup X3.here hx rfl (hb hby at_18) rfl rfl k) ?_
    show Go p e below _ (T3.setTop (mkF m 19 #[.val (.int i0), .val (.int (0 : Int32)), .unset, .unset] [(.ref b1), (.ref b1)]))
    refine Go.st (fun t k => XS.iconst X3.here hx rfl (hb hby at_19) k) ?_
    show Go p e below _ (T3.setTop (mkF m 20 #[.val (.int i0), .val (.int (0 : Int32)), .unset, .unset] [(.int (2 : Int32)), (.ref b1), (.ref b1)]))
    refine Go.st (fun t k => XS.iconst X3.here hx rfl (hb hby at_20) k) ?_
    show Go p e below _ (T3.setTop (mkF m 21 #[.val (.int i0), .val (.int (0 : Int32)), .unset, .unset] [(.int (1 : Int32)), (.int (2 : Int32)), (.ref b1), (.ref b1)]))
    obtain ⟨cl4, Ar4, q4, S4, M4, H4, G4⟩ := id V3
    have hin4 : ¬ ((2 : Int32) < 0 ∨ cl4.slots.size ≤ ((2 : Int32)).toNatClampNeg) := inb_of S4 ⟨by decide, by decide⟩
    obtain ⟨T4, h4, X4, e4, W4, st4⟩ := stZ X3 hx hZ e3 Ar4 (j := (2 : Int32)) hin4 (g := (mkF m 21 #[.val (.int i0), .val (.int (0 : Int32)), .unset, .unset] [(.int (1 : Int32)), (.int (2 : Int32)), (.ref b1), (.ref b1)])) rfl rfl (hb hby at_21)
    have V4 : Arv Z h4 b1 k1 .boolean (5 : Int32) [(.int (0 : Int32)), (.int (1 : Int32)), (.int (1 : Int32)), (.int (0 : Int32)), (.int (0 : Int32))] (.int (0 : Int32)) := Arv.set Ar4 q4 S4 M4 H4 G4 (by decide) W4 2 rfl (Nat.le_of_ble_eq_true rfl)
    have N4 := Fr.snoc X4 N3 g_b1
    have O4 : Old Z n0 h4 := O3.wr W4 g_b1
    refine Go.st st4 ?_
    show Go p e below _ (T4.setTop (mkF m 22 #[.val (.int i0), .val (.int (0 : Int32)), .unset, .unset] [(.ref b1)]))
    refine Go.st (fun t k => XS.dup X4.here hx rfl (hb hby at_22) rfl rfl k) ?_
    show Go p e below _ (T4.setTop (mkF m 23 #[.val (.int i0), .val (.int (0 : Int32)), .unset, .unset] [(.ref b1), (.ref b1)]))
    refine Go.st (fun t k => XS.iconst X4.here hx rfl (hb hby at_23) k) ?_
    show Go p e below _ (T4.setTop (mkF m 24 #[.val (.int i0), .val (.int (0 : Int32)), .unset, .unset] [(.int (3 : Int32)), (.ref b1), (.ref b1)]))
    refine Go.st (fun t k => XS.iconst X4.here hx rfl (hb hby at_24) k) ?_
    show Go p e below _ (T4.setTop (mkF m 25 #[.val (.int i0), .val (.int (0 : Int32)), .unset, .unset] [(.int (0 : Int32)), (.int (3 : Int32)), (.ref b1), (.ref b1)]))
    obtain ⟨cl5, Ar5, q5, S5, M5, H5, G5⟩ := id V4
    have hin5 : ¬ ((3 : Int32) < 0 ∨ cl5.slots.size ≤ ((3 : Int32)).toNatClampNeg) := inb_of S5 ⟨by decide, by decide⟩
    obtain ⟨T5, h5, X5, e5, W5, st5⟩ := stZ X4 hx hZ e4 Ar5 (j := (3 : Int32)) hin5 (g := (mkF m 25 #[.val (.int i0), .val (.int (0 : Int32)), .unset, .unset] [(.int (0 : Int32)), (.int (3 : Int32)), (.ref b1), (.ref b1)])) rfl rfl (hb hby at_25)
    have V5 : Arv Z h5 b1 k1 .boolean (5 : Int32) [(.int (0 : Int32)), (.int (1 : Int32)), (.int (1 : Int32)), (.int (0 : Int32)), (.int (0 : Int32))] (.int (0 : Int32)) := Arv.set Ar5 q5 S5 M5 H5 G5 (by decide) W5 3 rfl (Nat.le_of_ble_eq_true rfl)
    have N5 := Fr.snoc X5 N4 g_b1
    have O5 : Old Z n0 h5 := O4.wr W5 g_b1
    refine Go.st st5 ?_
    show Go p e below _ (T5.setTop (mkF m 26 #[.val (.int i0), .val (.int (0 : Int32)), .unset, .unset] [(.ref b1)]))
    refine Go.st (fun t k => XS.dup X5.here hx rfl (hb hby at_26) rfl rfl k) ?_
    show Go p e below _ (T5.setTop (mkF m 27 #[.val (.int i0), .val (.int (0 : Int32)), .unset, .unset] [(.ref b1), (.ref b1)]))
    refine Go.st (fun t k => XS.iconst X5.here hx rfl (hb hby at_27) k) ?_
    show Go p e below _ (T5.setTop (mkF m 28 #[.val (.int i0), .val (.int (0 : Int32)), .unset, .unset] [(.int (4 : Int32)), (.ref b1), (.ref b1)]))
    refine Go.st (fun t k => XS.iconst X5.here hx rfl (hb hby at_28) k) ?_
    show Go p e below _ (T5.setTop (mkF m 29 #[.val (.int i0), .val (.int (0 : Int32)), .unset, .unset] [(.int (0 : Int32)), (.int (4 : Int32)), (.ref b1), (.ref b1)]))
    obtain ⟨cl6, Ar6, q6, S6, M6, H6, G6⟩ := id V5
    have hin6 : ¬ ((4 : Int32) < 0 ∨ cl6.slots.size ≤ ((4 : Int32)).toNatClampNeg) := inb_of S6 ⟨by decide, by decide⟩
    obtain ⟨T6, h6, X6, e6, W6, st6⟩ := stZ X5 hx hZ e5 Ar6 (j := (4 : Int32)) hin6 (g := (mkF m 29 #[.val (.int i0), .val (.int (0 : Int32)), .unset, .unset] [(.int (0 : Int32)), (.int (4 : Int32)), (.ref b1), (.ref b1)])) rfl rfl (hb hby at_29)
    have V6 : Arv Z h6 b1 k1 .boolean (5 : Int32) [(.int (0 : Int32)), (.int (1 : Int32)), (.int (1 : Int32)), (.int (0 : Int32)), (.int (0 : Int32))] (.int (0 : Int32)) := Arv.set Ar6 q6 S6 M6 H6 G6 (by decide) W6 4 rfl (Nat.le_of_ble_eq_true rfl)
    have N6 := Fr.snoc X6 N5 g_b1
    have O6 : Old Z n0 h6 := O5.wr W6 g_b1
    refine Go.st st6 ?_
    show Go p e below _ (T6.setTop (mkF m 30 #[.val (.int i0), .val (.int (0 : Int32)), .unset, .unset] [(.ref b1)]))
    refine Go.st (fun t k => XS.astoreN X6.here hx rfl (hb hby at_30) rfl rfl (l' := #[.val (.int i0), .val (.int (0 : Int32)), .val (.ref b1), .unset]) rfl k) ?_
    show Go p e below _ (T6.setTop (mkF m 31 #[.val (.int i0), .val (.int (0 : Int32)), .val (.ref b1), .unset] []))
    refine Go.st (fun t k => XS.iloadN X6.here hx rfl (hb hby at_31) rfl k) ?_
    show Go p e below _ (T6.setTop (mkF m 32 #[.val (.int i0), .val (.int (0 : Int32)), .val (.ref b1), .unset] [(.int (0 : Int32))]))
    obtain ⟨_, _, ⟨T7, L7, k7, n7⟩, -, X7, ⟨Lc7, hQ7, l7, y7, z7⟩, st7⟩ := Jvm.LawKit.callS X6 hx (y := (⟨"com/example/lease/lease/store/OutcomeIsFailurePinLaw", "pick", "(I)Lcom/example/lease/lease/store/Outcome;"⟩ : MethodName)) hown (mvT hZ (w2 hw)) (mvT hZ (w3 hw)) (mvT hZ (w4 hw)) (mvT hZ (w5 hw)) (by decide) (backOf (W := 0) (rm1_1 l Z a0 hw [] w19a h6 n0 O6 Y21) hZ (w5 hw) (w4 hw) (by decide) (by decide)) (g := (mkF m 32 #[.val (.int i0), .val (.int (0 : Int32)), .val (.ref b1), .unset] [(.int (0 : Int32))])) rfl (by rw [hml]; rfl) (argsL := [(.int (0 : Int32))]) (rest := []) (lenOf pd_0 rfl) rfl (by show 2 * 0 + _ ≤ _; exact Nat.le_of_eq rfl) (hb hby at_32) (fun vm₁ hw₁ => ⟨rfl, e6, (by decide : 1 + 0 ≤ _), (by decide : 5 + 0 ≤ _)⟩)
    dsimp only [Pt.U, Pt.locs, Pt.cells, Pt.slots] at X7 l7 y7 z7 st7 hQ7
    subst l7 y7 z7
    obtain ⟨rfl, M7, eh7⟩ := hQ7
    have N7 := Fr.app N6 M7
    refine Go.st st7 ?_
    show Go p e below _ (T7.setTop (mkF m 35 #[.val (.int i0), .val (.int (0 : Int32)), .val (.ref b1), .unset] [(.ref w19a)]))
    refine Go.st (fun t k => XS.astoreN X7.here hx rfl (hb hby at_35) rfl rfl (l' := #[.val (.int i0), .val (.int (0 : Int32)), .val (.ref b1), .val (.ref w19a)]) rfl k) ?_
    show Go p e below _ (T7.setTop (mkF m 36 #[.val (.int i0), .val (.int (0 : Int32)), .val (.ref b1), .val (.ref w19a)] []))
    refine Go.st (fun t k => XS.aloadN X7.here hx rfl (hb hby at_36) rfl rfl k) ?_
    show Go p e below _ (T7.setTop (mkF m 37 #[.val (.int i0), .val (.int (0 : Int32)), .val (.ref b1), .val (.ref w19a)] [(.ref w19a)]))
    obtain ⟨cq8, kq8, q8a, q8b, q8c⟩ := isOf hZ eh7 (Y22.ext O6.2)
    obtain ⟨_, _, ⟨T8, L8, k8, n8⟩, -, X8, ⟨Lc8, hQ8, l8, y8, z8⟩, st8⟩ := X7.virtualBack hx (y := (⟨"com/example/lease/lease/store/Outcome", "isFailure", "()Z"⟩ : MethodName)) (z := (⟨"com/example/lease/lease/store/Outcome", "isFailure", "()Z"⟩ : MethodName)) hown (mvT hZ (w9 hw)) (mvT hZ (w10 hw)) (notFace_of_selects (args := #[]) (mvT hZ (w12 hw))) (mvT hZ (w12 hw)) (mvT hZ (w11 hw)) (by decide) (backOf (W := 0) (rm2_1 l Z a0 hw [] w19a w23a w27a h6 n0 O6 Y25 D49 Y29 D50) hZ (w13 hw) (w7 hw) (by decide) (by decide)) q8a q8c (g := (mkF m 37 #[.val (.int i0), .val (.int (0 : Int32)), .val (.ref b1), .val (.ref w19a)] [(.ref w19a)])) rfl (by rw [hml]; rfl) (Steps.refl _) (argsL := []) (rest := []) (lenOf pd_1 rfl) rfl (by show 2 * 0 + _ ≤ _; exact Nat.le_of_eq rfl) (hb hby at_37) (fun vm₁ hw₁ => ⟨rfl, eh7, (by decide : 1 + 0 ≤ _), (by decide : 5 + 0 ≤ _)⟩)
    dsimp only [Pt.U, Pt.locs, Pt.cells, Pt.slots] at X8 l8 y8 z8 st8 hQ8
    subst l8 y8 z8
    obtain ⟨rfl, M8, eh8⟩ := hQ8
    have N8 := Fr.app N7 M8
    refine Go.tr st8 ?_
    show Go p e below _ (T8.setTop (mkF m 40 #[.val (.int i0), .val (.int (0 : Int32)), .val (.ref b1), .val (.ref w19a)] [(.int (0 : Int32))]))
    refine Go.st (fun t k => XS.aloadN X8.here hx rfl (hb hby at_40) rfl rfl k) ?_
    show Go p e below _ (T8.setTop (mkF m 41 #[.val (.int i0), .val (.int (0 : Int32)), .val (.ref b1), .val (.ref w19a)] [(.ref b1), (.int (0 : Int32))]))
    refine Go.st (fun t k => XS.iloadN X8.here hx rfl (hb hby at_41) rfl k) ?_
    show Go p e below _ (T8.setTop (mkF m 42 #[.val (.int i0), .val (.int (0 : Int32)), .val (.ref b1), .val (.ref w19a)] [(.int (0 : Int32)), (.ref b1), (.int (0 : Int32))]))
    obtain ⟨cl9, Ar9, q9, S9, M9, H9, G9⟩ := id V6
    have hin9 : ¬ ((0 : Int32) < 0 ∨ cl9.slots.size ≤ ((0 : Int32)).toNatClampNeg) := inb_of S9 ⟨by decide, by decide⟩
    have hat9 : cl9.slots[((0 : Int32)).toNatClampNeg]? = some (.int (0 : Int32)) := H9.at hin9 rfl
    refine Go.st (fun t k => X8.baloadBooleans hx (j := (0 : Int32)) (v := (.int (0 : Int32))) (by rw [eh8]; exact Ar9.1) (State.isArrayOf_alike hZ.alike Ar9.2.1) Ar9.2.2 hin9 hat9 (g := (mkF m 42 #[.val (.int i0), .val (.int (0 : Int32)), .val (.ref b1), .val (.ref w19a)] [(.int (0 : Int32)), (.ref b1), (.int (0 : Int32))])) rfl rfl (hb hby at_42) t k) ?_
    show Go p e below _ (T8.setTop (mkF m 43 #[.val (.int i0), .val (.int (0 : Int32)), .val (.ref b1), .val (.ref w19a)] [(.int (0 : Int32)), (.int (0 : Int32))]))
    refine Go.st (fun t k => XS.icmpNo X8.here hx rfl (hb hby at_43) rfl (Jvm.Free.XT.ii_ne_f (by decide : (0 : Int32) = (0 : Int32))) k) ?_
    show Go p e below _ (T8.setTop (mkF m 46 #[.val (.int i0), .val (.int (0 : Int32)), .val (.ref b1), .val (.ref w19a)] []))
    refine Go.st (fun t k => XS.iconst X8.here hx rfl (hb hby at_46) k) ?_
    show Go p e below _ (T8.setTop (mkF m 47 #[.val (.int i0), .val (.int (0 : Int32)), .val (.ref b1), .val (.ref w19a)] [(.int (1 : Int32))]))
    refine Go.st (fun t k => XS.goto X8.here hx rfl (pc0 := 47) (pc' := 51) rfl (hb hby at_47) (by decide) (by decide) k) ?_
    show Go p e below _ (T8.setTop (mkF m 51 #[.val (.int i0), .val (.int (0 : Int32)), .val (.ref b1), .val (.ref w19a)] [(.int (1 : Int32))]))
    obtain ⟨fs, hr, hrun, hended, hWd, hsame⟩ := X8.leave (v := some (.int (1 : Int32))) (fun h => by rw [Bd.returns] at h; cases h)
    refine ⟨_, _, ?_, hrun, hended, _, _, rfl, ?_, ⟨⟨_, rfl⟩, hWd, hsame.mono (by decide) (by decide)⟩⟩
    · exact retN X8 hx (t := .boolean) Bd.returns (by simp) (hb hby at_51) hr
    · exact ⟨rfl, N8⟩
  · rw [hq]
    show Go p e below _ (s₁.setTop (mkF m 6 #[.val (.int i0), .unset, .unset, .unset] [(.int (1 : Int32))]))
    refine Go.st (fun t k => XS.istoreN X0.here hx rfl (hb hby at_6) rfl (l' := #[.val (.int i0), .val (.int (1 : Int32)), .unset, .unset]) rfl k) ?_
    show Go p e below _ (s₁.setTop (mkF m 7 #[.val (.int i0), .val (.int (1 : Int32)), .unset, .unset] []))
    refine Go.st (fun t k => XS.iconst X0.here hx rfl (hb hby at_7) k) ?_
    show Go p e below _ (s₁.setTop (mkF m 8 #[.val (.int i0), .val (.int (1 : Int32)), .unset, .unset] [(.int (5 : Int32))]))
    obtain ⟨T10, h10, k10, X10, e10, E10, A10, st10⟩ := newP X0 hx hZ (aty := .boolean) (w1 hw) e0 (g := (mkF m 8 #[.val (.int i0), .val (.int (1 : Int32)), .unset, .unset] [(.int (5 : Int32))])) rfl (hb hby at_8) rfl (by decide) (cap := 5) (by decide) (by decide) (by decide) (by decide)
    obtain ⟨b10, z10⟩ : ∃ z, z = h0.size := ⟨_, rfl⟩
    rw [← z10] at A10 st10
    have g_b10 : n0 ≤ b10 := Nat.le_trans (own_n0 O0) (Nat.le_of_eq z10.symm)
    have V10 : Arv Z h10 b10 k10 .boolean (5 : Int32) [(.int (0 : Int32)), (.int (0 : Int32)), (.int (0 : Int32)), (.int (0 : Int32)), (.int (0 : Int32))] (.int (0 : Int32)) := (Arv.new A10 (by decide)).pad (pad_rep [] (.int (0 : Int32)) 5)
    have O10 : Old Z n0 h10 := O0.ext E10
    refine Go.st st10 ?_
    show Go p e below _ (T10.setTop (mkF m 10 #[.val (.int i0), .val (.int (1 : Int32)), .unset, .unset] [(.ref b10)]))
    refine Go.st (fun t k => XS.dup X10.here hx rfl (hb hby at_10) rfl rfl k) ?_
    show Go p e below _ (T10.setTop (mkF m 11 #[.val (.int i0), .val (.int (1 : Int32)), .unset, .unset] [(.ref b10), (.ref b10)]))
    refine Go.st (fun t k => XS.iconst X10.here hx rfl (hb hby at_11) k) ?_
    show Go p e below _ (T10.setTop (mkF m 12 #[.val (.int i0), .val (.int (1 : Int32)), .unset, .unset] [(.int (0 : Int32)), (.ref b10), (.ref b10)]))
    refine Go.st (fun t k => XS.iconst X10.here hx rfl (hb hby at_12) k) ?_
    show Go p e below _ (T10.setTop (mkF m 13 #[.val (.int i0), .val (.int (1 : Int32)), .unset, .unset] [(.int (0 : Int32)), (.int (0 : Int32)), (.ref b10), (.ref b10)]))
    obtain ⟨cl11, Ar11, q11, S11, M11, H11, G11⟩ := id V10
    have hin11 : ¬ ((0 : Int32) < 0 ∨ cl11.slots.size ≤ ((0 : Int32)).toNatClampNeg) := inb_of S11 ⟨by decide, by decide⟩
    obtain ⟨T11, h11, X11, e11, W11, st11⟩ := stZ X10 hx hZ e10 Ar11 (j := (0 : Int32)) hin11 (g := (mkF m 13 #[.val (.int i0), .val (.int (1 : Int32)), .unset, .unset] [(.int (0 : Int32)), (.int (0 : Int32)), (.ref b10), (.ref b10)])) rfl rfl (hb hby at_13)
    have V11 : Arv Z h11 b10 k10 .boolean (5 : Int32) [(.int (0 : Int32)), (.int (0 : Int32)), (.int (0 : Int32)), (.int (0 : Int32)), (.int (0 : Int32))] (.int (0 : Int32)) := Arv.set Ar11 q11 S11 M11 H11 G11 (by decide) W11 0 rfl (Nat.le_of_ble_eq_true rfl)
    have N11 := Fr.snoc X11 N0 g_b10
    have O11 : Old Z n0 h11 := O10.wr W11 g_b10
    refine Go.st st11 ?_
    show Go p e below _ (T11.setTop (mkF m 14 #[.val (.int i0), .val (.int (1 : Int32)), .unset, .unset] [(.ref b10)]))
    refine Go.st (fun t k => XS.dup X11.here hx rfl (hb hby at_14) rfl rfl k) ?_
    show Go p e below _ (T11.setTop (mkF m 15 #[.val (.int i0), .val (.int (1 : Int32)), .unset, .unset] [(.ref b10), (.ref b10)]))
    refine Go.st (fun t k => XS.iconst X11.here hx rfl (hb hby at_15) k) ?_
    show Go p e below _ (T11.setTop (mkF m 16 #[.val (.int i0), .val (.int (1 : Int32)), .unset, .unset] [(.int (1 : Int32)), (.ref b10), (.ref b10)]))
    refine Go.st (fun t k => XS.iconst X11.here hx rfl (hb hby at_16) k) ?_
    show Go p e below _ (T11.setTop (mkF m 17 #[.val (.int i0), .val (.int (1 : Int32)), .unset, .unset] [(.int (1 : Int32)), (.int (1 : Int32)), (.ref b10), (.ref b10)]))
    obtain ⟨cl12, Ar12, q12, S12, M12, H12, G12⟩ := id V11
    have hin12 : ¬ ((1 : Int32) < 0 ∨ cl12.slots.size ≤ ((1 : Int32)).toNatClampNeg) := inb_of S12 ⟨by decide, by decide⟩
    obtain ⟨T12, h12, X12, e12, W12, st12⟩ := stZ X11 hx hZ e11 Ar12 (j := (1 : Int32)) hin12 (g := (mkF m 17 #[.val (.int i0), .val (.int (1 : Int32)), .unset, .unset] [(.int (1 : Int32)), (.int (1 : Int32)), (.ref b10), (.ref b10)])) rfl rfl (hb hby at_17)
    have V12 : Arv Z h12 b10 k10 .boolean (5 : Int32) [(.int (0 : Int32)), (.int (1 : Int32)), (.int (0 : Int32)), (.int (0 : Int32)), (.int (0 : Int32))] (.int (0 : Int32)) := Arv.set Ar12 q12 S12 M12 H12 G12 (by decide) W12 1 rfl (Nat.le_of_ble_eq_true rfl)
    have N12 := Fr.snoc X12 N11 g_b10
    have O12 : Old Z n0 h12 := O11.wr W12 g_b10
    refine Go.st st12 ?_
    show Go p e below _ (T12.setTop (mkF m 18 #[.val (.int i0), .val (.int (1 : Int32)), .unset, .unset] [(.ref b10)]))
    refine Go.st (fun t k => XS.dup X12.here hx rfl (hb hby at_18) rfl rfl k) ?_
    show Go p e below _ (T12.setTop (mkF m 19 #[.val (.int i0), .val (.int (1 : Int32)), .unset, .unset] [(.ref b10), (.ref b10)]))
    refine Go.st (fun t k => XS.iconst X12.here hx rfl (hb hby at_19) k) ?_
    show Go p e below _ (T12.setTop (mkF m 20 #[.val (.int i0), .val (.int (1 : Int32)), .unset, .unset] [(.int (2 : Int32)), (.ref b10), (.ref b10)]))
    refine Go.st (fun t k => XS.iconst X12.here hx rfl (hb hby at_20) k) ?_
    show Go p e below _ (T12.setTop (mkF m 21 #[.val (.int i0), .val (.int (1 : Int32)), .unset, .unset] [(.int (1 : Int32)), (.int (2 : Int32)), (.ref b10), (.ref b10)]))
    obtain ⟨cl13, Ar13, q13, S13, M13, H13, G13⟩ := id V12
    have hin13 : ¬ ((2 : Int32) < 0 ∨ cl13.slots.size ≤ ((2 : Int32)).toNatClampNeg) := inb_of S13 ⟨by decide, by decide⟩
    obtain ⟨T13, h13, X13, e13, W13, st13⟩ := stZ X12 hx hZ e12 Ar13 (j := (2 : Int32)) hin13 (g := (mkF m 21 #[.val (.int i0), .val (.int (1 : Int32)), .unset, .unset] [(.int (1 : Int32)), (.int (2 : Int32)), (.ref b10), (.ref b10)])) rfl rfl (hb hby at_21)
    have V13 : Arv Z h13 b10 k10 .boolean (5 : Int32) [(.int (0 : Int32)), (.int (1 : Int32)), (.int (1 : Int32)), (.int (0 : Int32)), (.int (0 : Int32))] (.int (0 : Int32)) := Arv.set Ar13 q13 S13 M13 H13 G13 (by decide) W13 2 rfl (Nat.le_of_ble_eq_true rfl)
    have N13 := Fr.snoc X13 N12 g_b10
    have O13 : Old Z n0 h13 := O12.wr W13 g_b10
    refine Go.st st13 ?_
    show Go p e below _ (T13.setTop (mkF m 22 #[.val (.int i0), .val (.int (1 : Int32)), .unset, .unset] [(.ref b10)]))
    refine Go.st (fun t k => XS.dup X13.here hx rfl (hb hby at_22) rfl rfl k) ?_
    show Go p e below _ (T13.setTop (mkF m 23 #[.val (.int i0), .val (.int (1 : Int32)), .unset, .unset] [(.ref b10), (.ref b10)]))
    refine Go.st (fun t k => XS.iconst X13.here hx rfl (hb hby at_23) k) ?_
    show Go p e below _ (T13.setTop (mkF m 24 #[.val (.int i0), .val (.int (1 : Int32)), .unset, .unset] [(.int (3 : Int32)), (.ref b10), (.ref b10)]))
    refine Go.st (fun t k => XS.iconst X13.here hx rfl (hb hby at_24) k) ?_
    show Go p e below _ (T13.setTop (mkF m 25 #[.val (.int i0), .val (.int (1 : Int32)), .unset, .unset] [(.int (0 : Int32)), (.int (3 : Int32)), (.ref b10), (.ref b10)]))
    obtain ⟨cl14, Ar14, q14, S14, M14, H14, G14⟩ := id V13
    have hin14 : ¬ ((3 : Int32) < 0 ∨ cl14.slots.size ≤ ((3 : Int32)).toNatClampNeg) := inb_of S14 ⟨by decide, by decide⟩
    obtain ⟨T14, h14, X14, e14, W14, st14⟩ := stZ X13 hx hZ e13 Ar14 (j := (3 : Int32)) hin14 (g := (mkF m 25 #[.val (.int i0), .val (.int (1 : Int32)), .unset, .unset] [(.int (0 : Int32)), (.int (3 : Int32)), (.ref b10), (.ref b10)])) rfl rfl (hb hby at_25)
    have V14 : Arv Z h14 b10 k10 .boolean (5 : Int32) [(.int (0 : Int32)), (.int (1 : Int32)), (.int (1 : Int32)), (.int (0 : Int32)), (.int (0 : Int32))] (.int (0 : Int32)) := Arv.set Ar14 q14 S14 M14 H14 G14 (by decide) W14 3 rfl (Nat.le_of_ble_eq_true rfl)
    have N14 := Fr.snoc X14 N13 g_b10
    have O14 : Old Z n0 h14 := O13.wr W14 g_b10
    refine Go.st st14 ?_
    show Go p e below _ (T14.setTop (mkF m 26 #[.val (.int i0), .val (.int (1 : Int32)), .unset, .unset] [(.ref b10)]))
    refine Go.st (fun t k => XS.dup X14.here hx rfl (hb hby at_26) rfl rfl k) ?_
    show Go p e below _ (T14.setTop (mkF m 27 #[.val (.int i0), .val (.int (1 : Int32)), .unset, .unset] [(.ref b10), (.ref b10)]))
    refine Go.st (fun t k => XS.iconst X14.here hx rfl (hb hby at_27) k) ?_
    show Go p e below _ (T14.setTop (mkF m 28 #[.val (.int i0), .val (.int (1 : Int32)), .unset, .unset] [(.int (4 : Int32)), (.ref b10), (.ref b10)]))
    refine Go.st (fun t k => XS.iconst X14.here hx rfl (hb hby at_28) k) ?_
    show Go p e below _ (T14.setTop (mkF m 29 #[.val (.int i0), .val (.int (1 : Int32)), .unset, .unset] [(.int (0 : Int32)), (.int (4 : Int32)), (.ref b10), (.ref b10)]))
    obtain ⟨cl15, Ar15, q15, S15, M15, H15, G15⟩ := id V14
    have hin15 : ¬ ((4 : Int32) < 0 ∨ cl15.slots.size ≤ ((4 : Int32)).toNatClampNeg) := inb_of S15 ⟨by decide, by decide⟩
    obtain ⟨T15, h15, X15, e15, W15, st15⟩ := stZ X14 hx hZ e14 Ar15 (j := (4 : Int32)) hin15 (g := (mkF m 29 #[.val (.int i0), .val (.int (1 : Int32)), .unset, .unset] [(.int (0 : Int32)), (.int (4 : Int32)), (.ref b10), (.ref b10)])) rfl rfl (hb hby at_29)
    have V15 : Arv Z h15 b10 k10 .boolean (5 : Int32) [(.int (0 : Int32)), (.int (1 : Int32)), (.int (1 : Int32)), (.int (0 : Int32)), (.int (0 : Int32))] (.int (0 : Int32)) := Arv.set Ar15 q15 S15 M15 H15 G15 (by decide) W15 4 rfl (Nat.le_of_ble_eq_true rfl)
    have N15 := Fr.snoc X15 N14 g_b10
    have O15 : Old Z n0 h15 := O14.wr W15 g_b10
    refine Go.st st15 ?_
    show Go p e below _ (T15.setTop (mkF m 30 #[.val (.int i0), .val (.int (1 : Int32)), .unset, .unset] [(.ref b10)]))
    refine Go.st (fun t k => XS.astoreN X15.here hx rfl (hb hby at_30) rfl rfl (l' := #[.val (.int i0), .val (.int (1 : Int32)), .val (.ref b10), .unset]) rfl k) ?_
    show Go p e below _ (T15.setTop (mkF m 31 #[.val (.int i0), .val (.int (1 : Int32)), .val (.ref b10), .unset] []))
    refine Go.st (fun t k => XS.iloadN X15.here hx rfl (hb hby at_31) rfl k) ?_
    show Go p e below _ (T15.setTop (mkF m 32 #[.val (.int i0), .val (.int (1 : Int32)), .val (.ref b10), .unset] [(.int (1 : Int32))]))
    obtain ⟨_, _, ⟨T16, L16, k16, n16⟩, -, X16, ⟨Lc16, hQ16, l16, y16, z16⟩, st16⟩ := Jvm.LawKit.callS X15 hx (y := (⟨"com/example/lease/lease/store/OutcomeIsFailurePinLaw", "pick", "(I)Lcom/example/lease/lease/store/Outcome;"⟩ : MethodName)) hown (mvT hZ (w2 hw)) (mvT hZ (w3 hw)) (mvT hZ (w4 hw)) (mvT hZ (w5 hw)) (by decide) (backOf (W := 0) (rm1_2 l Z a0 hw [] w23a h15 n0 O15 Y25) hZ (w5 hw) (w4 hw) (by decide) (by decide)) (g := (mkF m 32 #[.val (.int i0), .val (.int (1 : Int32)), .val (.ref b10), .unset] [(.int (1 : Int32))])) rfl (by rw [hml]; rfl) (argsL := [(.int (1 : Int32))]) (rest := []) (lenOf pd_0 rfl) rfl (by show 2 * 0 + _ ≤ _; exact Nat.le_of_eq rfl) (hb hby at_32) (fun vm₁ hw₁ => ⟨rfl, e15, (by decide : 1 + 0 ≤ _), (by decide : 5 + 0 ≤ _)⟩)
    dsimp only [Pt.U, Pt.locs, Pt.cells, Pt.slots] at X16 l16 y16 z16 st16 hQ16
    subst l16 y16 z16
    obtain ⟨rfl, M16, eh16⟩ := hQ16
    have N16 := Fr.app N15 M16
    refine Go.st st16 ?_
    show Go p e below _ (T16.setTop (mkF m 35 #[.val (.int i0), .val (.int (1 : Int32)), .val (.ref b10), .unset] [(.ref w23a)]))
    refine Go.st (fun t k => XS.astoreN X16.here hx rfl (hb hby at_35) rfl rfl (l' := #[.val (.int i0), .val (.int (1 : Int32)), .val (.ref b10), .val (.ref w23a)]) rfl k) ?_
    show Go p e below _ (T16.setTop (mkF m 36 #[.val (.int i0), .val (.int (1 : Int32)), .val (.ref b10), .val (.ref w23a)] []))
    refine Go.st (fun t k => XS.aloadN X16.here hx rfl (hb hby at_36) rfl rfl k) ?_
    show Go p e below _ (T16.setTop (mkF m 37 #[.val (.int i0), .val (.int (1 : Int32)), .val (.ref b10), .val (.ref w23a)] [(.ref w23a)]))
    obtain ⟨cq17, kq17, q17a, q17b, q17c⟩ := isOf hZ eh16 (Y26.ext O15.2)
    obtain ⟨_, _, ⟨T17, L17, k17, n17⟩, -, X17, ⟨Lc17, hQ17, l17, y17, z17⟩, st17⟩ := X16.virtualBack hx (y := (⟨"com/example/lease/lease/store/Outcome", "isFailure", "()Z"⟩ : MethodName)) (z := (⟨"com/example/lease/lease/store/Outcome", "isFailure", "()Z"⟩ : MethodName)) hown (mvT hZ (w9 hw)) (mvT hZ (w10 hw)) (notFace_of_selects (args := #[]) (mvT hZ (w12 hw))) (mvT hZ (w12 hw)) (mvT hZ (w11 hw)) (by decide) (backOf (W := 0) (rm2_2 l Z a0 hw [] w23a h15 n0 O15 Y25) hZ (w13 hw) (w7 hw) (by decide) (by decide)) q17a q17c (g := (mkF m 37 #[.val (.int i0), .val (.int (1 : Int32)), .val (.ref b10), .val (.ref w23a)] [(.ref w23a)])) rfl (by rw [hml]; rfl) (Steps.refl _) (argsL := []) (rest := []) (lenOf pd_1 rfl) rfl (by show 2 * 0 + _ ≤ _; exact Nat.le_of_eq rfl) (hb hby at_37) (fun vm₁ hw₁ => ⟨rfl, eh16, (by decide : 1 + 0 ≤ _), (by decide : 5 + 0 ≤ _)⟩)
    dsimp only [Pt.U, Pt.locs, Pt.cells, Pt.slots] at X17 l17 y17 z17 st17 hQ17
    subst l17 y17 z17
    obtain ⟨rfl, M17, eh17⟩ := hQ17
    have N17 := Fr.app N16 M17
    refine Go.tr st17 ?_
    show Go p e below _ (T17.setTop (mkF m 40 #[.val (.int i0), .val (.int (1 : Int32)), .val (.ref b10), .val (.ref w23a)] [(.int (1 : Int32))]))
    refine Go.st (fun t k => XS.aloadN X17.here hx rfl (hb hby at_40) rfl rfl k) ?_
    show Go p e below _ (T17.setTop (mkF m 41 #[.val (.int i0), .val (.int (1 : Int32)), .val (.ref b10), .val (.ref w23a)] [(.ref b10), (.int (1 : Int32))]))
    refine Go.st (fun t k => XS.iloadN X17.here hx rfl (hb hby at_41) rfl k) ?_
    show Go p e below _ (T17.setTop (mkF m 42 #[.val (.int i0), .val (.int (1 : Int32)), .val (.ref b10), .val (.ref w23a)] [(.int (1 : Int32)), (.ref b10), (.int (1 : Int32))]))
    obtain ⟨cl18, Ar18, q18, S18, M18, H18, G18⟩ := id V15
    have hin18 : ¬ ((1 : Int32) < 0 ∨ cl18.slots.size ≤ ((1 : Int32)).toNatClampNeg) := inb_of S18 ⟨by decide, by decide⟩
    have hat18 : cl18.slots[((1 : Int32)).toNatClampNeg]? = some (.int (1 : Int32)) := H18.at hin18 rfl
    refine Go.st (fun t k => X17.baloadBooleans hx (j := (1 : Int32)) (v := (.int (1 : Int32))) (by rw [eh17]; exact Ar18.1) (State.isArrayOf_alike hZ.alike Ar18.2.1) Ar18.2.2 hin18 hat18 (g := (mkF m 42 #[.val (.int i0), .val (.int (1 : Int32)), .val (.ref b10), .val (.ref w23a)] [(.int (1 : Int32)), (.ref b10), (.int (1 : Int32))])) rfl rfl (hb hby at_42) t k) ?_
    show Go p e below _ (T17.setTop (mkF m 43 #[.val (.int i0), .val (.int (1 : Int32)), .val (.ref b10), .val (.ref w23a)] [(.int (1 : Int32)), (.int (1 : Int32))]))
    refine Go.st (fun t k => XS.icmpNo X17.here hx rfl (hb hby at_43) rfl (Jvm.Free.XT.ii_ne_f (by decide : (1 : Int32) = (1 : Int32))) k) ?_
    show Go p e below _ (T17.setTop (mkF m 46 #[.val (.int i0), .val (.int (1 : Int32)), .val (.ref b10), .val (.ref w23a)] []))
    refine Go.st (fun t k => XS.iconst X17.here hx rfl (hb hby at_46) k) ?_
    show Go p e below _ (T17.setTop (mkF m 47 #[.val (.int i0), .val (.int (1 : Int32)), .val (.ref b10), .val (.ref w23a)] [(.int (1 : Int32))]))
    refine Go.st (fun t k => XS.goto X17.here hx rfl (pc0 := 47) (pc' := 51) rfl (hb hby at_47) (by decide) (by decide) k) ?_
    show Go p e below _ (T17.setTop (mkF m 51 #[.val (.int i0), .val (.int (1 : Int32)), .val (.ref b10), .val (.ref w23a)] [(.int (1 : Int32))]))
    obtain ⟨fs, hr, hrun, hended, hWd, hsame⟩ := X17.leave (v := some (.int (1 : Int32))) (fun h => by rw [Bd.returns] at h; cases h)
    refine ⟨_, _, ?_, hrun, hended, _, _, rfl, ?_, ⟨⟨_, rfl⟩, hWd, hsame.mono (by decide) (by decide)⟩⟩
    · exact retN X17 hx (t := .boolean) Bd.returns (by simp) (hb hby at_51) hr
    · exact ⟨rfl, N17⟩
  · rw [hq]
    show Go p e below _ (s₁.setTop (mkF m 6 #[.val (.int i0), .unset, .unset, .unset] [(.int (2 : Int32))]))
    refine Go.st (fun t k => XS.istoreN X0.here hx rfl (hb hby at_6) rfl (l' := #[.val (.int i0), .val (.int (2 : Int32)), .unset, .unset]) rfl k) ?_
    show Go p e below _ (s₁.setTop (mkF m 7 #[.val (.int i0), .val (.int (2 : Int32)), .unset, .unset] []))
    refine Go.st (fun t k => XS.iconst X0.here hx rfl (hb hby at_7) k) ?_
    show Go p e below _ (s₁.setTop (mkF m 8 #[.val (.int i0), .val (.int (2 : Int32)), .unset, .unset] [(.int (5 : Int32))]))
    obtain ⟨T19, h19, k19, X19, e19, E19, A19, st19⟩ := newP X0 hx hZ (aty := .boolean) (w1 hw) e0 (g := (mkF m 8 #[.val (.int i0), .val (.int (2 : Int32)), .unset, .unset] [(.int (5 : Int32))])) rfl (hb hby at_8) rfl (by decide) (cap := 5) (by decide) (by decide) (by decide) (by decide)
    obtain ⟨b19, z19⟩ : ∃ z, z = h0.size := ⟨_, rfl⟩
    rw [← z19] at A19 st19
    have g_b19 : n0 ≤ b19 := Nat.le_trans (own_n0 O0) (Nat.le_of_eq z19.symm)
    have V19 : Arv Z h19 b19 k19 .boolean (5 : Int32) [(.int (0 : Int32)), (.int (0 : Int32)), (.int (0 : Int32)), (.int (0 : Int32)), (.int (0 : Int32))] (.int (0 : Int32)) := (Arv.new A19 (by decide)).pad (pad_rep [] (.int (0 : Int32)) 5)
    have O19 : Old Z n0 h19 := O0.ext E19
    refine Go.st st19 ?_
    show Go p e below _ (T19.setTop (mkF m 10 #[.val (.int i0), .val (.int (2 : Int32)), .unset, .unset] [(.ref b19)]))
    refine Go.st (fun t k => XS.dup X19.here hx rfl (hb hby at_10) rfl rfl k) ?_
    show Go p e below _ (T19.setTop (mkF m 11 #[.val (.int i0), .val (.int (2 : Int32)), .unset, .unset] [(.ref b19), (.ref b19)]))
    refine Go.st (fun t k => XS.iconst X19.here hx rfl (hb hby at_11) k) ?_
    show Go p e below _ (T19.setTop (mkF m 12 #[.val (.int i0), .val (.int (2 : Int32)), .unset, .unset] [(.int (0 : Int32)), (.ref b19), (.ref b19)]))
    refine Go.st (fun t k => XS.iconst X19.here hx rfl (hb hby at_12) k) ?_
    show Go p e below _ (T19.setTop (mkF m 13 #[.val (.int i0), .val (.int (2 : Int32)), .unset, .unset] [(.int (0 : Int32)), (.int (0 : Int32)), (.ref b19), (.ref b19)]))
    obtain ⟨cl20, Ar20, q20, S20, M20, H20, G20⟩ := id V19
    have hin20 : ¬ ((0 : Int32) < 0 ∨ cl20.slots.size ≤ ((0 : Int32)).toNatClampNeg) := inb_of S20 ⟨by decide, by decide⟩
    obtain ⟨T20, h20, X20, e20, W20, st20⟩ := stZ X19 hx hZ e19 Ar20 (j := (0 : Int32)) hin20 (g := (mkF m 13 #[.val (.int i0), .val (.int (2 : Int32)), .unset, .unset] [(.int (0 : Int32)), (.int (0 : Int32)), (.ref b19), (.ref b19)])) rfl rfl (hb hby at_13)
    have V20 : Arv Z h20 b19 k19 .boolean (5 : Int32) [(.int (0 : Int32)), (.int (0 : Int32)), (.int (0 : Int32)), (.int (0 : Int32)), (.int (0 : Int32))] (.int (0 : Int32)) := Arv.set Ar20 q20 S20 M20 H20 G20 (by decide) W20 0 rfl (Nat.le_of_ble_eq_true rfl)
    have N20 := Fr.snoc X20 N0 g_b19
    have O20 : Old Z n0 h20 := O19.wr W20 g_b19
    refine Go.st st20 ?_
    show Go p e below _ (T20.setTop (mkF m 14 #[.val (.int i0), .val (.int (2 : Int32)), .unset, .unset] [(.ref b19)]))
    refine Go.st (fun t k => XS.dup X20.here hx rfl (hb hby at_14) rfl rfl k) ?_
    show Go p e below _ (T20.setTop (mkF m 15 #[.val (.int i0), .val (.int (2 : Int32)), .unset, .unset] [(.ref b19), (.ref b19)]))
    refine Go.st (fun t k => XS.iconst X20.here hx rfl (hb hby at_15) k) ?_
    show Go p e below _ (T20.setTop (mkF m 16 #[.val (.int i0), .val (.int (2 : Int32)), .unset, .unset] [(.int (1 : Int32)), (.ref b19), (.ref b19)]))
    refine Go.st (fun t k => XS.iconst X20.here hx rfl (hb hby at_16) k) ?_
    show Go p e below _ (T20.setTop (mkF m 17 #[.val (.int i0), .val (.int (2 : Int32)), .unset, .unset] [(.int (1 : Int32)), (.int (1 : Int32)), (.ref b19), (.ref b19)]))
    obtain ⟨cl21, Ar21, q21, S21, M21, H21, G21⟩ := id V20
    have hin21 : ¬ ((1 : Int32) < 0 ∨ cl21.slots.size ≤ ((1 : Int32)).toNatClampNeg) := inb_of S21 ⟨by decide, by decide⟩
    obtain ⟨T21, h21, X21, e21, W21, st21⟩ := stZ X20 hx hZ e20 Ar21 (j := (1 : Int32)) hin21 (g := (mkF m 17 #[.val (.int i0), .val (.int (2 : Int32)), .unset, .unset] [(.int (1 : Int32)), (.int (1 : Int32)), (.ref b19), (.ref b19)])) rfl rfl (hb hby at_17)
    have V21 : Arv Z h21 b19 k19 .boolean (5 : Int32) [(.int (0 : Int32)), (.int (1 : Int32)), (.int (0 : Int32)), (.int (0 : Int32)), (.int (0 : Int32))] (.int (0 : Int32)) := Arv.set Ar21 q21 S21 M21 H21 G21 (by decide) W21 1 rfl (Nat.le_of_ble_eq_true rfl)
    have N21 := Fr.snoc X21 N20 g_b19
    have O21 : Old Z n0 h21 := O20.wr W21 g_b19
    refine Go.st st21 ?_
    show Go p e below _ (T21.setTop (mkF m 18 #[.val (.int i0), .val (.int (2 : Int32)), .unset, .unset] [(.ref b19)]))
    refine Go.st (fun t k => XS.dup X21.here hx rfl (hb hby at_18) rfl rfl k) ?_
    show Go p e below _ (T21.setTop (mkF m 19 #[.val (.int i0), .val (.int (2 : Int32)), .unset, .unset] [(.ref b19), (.ref b19)]))
    refine Go.st (fun t k => XS.iconst X21.here hx rfl (hb hby at_19) k) ?_
    show Go p e below _ (T21.setTop (mkF m 20 #[.val (.int i0), .val (.int (2 : Int32)), .unset, .unset] [(.int (2 : Int32)), (.ref b19), (.ref b19)]))
    refine Go.st (fun t k => XS.iconst X21.here hx rfl (hb hby at_20) k) ?_
    show Go p e below _ (T21.setTop (mkF m 21 #[.val (.int i0), .val (.int (2 : Int32)), .unset, .unset] [(.int (1 : Int32)), (.int (2 : Int32)), (.ref b19), (.ref b19)]))
    obtain ⟨cl22, Ar22, q22, S22, M22, H22, G22⟩ := id V21
    have hin22 : ¬ ((2 : Int32) < 0 ∨ cl22.slots.size ≤ ((2 : Int32)).toNatClampNeg) := inb_of S22 ⟨by decide, by decide⟩
    obtain ⟨T22, h22, X22, e22, W22, st22⟩ := stZ X21 hx hZ e21 Ar22 (j := (2 : Int32)) hin22 (g := (mkF m 21 #[.val (.int i0), .val (.int (2 : Int32)), .unset, .unset] [(.int (1 : Int32)), (.int (2 : Int32)), (.ref b19), (.ref b19)])) rfl rfl (hb hby at_21)
    have V22 : Arv Z h22 b19 k19 .boolean (5 : Int32) [(.int (0 : Int32)), (.int (1 : Int32)), (.int (1 : Int32)), (.int (0 : Int32)), (.int (0 : Int32))] (.int (0 : Int32)) := Arv.set Ar22 q22 S22 M22 H22 G22 (by decide) W22 2 rfl (Nat.le_of_ble_eq_true rfl)
    have N22 := Fr.snoc X22 N21 g_b19
    have O22 : Old Z n0 h22 := O21.wr W22 g_b19
    refine Go.st st22 ?_
    show Go p e below _ (T22.setTop (mkF m 22 #[.val (.int i0), .val (.int (2 : Int32)), .unset, .unset] [(.ref b19)]))
    refine Go.st (fun t k => XS.dup X22.here hx rfl (hb hby at_22) rfl rfl k) ?_
    show Go p e below _ (T22.setTop (mkF m 23 #[.val (.int i0), .val (.int (2 : Int32)), .unset, .unset] [(.ref b19), (.ref b19)]))
    refine Go.st (fun t k => XS.iconst X22.here hx rfl (hb hby at_23) k) ?_
    show Go p e below _ (T22.setTop (mkF m 24 #[.val (.int i0), .val (.int (2 : Int32)), .unset, .unset] [(.int (3 : Int32)), (.ref b19), (.ref b19)]))
    refine Go.st (fun t k => XS.iconst X22.here hx rfl (hb hby at_24) k) ?_
    show Go p e below _ (T22.setTop (mkF m 25 #[.val (.int i0), .val (.int (2 : Int32)), .unset, .unset] [(.int (0 : Int32)), (.int (3 : Int32)), (.ref b19), (.ref b19)]))
    obtain ⟨cl23, Ar23, q23, S23, M23, H23, G23⟩ := id V22
    have hin23 : ¬ ((3 : Int32) < 0 ∨ cl23.slots.size ≤ ((3 : Int32)).toNatClampNeg) := inb_of S23 ⟨by decide, by decide⟩
    obtain ⟨T23, h23, X23, e23, W23, st23⟩ := stZ X22 hx hZ e22 Ar23 (j := (3 : Int32)) hin23 (g := (mkF m 25 #[.val (.int i0), .val (.int (2 : Int32)), .unset, .unset] [(.int (0 : Int32)), (.int (3 : Int32)), (.ref b19), (.ref b19)])) rfl rfl (hb hby at_25)
    have V23 : Arv Z h23 b19 k19 .boolean (5 : Int32) [(.int (0 : Int32)), (.int (1 : Int32)), (.int (1 : Int32)), (.int (0 : Int32)), (.int (0 : Int32))] (.int (0 : Int32)) := Arv.set Ar23 q23 S23 M23 H23 G23 (by decide) W23 3 rfl (Nat.le_of_ble_eq_true rfl)
    have N23 := Fr.snoc X23 N22 g_b19
    have O23 : Old Z n0 h23 := O22.wr W23 g_b19
    refine Go.st st23 ?_
    show Go p e below _ (T23.setTop (mkF m 26 #[.val (.int i0), .val (.int (2 : Int32)), .unset, .unset] [(.ref b19)]))
    refine Go.st (fun t k => XS.dup X23.here hx rfl (hb hby at_26) rfl rfl k) ?_
    show Go p e below _ (T23.setTop (mkF m 27 #[.val (.int i0), .val (.int (2 : Int32)), .unset, .unset] [(.ref b19), (.ref b19)]))
    refine Go.st (fun t k => XS.iconst X23.here hx rfl (hb hby at_27) k) ?_
    show Go p e below _ (T23.setTop (mkF m 28 #[.val (.int i0), .val (.int (2 : Int32)), .unset, .unset] [(.int (4 : Int32)), (.ref b19), (.ref b19)]))
    refine Go.st (fun t k => XS.iconst X23.here hx rfl (hb hby at_28) k) ?_
    show Go p e below _ (T23.setTop (mkF m 29 #[.val (.int i0), .val (.int (2 : Int32)), .unset, .unset] [(.int (0 : Int32)), (.int (4 : Int32)), (.ref b19), (.ref b19)]))
    obtain ⟨cl24, Ar24, q24, S24, M24, H24, G24⟩ := id V23
    have hin24 : ¬ ((4 : Int32) < 0 ∨ cl24.slots.size ≤ ((4 : Int32)).toNatClampNeg) := inb_of S24 ⟨by decide, by decide⟩
    obtain ⟨T24, h24, X24, e24, W24, st24⟩ := stZ X23 hx hZ e23 Ar24 (j := (4 : Int32)) hin24 (g := (mkF m 29 #[.val (.int i0), .val (.int (2 : Int32)), .unset, .unset] [(.int (0 : Int32)), (.int (4 : Int32)), (.ref b19), (.ref b19)])) rfl rfl (hb hby at_29)
    have V24 : Arv Z h24 b19 k19 .boolean (5 : Int32) [(.int (0 : Int32)), (.int (1 : Int32)), (.int (1 : Int32)), (.int (0 : Int32)), (.int (0 : Int32))] (.int (0 : Int32)) := Arv.set Ar24 q24 S24 M24 H24 G24 (by decide) W24 4 rfl (Nat.le_of_ble_eq_true rfl)
    have N24 := Fr.snoc X24 N23 g_b19
    have O24 : Old Z n0 h24 := O23.wr W24 g_b19
    refine Go.st st24 ?_
    show Go p e below _ (T24.setTop (mkF m 30 #[.val (.int i0), .val (.int (2 : Int32)), .unset, .unset] [(.ref b19)]))
    refine Go.st (fun t k => XS.astoreN X24.here hx rfl (hb hby at_30) rfl rfl (l' := #[.val (.int i0), .val (.int (2 : Int32)), .val (.ref b19), .unset]) rfl k) ?_
    show Go p e below _ (T24.setTop (mkF m 31 #[.val (.int i0), .val (.int (2 : Int32)), .val (.ref b19), .unset] []))
    refine Go.st (fun t k => XS.iloadN X24.here hx rfl (hb hby at_31) rfl k) ?_
    show Go p e below _ (T24.setTop (mkF m 32 #[.val (.int i0), .val (.int (2 : Int32)), .val (.ref b19), .unset] [(.int (2 : Int32))]))
    obtain ⟨_, _, ⟨T25, L25, k25, n25⟩, -, X25, ⟨Lc25, hQ25, l25, y25, z25⟩, st25⟩ := Jvm.LawKit.callS X24 hx (y := (⟨"com/example/lease/lease/store/OutcomeIsFailurePinLaw", "pick", "(I)Lcom/example/lease/lease/store/Outcome;"⟩ : MethodName)) hown (mvT hZ (w2 hw)) (mvT hZ (w3 hw)) (mvT hZ (w4 hw)) (mvT hZ (w5 hw)) (by decide) (backOf (W := 0) (rm1_3 l Z a0 hw [] w27a h24 n0 O24 Y29) hZ (w5 hw) (w4 hw) (by decide) (by decide)) (g := (mkF m 32 #[.val (.int i0), .val (.int (2 : Int32)), .val (.ref b19), .unset] [(.int (2 : Int32))])) rfl (by rw [hml]; rfl) (argsL := [(.int (2 : Int32))]) (rest := []) (lenOf pd_0 rfl) rfl (by show 2 * 0 + _ ≤ _; exact Nat.le_of_eq rfl) (hb hby at_32) (fun vm₁ hw₁ => ⟨rfl, e24, (by decide : 1 + 0 ≤ _), (by decide : 5 + 0 ≤ _)⟩)
    dsimp only [Pt.U, Pt.locs, Pt.cells, Pt.slots] at X25 l25 y25 z25 st25 hQ25
    subst l25 y25 z25
    obtain ⟨rfl, M25, eh25⟩ := hQ25
    have N25 := Fr.app N24 M25
    refine Go.st st25 ?_
    show Go p e below _ (T25.setTop (mkF m 35 #[.val (.int i0), .val (.int (2 : Int32)), .val (.ref b19), .unset] [(.ref w27a)]))
    refine Go.st (fun t k => XS.astoreN X25.here hx rfl (hb hby at_35) rfl rfl (l' := #[.val (.int i0), .val (.int (2 : Int32)), .val (.ref b19), .val (.ref w27a)]) rfl k) ?_
    show Go p e below _ (T25.setTop (mkF m 36 #[.val (.int i0), .val (.int (2 : Int32)), .val (.ref b19), .val (.ref w27a)] []))
    refine Go.st (fun t k => XS.aloadN X25.here hx rfl (hb hby at_36) rfl rfl k) ?_
    show Go p e below _ (T25.setTop (mkF m 37 #[.val (.int i0), .val (.int (2 : Int32)), .val (.ref b19), .val (.ref w27a)] [(.ref w27a)]))
    obtain ⟨cq26, kq26, q26a, q26b, q26c⟩ := isOf hZ eh25 (Y30.ext O24.2)
    obtain ⟨_, _, ⟨T26, L26, k26, n26⟩, -, X26, ⟨Lc26, hQ26, l26, y26, z26⟩, st26⟩ := X25.virtualBack hx (y := (⟨"com/example/lease/lease/store/Outcome", "isFailure", "()Z"⟩ : MethodName)) (z := (⟨"com/example/lease/lease/store/Outcome", "isFailure", "()Z"⟩ : MethodName)) hown (mvT hZ (w9 hw)) (mvT hZ (w10 hw)) (notFace_of_selects (args := #[]) (mvT hZ (w12 hw))) (mvT hZ (w12 hw)) (mvT hZ (w11 hw)) (by decide) (backOf (W := 0) (rm2_3 l Z a0 hw [] w27a w23a h24 n0 O24 Y25 (Ne.symm D53) Y29) hZ (w13 hw) (w7 hw) (by decide) (by decide)) q26a q26c (g := (mkF m 37 #[.val (.int i0), .val (.int (2 : Int32)), .val (.ref b19), .val (.ref w27a)] [(.ref w27a)])) rfl (by rw [hml]; rfl) (Steps.refl _) (argsL := []) (rest := []) (lenOf pd_1 rfl) rfl (by show 2 * 0 + _ ≤ _; exact Nat.le_of_eq rfl) (hb hby at_37) (fun vm₁ hw₁ => ⟨rfl, eh25, (by decide : 1 + 0 ≤ _), (by decide : 5 + 0 ≤ _)⟩)
    dsimp only [Pt.U, Pt.locs, Pt.cells, Pt.slots] at X26 l26 y26 z26 st26 hQ26
    subst l26 y26 z26
    obtain ⟨rfl, M26, eh26⟩ := hQ26
    have N26 := Fr.app N25 M26
    refine Go.tr st26 ?_
    show Go p e below _ (T26.setTop (mkF m 40 #[.val (.int i0), .val (.int (2 : Int32)), .val (.ref b19), .val (.ref w27a)] [(.int (1 : Int32))]))
    refine Go.st (fun t k => XS.aloadN X26.here hx rfl (hb hby at_40) rfl rfl k) ?_
    show Go p e below _ (T26.setTop (mkF m 41 #[.val (.int i0), .val (.int (2 : Int32)), .val (.ref b19), .val (.ref w27a)] [(.ref b19), (.int (1 : Int32))]))
    refine Go.st (fun t k => XS.iloadN X26.here hx rfl (hb hby at_41) rfl k) ?_
    show Go p e below _ (T26.setTop (mkF m 42 #[.val (.int i0), .val (.int (2 : Int32)), .val (.ref b19), .val (.ref w27a)] [(.int (2 : Int32)), (.ref b19), (.int (1 : Int32))]))
    obtain ⟨cl27, Ar27, q27, S27, M27, H27, G27⟩ := id V24
    have hin27 : ¬ ((2 : Int32) < 0 ∨ cl27.slots.size ≤ ((2 : Int32)).toNatClampNeg) := inb_of S27 ⟨by decide, by decide⟩
    have hat27 : cl27.slots[((2 : Int32)).toNatClampNeg]? = some (.int (1 : Int32)) := H27.at hin27 rfl
    refine Go.st (fun t k => X26.baloadBooleans hx (j := (2 : Int32)) (v := (.int (1 : Int32))) (by rw [eh26]; exact Ar27.1) (State.isArrayOf_alike hZ.alike Ar27.2.1) Ar27.2.2 hin27 hat27 (g := (mkF m 42 #[.val (.int i0), .val (.int (2 : Int32)), .val (.ref b19), .val (.ref w27a)] [(.int (2 : Int32)), (.ref b19), (.int (1 : Int32))])) rfl rfl (hb hby at_42) t k) ?_
    show Go p e below _ (T26.setTop (mkF m 43 #[.val (.int i0), .val (.int (2 : Int32)), .val (.ref b19), .val (.ref w27a)] [(.int (1 : Int32)), (.int (1 : Int32))]))
    refine Go.st (fun t k => XS.icmpNo X26.here hx rfl (hb hby at_43) rfl (Jvm.Free.XT.ii_ne_f (by decide : (1 : Int32) = (1 : Int32))) k) ?_
    show Go p e below _ (T26.setTop (mkF m 46 #[.val (.int i0), .val (.int (2 : Int32)), .val (.ref b19), .val (.ref w27a)] []))
    refine Go.st (fun t k => XS.iconst X26.here hx rfl (hb hby at_46) k) ?_
    show Go p e below _ (T26.setTop (mkF m 47 #[.val (.int i0), .val (.int (2 : Int32)), .val (.ref b19), .val (.ref w27a)] [(.int (1 : Int32))]))
    refine Go.st (fun t k => XS.goto X26.here hx rfl (pc0 := 47) (pc' := 51) rfl (hb hby at_47) (by decide) (by decide) k) ?_
    show Go p e below _ (T26.setTop (mkF m 51 #[.val (.int i0), .val (.int (2 : Int32)), .val (.ref b19), .val (.ref w27a)] [(.int (1 : Int32))]))
    obtain ⟨fs, hr, hrun, hended, hWd, hsame⟩ := X26.leave (v := some (.int (1 : Int32))) (fun h => by rw [Bd.returns] at h; cases h)
    refine ⟨_, _, ?_, hrun, hended, _, _, rfl, ?_, ⟨⟨_, rfl⟩, hWd, hsame.mono (by decide) (by decide)⟩⟩
    · exact retN X26 hx (t := .boolean) Bd.returns (by simp) (hb hby at_51) hr
    · exact ⟨rfl, N26⟩
  · rw [hq]
    show Go p e below _ (s₁.setTop (mkF m 6 #[.val (.int i0), .unset, .unset, .unset] [(.int (3 : Int32))]))
    refine Go.st (fun t k => XS.istoreN X0.here hx rfl (hb hby at_6) rfl (l' := #[.val (.int i0), .val (.int (3 : Int32)), .unset, .unset]) rfl k) ?_
    show Go p e below _ (s₁.setTop (mkF m 7 #[.val (.int i0), .val (.int (3 : Int32)), .unset, .unset] []))
    refine Go.st (fun t k => XS.iconst X0.here hx rfl (hb hby at_7) k) ?_
    show Go p e below _ (s₁.setTop (mkF m 8 #[.val (.int i0), .val (.int (3 : Int32)), .unset, .unset] [(.int (5 : Int32))]))
    obtain ⟨T28, h28, k28, X28, e28, E28, A28, st28⟩ := newP X0 hx hZ (aty := .boolean) (w1 hw) e0 (g := (mkF m 8 #[.val (.int i0), .val (.int (3 : Int32)), .unset, .unset] [(.int (5 : Int32))])) rfl (hb hby at_8) rfl (by decide) (cap := 5) (by decide) (by decide) (by decide) (by decide)
    obtain ⟨b28, z28⟩ : ∃ z, z = h0.size := ⟨_, rfl⟩
    rw [← z28] at A28 st28
    have g_b28 : n0 ≤ b28 := Nat.le_trans (own_n0 O0) (Nat.le_of_eq z28.symm)
    have V28 : Arv Z h28 b28 k28 .boolean (5 : Int32) [(.int (0 : Int32)), (.int (0 : Int32)), (.int (0 : Int32)), (.int (0 : Int32)), (.int (0 : Int32))] (.int (0 : Int32)) := (Arv.new A28 (by decide)).pad (pad_rep [] (.int (0 : Int32)) 5)
    have O28 : Old Z n0 h28 := O0.ext E28
    refine Go.st st28 ?_
    show Go p e below _ (T28.setTop (mkF m 10 #[.val (.int i0), .val (.int (3 : Int32)), .unset, .unset] [(.ref b28)]))
    refine Go.st (fun t k => XS.dup X28.here hx rfl (hb hby at_10) rfl rfl k) ?_
    show Go p e below _ (T28.setTop (mkF m 11 #[.val (.int i0), .val (.int (3 : Int32)), .unset, .unset] [(.ref b28), (.ref b28)]))
    refine Go.st (fun t k => XS.iconst X28.here hx rfl (hb hby at_11) k) ?_
    show Go p e below _ (T28.setTop (mkF m 12 #[.val (.int i0), .val (.int (3 : Int32)), .unset, .unset] [(.int (0 : Int32)), (.ref b28), (.ref b28)]))
    refine Go.st (fun t k => XS.iconst X28.here hx rfl (hb hby at_12) k) ?_
    show Go p e below _ (T28.setTop (mkF m 13 #[.val (.int i0), .val (.int (3 : Int32)), .unset, .unset] [(.int (0 : Int32)), (.int (0 : Int32)), (.ref b28), (.ref b28)]))
    obtain ⟨cl29, Ar29, q29, S29, M29, H29, G29⟩ := id V28
    have hin29 : ¬ ((0 : Int32) < 0 ∨ cl29.slots.size ≤ ((0 : Int32)).toNatClampNeg) := inb_of S29 ⟨by decide, by decide⟩
    obtain ⟨T29, h29, X29, e29, W29, st29⟩ := stZ X28 hx hZ e28 Ar29 (j := (0 : Int32)) hin29 (g := (mkF m 13 #[.val (.int i0), .val (.int (3 : Int32)), .unset, .unset] [(.int (0 : Int32)), (.int (0 : Int32)), (.ref b28), (.ref b28)])) rfl rfl (hb hby at_13)
    have V29 : Arv Z h29 b28 k28 .boolean (5 : Int32) [(.int (0 : Int32)), (.int (0 : Int32)), (.int (0 : Int32)), (.int (0 : Int32)), (.int (0 : Int32))] (.int (0 : Int32)) := Arv.set Ar29 q29 S29 M29 H29 G29 (by decide) W29 0 rfl (Nat.le_of_ble_eq_true rfl)
    have N29 := Fr.snoc X29 N0 g_b28
    have O29 : Old Z n0 h29 := O28.wr W29 g_b28
    refine Go.st st29 ?_
    show Go p e below _ (T29.setTop (mkF m 14 #[.val (.int i0), .val (.int (3 : Int32)), .unset, .unset] [(.ref b28)]))
    refine Go.st (fun t k => XS.dup X29.here hx rfl (hb hby at_14) rfl rfl k) ?_
    show Go p e below _ (T29.setTop (mkF m 15 #[.val (.int i0), .val (.int (3 : Int32)), .unset, .unset] [(.ref b28), (.ref b28)]))
    refine Go.st (fun t k => XS.iconst X29.here hx rfl (hb hby at_15) k) ?_
    show Go p e below _ (T29.setTop (mkF m 16 #[.val (.int i0), .val (.int (3 : Int32)), .unset, .unset] [(.int (1 : Int32)), (.ref b28), (.ref b28)]))
    refine Go.st (fun t k => XS.iconst X29.here hx rfl (hb hby at_16) k) ?_
    show Go p e below _ (T29.setTop (mkF m 17 #[.val (.int i0), .val (.int (3 : Int32)), .unset, .unset] [(.int (1 : Int32)), (.int (1 : Int32)), (.ref b28), (.ref b28)]))
    obtain ⟨cl30, Ar30, q30, S30, M30, H30, G30⟩ := id V29
    have hin30 : ¬ ((1 : Int32) < 0 ∨ cl30.slots.size ≤ ((1 : Int32)).toNatClampNeg) := inb_of S30 ⟨by decide, by decide⟩
    obtain ⟨T30, h30, X30, e30, W30, st30⟩ := stZ X29 hx hZ e29 Ar30 (j := (1 : Int32)) hin30 (g := (mkF m 17 #[.val (.int i0), .val (.int (3 : Int32)), .unset, .unset] [(.int (1 : Int32)), (.int (1 : Int32)), (.ref b28), (.ref b28)])) rfl rfl (hb hby at_17)
    have V30 : Arv Z h30 b28 k28 .boolean (5 : Int32) [(.int (0 : Int32)), (.int (1 : Int32)), (.int (0 : Int32)), (.int (0 : Int32)), (.int (0 : Int32))] (.int (0 : Int32)) := Arv.set Ar30 q30 S30 M30 H30 G30 (by decide) W30 1 rfl (Nat.le_of_ble_eq_true rfl)
    have N30 := Fr.snoc X30 N29 g_b28
    have O30 : Old Z n0 h30 := O29.wr W30 g_b28
    refine Go.st st30 ?_
    show Go p e below _ (T30.setTop (mkF m 18 #[.val (.int i0), .val (.int (3 : Int32)), .unset, .unset] [(.ref b28)]))
    refine Go.st (fun t k => XS.dup X30.here hx rfl (hb hby at_18) rfl rfl k) ?_
    show Go p e below _ (T30.setTop (mkF m 19 #[.val (.int i0), .val (.int (3 : Int32)), .unset, .unset] [(.ref b28), (.ref b28)]))
    refine Go.st (fun t k => XS.iconst X30.here hx rfl (hb hby at_19) k) ?_
    show Go p e below _ (T30.setTop (mkF m 20 #[.val (.int i0), .val (.int (3 : Int32)), .unset, .unset] [(.int (2 : Int32)), (.ref b28), (.ref b28)]))
    refine Go.st (fun t k => XS.iconst X30.here hx rfl (hb hby at_20) k) ?_
    show Go p e below _ (T30.setTop (mkF m 21 #[.val (.int i0), .val (.int (3 : Int32)), .unset, .unset] [(.int (1 : Int32)), (.int (2 : Int32)), (.ref b28), (.ref b28)]))
    obtain ⟨cl31, Ar31, q31, S31, M31, H31, G31⟩ := id V30
    have hin31 : ¬ ((2 : Int32) < 0 ∨ cl31.slots.size ≤ ((2 : Int32)).toNatClampNeg) := inb_of S31 ⟨by decide, by decide⟩
    obtain ⟨T31, h31, X31, e31, W31, st31⟩ := stZ X30 hx hZ e30 Ar31 (j := (2 : Int32)) hin31 (g := (mkF m 21 #[.val (.int i0), .val (.int (3 : Int32)), .unset, .unset] [(.int (1 : Int32)), (.int (2 : Int32)), (.ref b28), (.ref b28)])) rfl rfl (hb hby at_21)
    have V31 : Arv Z h31 b28 k28 .boolean (5 : Int32) [(.int (0 : Int32)), (.int (1 : Int32)), (.int (1 : Int32)), (.int (0 : Int32)), (.int (0 : Int32))] (.int (0 : Int32)) := Arv.set Ar31 q31 S31 M31 H31 G31 (by decide) W31 2 rfl (Nat.le_of_ble_eq_true rfl)
    have N31 := Fr.snoc X31 N30 g_b28
    have O31 : Old Z n0 h31 := O30.wr W31 g_b28
    refine Go.st st31 ?_
    show Go p e below _ (T31.setTop (mkF m 22 #[.val (.int i0), .val (.int (3 : Int32)), .unset, .unset] [(.ref b28)]))
    refine Go.st (fun t k => XS.dup X31.here hx rfl (hb hby at_22) rfl rfl k) ?_
    show Go p e below _ (T31.setTop (mkF m 23 #[.val (.int i0), .val (.int (3 : Int32)), .unset, .unset] [(.ref b28), (.ref b28)]))
    refine Go.st (fun t k => XS.iconst X31.here hx rfl (hb hby at_23) k) ?_
    show Go p e below _ (T31.setTop (mkF m 24 #[.val (.int i0), .val (.int (3 : Int32)), .unset, .unset] [(.int (3 : Int32)), (.ref b28), (.ref b28)]))
    refine Go.st (fun t k => XS.iconst X31.here hx rfl (hb hby at_24) k) ?_
    show Go p e below _ (T31.setTop (mkF m 25 #[.val (.int i0), .val (.int (3 : Int32)), .unset, .unset] [(.int (0 : Int32)), (.int (3 : Int32)), (.ref b28), (.ref b28)]))
    obtain ⟨cl32, Ar32, q32, S32, M32, H32, G32⟩ := id V31
    have hin32 : ¬ ((3 : Int32) < 0 ∨ cl32.slots.size ≤ ((3 : Int32)).toNatClampNeg) := inb_of S32 ⟨by decide, by decide⟩
    obtain ⟨T32, h32, X32, e32, W32, st32⟩ := stZ X31 hx hZ e31 Ar32 (j := (3 : Int32)) hin32 (g := (mkF m 25 #[.val (.int i0), .val (.int (3 : Int32)), .unset, .unset] [(.int (0 : Int32)), (.int (3 : Int32)), (.ref b28), (.ref b28)])) rfl rfl (hb hby at_25)
    have V32 : Arv Z h32 b28 k28 .boolean (5 : Int32) [(.int (0 : Int32)), (.int (1 : Int32)), (.int (1 : Int32)), (.int (0 : Int32)), (.int (0 : Int32))] (.int (0 : Int32)) := Arv.set Ar32 q32 S32 M32 H32 G32 (by decide) W32 3 rfl (Nat.le_of_ble_eq_true rfl)
    have N32 := Fr.snoc X32 N31 g_b28
    have O32 : Old Z n0 h32 := O31.wr W32 g_b28
    refine Go.st st32 ?_
    show Go p e below _ (T32.setTop (mkF m 26 #[.val (.int i0), .val (.int (3 : Int32)), .unset, .unset] [(.ref b28)]))
    refine Go.st (fun t k => XS.dup X32.here hx rfl (hb hby at_26) rfl rfl k) ?_
    show Go p e below _ (T32.setTop (mkF m 27 #[.val (.int i0), .val (.int (3 : Int32)), .unset, .unset] [(.ref b28), (.ref b28)]))
    refine Go.st (fun t k => XS.iconst X32.here hx rfl (hb hby at_27) k) ?_
    show Go p e below _ (T32.setTop (mkF m 28 #[.val (.int i0), .val (.int (3 : Int32)), .unset, .unset] [(.int (4 : Int32)), (.ref b28), (.ref b28)]))
    refine Go.st (fun t k => XS.iconst X32.here hx rfl (hb hby at_28) k) ?_
    show Go p e below _ (T32.setTop (mkF m 29 #[.val (.int i0), .val (.int (3 : Int32)), .unset, .unset] [(.int (0 : Int32)), (.int (4 : Int32)), (.ref b28), (.ref b28)]))
    obtain ⟨cl33, Ar33, q33, S33, M33, H33, G33⟩ := id V32
    have hin33 : ¬ ((4 : Int32) < 0 ∨ cl33.slots.size ≤ ((4 : Int32)).toNatClampNeg) := inb_of S33 ⟨by decide, by decide⟩
    obtain ⟨T33, h33, X33, e33, W33, st33⟩ := stZ X32 hx hZ e32 Ar33 (j := (4 : Int32)) hin33 (g := (mkF m 29 #[.val (.int i0), .val (.int (3 : Int32)), .unset, .unset] [(.int (0 : Int32)), (.int (4 : Int32)), (.ref b28), (.ref b28)])) rfl rfl (hb hby at_29)
    have V33 : Arv Z h33 b28 k28 .boolean (5 : Int32) [(.int (0 : Int32)), (.int (1 : Int32)), (.int (1 : Int32)), (.int (0 : Int32)), (.int (0 : Int32))] (.int (0 : Int32)) := Arv.set Ar33 q33 S33 M33 H33 G33 (by decide) W33 4 rfl (Nat.le_of_ble_eq_true rfl)
    have N33 := Fr.snoc X33 N32 g_b28
    have O33 : Old Z n0 h33 := O32.wr W33 g_b28
    refine Go.st st33 ?_
    show Go p e below _ (T33.setTop (mkF m 30 #[.val (.int i0), .val (.int (3 : Int32)), .unset, .unset] [(.ref b28)]))
    refine Go.st (fun t k => XS.astoreN X33.here hx rfl (hb hby at_30) rfl rfl (l' := #[.val (.int i0), .val (.int (3 : Int32)), .val (.ref b28), .unset]) rfl k) ?_
    show Go p e below _ (T33.setTop (mkF m 31 #[.val (.int i0), .val (.int (3 : Int32)), .val (.ref b28), .unset] []))
    refine Go.st (fun t k => XS.iloadN X33.here hx rfl (hb hby at_31) rfl k) ?_
    show Go p e below _ (T33.setTop (mkF m 32 #[.val (.int i0), .val (.int (3 : Int32)), .val (.ref b28), .unset] [(.int (3 : Int32))]))
    obtain ⟨_, _, ⟨T34, L34, k34, n34⟩, -, X34, ⟨Lc34, hQ34, l34, y34, z34⟩, st34⟩ := Jvm.LawKit.callS X33 hx (y := (⟨"com/example/lease/lease/store/OutcomeIsFailurePinLaw", "pick", "(I)Lcom/example/lease/lease/store/Outcome;"⟩ : MethodName)) hown (mvT hZ (w2 hw)) (mvT hZ (w3 hw)) (mvT hZ (w4 hw)) (mvT hZ (w5 hw)) (by decide) (backOf (W := 0) (rm1_4 l Z a0 hw [] w31a h33 n0 O33 Y33) hZ (w5 hw) (w4 hw) (by decide) (by decide)) (g := (mkF m 32 #[.val (.int i0), .val (.int (3 : Int32)), .val (.ref b28), .unset] [(.int (3 : Int32))])) rfl (by rw [hml]; rfl) (argsL := [(.int (3 : Int32))]) (rest := []) (lenOf pd_0 rfl) rfl (by show 2 * 0 + _ ≤ _; exact Nat.le_of_eq rfl) (hb hby at_32) (fun vm₁ hw₁ => ⟨rfl, e33, (by decide : 1 + 0 ≤ _), (by decide : 5 + 0 ≤ _)⟩)
    dsimp only [Pt.U, Pt.locs, Pt.cells, Pt.slots] at X34 l34 y34 z34 st34 hQ34
    subst l34 y34 z34
    obtain ⟨rfl, M34, eh34⟩ := hQ34
    have N34 := Fr.app N33 M34
    refine Go.st st34 ?_
    show Go p e below _ (T34.setTop (mkF m 35 #[.val (.int i0), .val (.int (3 : Int32)), .val (.ref b28), .unset] [(.ref w31a)]))
    refine Go.st (fun t k => XS.astoreN X34.here hx rfl (hb hby at_35) rfl rfl (l' := #[.val (.int i0), .val (.int (3 : Int32)), .val (.ref b28), .val (.ref w31a)]) rfl k) ?_
    show Go p e below _ (T34.setTop (mkF m 36 #[.val (.int i0), .val (.int (3 : Int32)), .val (.ref b28), .val (.ref w31a)] []))
    refine Go.st (fun t k => XS.aloadN X34.here hx rfl (hb hby at_36) rfl rfl k) ?_
    show Go p e below _ (T34.setTop (mkF m 37 #[.val (.int i0), .val (.int (3 : Int32)), .val (.ref b28), .val (.ref w31a)] [(.ref w31a)]))
    obtain ⟨cq35, kq35, q35a, q35b, q35c⟩ := isOf hZ eh34 (Y34.ext O33.2)
    obtain ⟨_, _, ⟨T35, L35, k35, n35⟩, -, X35, ⟨Lc35, hQ35, l35, y35, z35⟩, st35⟩ := X34.virtualBack hx (y := (⟨"com/example/lease/lease/store/Outcome", "isFailure", "()Z"⟩ : MethodName)) (z := (⟨"com/example/lease/lease/store/Outcome", "isFailure", "()Z"⟩ : MethodName)) hown (mvT hZ (w9 hw)) (mvT hZ (w10 hw)) (notFace_of_selects (args := #[]) (mvT hZ (w12 hw))) (mvT hZ (w12 hw)) (mvT hZ (w11 hw)) (by decide) (backOf (W := 0) (rm2_1 l Z a0 hw [] w31a w23a w27a h33 n0 O33 Y25 (Ne.symm D54) Y29 (Ne.symm D56)) hZ (w13 hw) (w7 hw) (by decide) (by decide)) q35a q35c (g := (mkF m 37 #[.val (.int i0), .val (.int (3 : Int32)), .val (.ref b28), .val (.ref w31a)] [(.ref w31a)])) rfl (by rw [hml]; rfl) (Steps.refl _) (argsL := []) (rest := []) (lenOf pd_1 rfl) rfl (by show 2 * 0 + _ ≤ _; exact Nat.le_of_eq rfl) (hb hby at_37) (fun vm₁ hw₁ => ⟨rfl, eh34, (by decide : 1 + 0 ≤ _), (by decide : 5 + 0 ≤ _)⟩)
    dsimp only [Pt.U, Pt.locs, Pt.cells, Pt.slots] at X35 l35 y35 z35 st35 hQ35
    subst l35 y35 z35
    obtain ⟨rfl, M35, eh35⟩ := hQ35
    have N35 := Fr.app N34 M35
    refine Go.tr st35 ?_
    show Go p e below _ (T35.setTop (mkF m 40 #[.val (.int i0), .val (.int (3 : Int32)), .val (.ref b28), .val (.ref w31a)] [(.int (0 : Int32))]))
    refine Go.st (fun t k => XS.aloadN X35.here hx rfl (hb hby at_40) rfl rfl k) ?_
    show Go p e below _ (T35.setTop (mkF m 41 #[.val (.int i0), .val (.int (3 : Int32)), .val (.ref b28), .val (.ref w31a)] [(.ref b28), (.int (0 : Int32))]))
    refine Go.st (fun t k => XS.iloadN X35.here hx rfl (hb hby at_41) rfl k) ?_
    show Go p e below _ (T35.setTop (mkF m 42 #[.val (.int i0), .val (.int (3 : Int32)), .val (.ref b28), .val (.ref w31a)] [(.int (3 : Int32)), (.ref b28), (.int (0 : Int32))]))
    obtain ⟨cl36, Ar36, q36, S36, M36, H36, G36⟩ := id V33
    have hin36 : ¬ ((3 : Int32) < 0 ∨ cl36.slots.size ≤ ((3 : Int32)).toNatClampNeg) := inb_of S36 ⟨by decide, by decide⟩
    have hat36 : cl36.slots[((3 : Int32)).toNatClampNeg]? = some (.int (0 : Int32)) := H36.at hin36 rfl
    refine Go.st (fun t k => X35.baloadBooleans hx (j := (3 : Int32)) (v := (.int (0 : Int32))) (by rw [eh35]; exact Ar36.1) (State.isArrayOf_alike hZ.alike Ar36.2.1) Ar36.2.2 hin36 hat36 (g := (mkF m 42 #[.val (.int i0), .val (.int (3 : Int32)), .val (.ref b28), .val (.ref w31a)] [(.int (3 : Int32)), (.ref b28), (.int (0 : Int32))])) rfl rfl (hb hby at_42) t k) ?_
    show Go p e below _ (T35.setTop (mkF m 43 #[.val (.int i0), .val (.int (3 : Int32)), .val (.ref b28), .val (.ref w31a)] [(.int (0 : Int32)), (.int (0 : Int32))]))
    refine Go.st (fun t k => XS.icmpNo X35.here hx rfl (hb hby at_43) rfl (Jvm.Free.XT.ii_ne_f (by decide : (0 : Int32) = (0 : Int32))) k) ?_
    show Go p e below _ (T35.setTop (mkF m 46 #[.val (.int i0), .val (.int (3 : Int32)), .val (.ref b28), .val (.ref w31a)] []))
    refine Go.st (fun t k => XS.iconst X35.here hx rfl (hb hby at_46) k) ?_
    show Go p e below _ (T35.setTop (mkF m 47 #[.val (.int i0), .val (.int (3 : Int32)), .val (.ref b28), .val (.ref w31a)] [(.int (1 : Int32))]))
    refine Go.st (fun t k => XS.goto X35.here hx rfl (pc0 := 47) (pc' := 51) rfl (hb hby at_47) (by decide) (by decide) k) ?_
    show Go p e below _ (T35.setTop (mkF m 51 #[.val (.int i0), .val (.int (3 : Int32)), .val (.ref b28), .val (.ref w31a)] [(.int (1 : Int32))]))
    obtain ⟨fs, hr, hrun, hended, hWd, hsame⟩ := X35.leave (v := some (.int (1 : Int32))) (fun h => by rw [Bd.returns] at h; cases h)
    refine ⟨_, _, ?_, hrun, hended, _, _, rfl, ?_, ⟨⟨_, rfl⟩, hWd, hsame.mono (by decide) (by decide)⟩⟩
    · exact retN X35 hx (t := .boolean) Bd.returns (by simp) (hb hby at_51) hr
    · exact ⟨rfl, N35⟩
  · rw [hq]
    show Go p e below _ (s₁.setTop (mkF m 6 #[.val (.int i0), .unset, .unset, .unset] [(.int (4 : Int32))]))
    refine Go.st (fun t k => XS.istoreN X0.here hx rfl (hb hby at_6) rfl (l' := #[.val (.int i0), .val (.int (4 : Int32)), .unset, .unset]) rfl k) ?_
    show Go p e below _ (s₁.setTop (mkF m 7 #[.val (.int i0), .val (.int (4 : Int32)), .unset, .unset] []))
    refine Go.st (fun t k => XS.iconst X0.here hx rfl (hb hby at_7) k) ?_
    show Go p e below _ (s₁.setTop (mkF m 8 #[.val (.int i0), .val (.int (4 : Int32)), .unset, .unset] [(.int (5 : Int32))]))
    obtain ⟨T37, h37, k37, X37, e37, E37, A37, st37⟩ := newP X0 hx hZ (aty := .boolean) (w1 hw) e0 (g := (mkF m 8 #[.val (.int i0), .val (.int (4 : Int32)), .unset, .unset] [(.int (5 : Int32))])) rfl (hb hby at_8) rfl (by decide) (cap := 5) (by decide) (by decide) (by decide) (by decide)
    obtain ⟨b37, z37⟩ : ∃ z, z = h0.size := ⟨_, rfl⟩
    rw [← z37] at A37 st37
    have g_b37 : n0 ≤ b37 := Nat.le_trans (own_n0 O0) (Nat.le_of_eq z37.symm)
    have V37 : Arv Z h37 b37 k37 .boolean (5 : Int32) [(.int (0 : Int32)), (.int (0 : Int32)), (.int (0 : Int32)), (.int (0 : Int32)), (.int (0 : Int32))] (.int (0 : Int32)) := (Arv.new A37 (by decide)).pad (pad_rep [] (.int (0 : Int32)) 5)
    have O37 : Old Z n0 h37 := O0.ext E37
    refine Go.st st37 ?_
    show Go p e below _ (T37.setTop (mkF m 10 #[.val (.int i0), .val (.int (4 : Int32)), .unset, .unset] [(.ref b37)]))
    refine Go.st (fun t k => XS.dup X37.here hx rfl (hb hby at_10) rfl rfl k) ?_
    show Go p e below _ (T37.setTop (mkF m 11 #[.val (.int i0), .val (.int (4 : Int32)), .unset, .unset] [(.ref b37), (.ref b37)]))
    refine Go.st (fun t k => XS.iconst X37.here hx rfl (hb hby at_11) k) ?_
    show Go p e below _ (T37.setTop (mkF m 12 #[.val (.int i0), .val (.int (4 : Int32)), .unset, .unset] [(.int (0 : Int32)), (.ref b37), (.ref b37)]))
    refine Go.st (fun t k => XS.iconst X37.here hx rfl (hb hby at_12) k) ?_
    show Go p e below _ (T37.setTop (mkF m 13 #[.val (.int i0), .val (.int (4 : Int32)), .unset, .unset] [(.int (0 : Int32)), (.int (0 : Int32)), (.ref b37), (.ref b37)]))
    obtain ⟨cl38, Ar38, q38, S38, M38, H38, G38⟩ := id V37
    have hin38 : ¬ ((0 : Int32) < 0 ∨ cl38.slots.size ≤ ((0 : Int32)).toNatClampNeg) := inb_of S38 ⟨by decide, by decide⟩
    obtain ⟨T38, h38, X38, e38, W38, st38⟩ := stZ X37 hx hZ e37 Ar38 (j := (0 : Int32)) hin38 (g := (mkF m 13 #[.val (.int i0), .val (.int (4 : Int32)), .unset, .unset] [(.int (0 : Int32)), (.int (0 : Int32)), (.ref b37), (.ref b37)])) rfl rfl (hb hby at_13)
    have V38 : Arv Z h38 b37 k37 .boolean (5 : Int32) [(.int (0 : Int32)), (.int (0 : Int32)), (.int (0 : Int32)), (.int (0 : Int32)), (.int (0 : Int32))] (.int (0 : Int32)) := Arv.set Ar38 q38 S38 M38 H38 G38 (by decide) W38 0 rfl (Nat.le_of_ble_eq_true rfl)
    have N38 := Fr.snoc X38 N0 g_b37
    have O38 : Old Z n0 h38 := O37.wr W38 g_b37
    refine Go.st st38 ?_
    show Go p e below _ (T38.setTop (mkF m 14 #[.val (.int i0), .val (.int (4 : Int32)), .unset, .unset] [(.ref b37)]))
    refine Go.st (fun t k => XS.dup X38.here hx rfl (hb hby at_14) rfl rfl k) ?_
    show Go p e below _ (T38.setTop (mkF m 15 #[.val (.int i0), .val (.int (4 : Int32)), .unset, .unset] [(.ref b37), (.ref b37)]))
    refine Go.st (fun t k => XS.iconst X38.here hx rfl (hb hby at_15) k) ?_
    show Go p e below _ (T38.setTop (mkF m 16 #[.val (.int i0), .val (.int (4 : Int32)), .unset, .unset] [(.int (1 : Int32)), (.ref b37), (.ref b37)]))
    refine Go.st (fun t k => XS.iconst X38.here hx rfl (hb hby at_16) k) ?_
    show Go p e below _ (T38.setTop (mkF m 17 #[.val (.int i0), .val (.int (4 : Int32)), .unset, .unset] [(.int (1 : Int32)), (.int (1 : Int32)), (.ref b37), (.ref b37)]))
    obtain ⟨cl39, Ar39, q39, S39, M39, H39, G39⟩ := id V38
    have hin39 : ¬ ((1 : Int32) < 0 ∨ cl39.slots.size ≤ ((1 : Int32)).toNatClampNeg) := inb_of S39 ⟨by decide, by decide⟩
    obtain ⟨T39, h39, X39, e39, W39, st39⟩ := stZ X38 hx hZ e38 Ar39 (j := (1 : Int32)) hin39 (g := (mkF m 17 #[.val (.int i0), .val (.int (4 : Int32)), .unset, .unset] [(.int (1 : Int32)), (.int (1 : Int32)), (.ref b37), (.ref b37)])) rfl rfl (hb hby at_17)
    have V39 : Arv Z h39 b37 k37 .boolean (5 : Int32) [(.int (0 : Int32)), (.int (1 : Int32)), (.int (0 : Int32)), (.int (0 : Int32)), (.int (0 : Int32))] (.int (0 : Int32)) := Arv.set Ar39 q39 S39 M39 H39 G39 (by decide) W39 1 rfl (Nat.le_of_ble_eq_true rfl)
    have N39 := Fr.snoc X39 N38 g_b37
    have O39 : Old Z n0 h39 := O38.wr W39 g_b37
    refine Go.st st39 ?_
    show Go p e below _ (T39.setTop (mkF m 18 #[.val (.int i0), .val (.int (4 : Int32)), .unset, .unset] [(.ref b37)]))
    refine Go.st (fun t k => XS.dup X39.here hx rfl (hb hby at_18) rfl rfl k) ?_
    show Go p e below _ (T39.setTop (mkF m 19 #[.val (.int i0), .val (.int (4 : Int32)), .unset, .unset] [(.ref b37), (.ref b37)]))
    refine Go.st (fun t k => XS.iconst X39.here hx rfl (hb hby at_19) k) ?_
    show Go p e below _ (T39.setTop (mkF m 20 #[.val (.int i0), .val (.int (4 : Int32)), .unset, .unset] [(.int (2 : Int32)), (.ref b37), (.ref b37)]))
    refine Go.st (fun t k => XS.iconst X39.here hx rfl (hb hby at_20) k) ?_
    show Go p e below _ (T39.setTop (mkF m 21 #[.val (.int i0), .val (.int (4 : Int32)), .unset, .unset] [(.int (1 : Int32)), (.int (2 : Int32)), (.ref b37), (.ref b37)]))
    obtain ⟨cl40, Ar40, q40, S40, M40, H40, G40⟩ := id V39
    have hin40 : ¬ ((2 : Int32) < 0 ∨ cl40.slots.size ≤ ((2 : Int32)).toNatClampNeg) := inb_of S40 ⟨by decide, by decide⟩
    obtain ⟨T40, h40, X40, e40, W40, st40⟩ := stZ X39 hx hZ e39 Ar40 (j := (2 : Int32)) hin40 (g := (mkF m 21 #[.val (.int i0), .val (.int (4 : Int32)), .unset, .unset] [(.int (1 : Int32)), (.int (2 : Int32)), (.ref b37), (.ref b37)])) rfl rfl (hb hby at_21)
    have V40 : Arv Z h40 b37 k37 .boolean (5 : Int32) [(.int (0 : Int32)), (.int (1 : Int32)), (.int (1 : Int32)), (.int (0 : Int32)), (.int (0 : Int32))] (.int (0 : Int32)) := Arv.set Ar40 q40 S40 M40 H40 G40 (by decide) W40 2 rfl (Nat.le_of_ble_eq_true rfl)
    have N40 := Fr.snoc X40 N39 g_b37
    have O40 : Old Z n0 h40 := O39.wr W40 g_b37
    refine Go.st st40 ?_
    show Go p e below _ (T40.setTop (mkF m 22 #[.val (.int i0), .val (.int (4 : Int32)), .unset, .unset] [(.ref b37)]))
    refine Go.st (fun t k => XS.dup X40.here hx rfl (hb hby at_22) rfl rfl k) ?_
    show Go p e below _ (T40.setTop (mkF m 23 #[.val (.int i0), .val (.int (4 : Int32)), .unset, .unset] [(.ref b37), (.ref b37)]))
    refine Go.st (fun t k => XS.iconst X40.here hx rfl (hb hby at_23) k) ?_
    show Go p e below _ (T40.setTop (mkF m 24 #[.val (.int i0), .val (.int (4 : Int32)), .unset, .unset] [(.int (3 : Int32)), (.ref b37), (.ref b37)]))
    refine Go.st (fun t k => XS.iconst X40.here hx rfl (hb hby at_24) k) ?_
    show Go p e below _ (T40.setTop (mkF m 25 #[.val (.int i0), .val (.int (4 : Int32)), .unset, .unset] [(.int (0 : Int32)), (.int (3 : Int32)), (.ref b37), (.ref b37)]))
    obtain ⟨cl41, Ar41, q41, S41, M41, H41, G41⟩ := id V40
    have hin41 : ¬ ((3 : Int32) < 0 ∨ cl41.slots.size ≤ ((3 : Int32)).toNatClampNeg) := inb_of S41 ⟨by decide, by decide⟩
    obtain ⟨T41, h41, X41, e41, W41, st41⟩ := stZ X40 hx hZ e40 Ar41 (j := (3 : Int32)) hin41 (g := (mkF m 25 #[.val (.int i0), .val (.int (4 : Int32)), .unset, .unset] [(.int (0 : Int32)), (.int (3 : Int32)), (.ref b37), (.ref b37)])) rfl rfl (hb hby at_25)
    have V41 : Arv Z h41 b37 k37 .boolean (5 : Int32) [(.int (0 : Int32)), (.int (1 : Int32)), (.int (1 : Int32)), (.int (0 : Int32)), (.int (0 : Int32))] (.int (0 : Int32)) := Arv.set Ar41 q41 S41 M41 H41 G41 (by decide) W41 3 rfl (Nat.le_of_ble_eq_true rfl)
    have N41 := Fr.snoc X41 N40 g_b37
    have O41 : Old Z n0 h41 := O40.wr W41 g_b37
    refine Go.st st41 ?_
    show Go p e below _ (T41.setTop (mkF m 26 #[.val (.int i0), .val (.int (4 : Int32)), .unset, .unset] [(.ref b37)]))
    refine Go.st (fun t k => XS.dup X41.here hx rfl (hb hby at_26) rfl rfl k) ?_
    show Go p e below _ (T41.setTop (mkF m 27 #[.val (.int i0), .val (.int (4 : Int32)), .unset, .unset] [(.ref b37), (.ref b37)]))
    refine Go.st (fun t k => XS.iconst X41.here hx rfl (hb hby at_27) k) ?_
    show Go p e below _ (T41.setTop (mkF m 28 #[.val (.int i0), .val (.int (4 : Int32)), .unset, .unset] [(.int (4 : Int32)), (.ref b37), (.ref b37)]))
    refine Go.st (fun t k => XS.iconst X41.here hx rfl (hb hby at_28) k) ?_
    show Go p e below _ (T41.setTop (mkF m 29 #[.val (.int i0), .val (.int (4 : Int32)), .unset, .unset] [(.int (0 : Int32)), (.int (4 : Int32)), (.ref b37), (.ref b37)]))
    obtain ⟨cl42, Ar42, q42, S42, M42, H42, G42⟩ := id V41
    have hin42 : ¬ ((4 : Int32) < 0 ∨ cl42.slots.size ≤ ((4 : Int32)).toNatClampNeg) := inb_of S42 ⟨by decide, by decide⟩
    obtain ⟨T42, h42, X42, e42, W42, st42⟩ := stZ X41 hx hZ e41 Ar42 (j := (4 : Int32)) hin42 (g := (mkF m 29 #[.val (.int i0), .val (.int (4 : Int32)), .unset, .unset] [(.int (0 : Int32)), (.int (4 : Int32)), (.ref b37), (.ref b37)])) rfl rfl (hb hby at_29)
    have V42 : Arv Z h42 b37 k37 .boolean (5 : Int32) [(.int (0 : Int32)), (.int (1 : Int32)), (.int (1 : Int32)), (.int (0 : Int32)), (.int (0 : Int32))] (.int (0 : Int32)) := Arv.set Ar42 q42 S42 M42 H42 G42 (by decide) W42 4 rfl (Nat.le_of_ble_eq_true rfl)
    have N42 := Fr.snoc X42 N41 g_b37
    have O42 : Old Z n0 h42 := O41.wr W42 g_b37
    refine Go.st st42 ?_
    show Go p e below _ (T42.setTop (mkF m 30 #[.val (.int i0), .val (.int (4 : Int32)), .unset, .unset] [(.ref b37)]))
    refine Go.st (fun t k => XS.astoreN X42.here hx rfl (hb hby at_30) rfl rfl (l' := #[.val (.int i0), .val (.int (4 : Int32)), .val (.ref b37), .unset]) rfl k) ?_
    show Go p e below _ (T42.setTop (mkF m 31 #[.val (.int i0), .val (.int (4 : Int32)), .val (.ref b37), .unset] []))
    refine Go.st (fun t k => XS.iloadN X42.here hx rfl (hb hby at_31) rfl k) ?_
    show Go p e below _ (T42.setTop (mkF m 32 #[.val (.int i0), .val (.int (4 : Int32)), .val (.ref b37), .unset] [(.int (4 : Int32))]))
    obtain ⟨_, _, ⟨T43, L43, k43, n43⟩, -, X43, ⟨Lc43, hQ43, l43, y43, z43⟩, st43⟩ := Jvm.LawKit.callS X42 hx (y := (⟨"com/example/lease/lease/store/OutcomeIsFailurePinLaw", "pick", "(I)Lcom/example/lease/lease/store/Outcome;"⟩ : MethodName)) hown (mvT hZ (w2 hw)) (mvT hZ (w3 hw)) (mvT hZ (w4 hw)) (mvT hZ (w5 hw)) (by decide) (backOf (W := 0) (rm1_5 l Z a0 hw [] w35a h42 n0 O42 Y37) hZ (w5 hw) (w4 hw) (by decide) (by decide)) (g := (mkF m 32 #[.val (.int i0), .val (.int (4 : Int32)), .val (.ref b37), .unset] [(.int (4 : Int32))])) rfl (by rw [hml]; rfl) (argsL := [(.int (4 : Int32))]) (rest := []) (lenOf pd_0 rfl) rfl (by show 2 * 0 + _ ≤ _; exact Nat.le_of_eq rfl) (hb hby at_32) (fun vm₁ hw₁ => ⟨rfl, e42, (by decide : 1 + 0 ≤ _), (by decide : 5 + 0 ≤ _)⟩)
    dsimp only [Pt.U, Pt.locs, Pt.cells, Pt.slots] at X43 l43 y43 z43 st43 hQ43
    subst l43 y43 z43
    obtain ⟨rfl, M43, eh43⟩ := hQ43
    have N43 := Fr.app N42 M43
    refine Go.st st43 ?_
    show Go p e below _ (T43.setTop (mkF m 35 #[.val (.int i0), .val (.int (4 : Int32)), .val (.ref b37), .unset] [(.ref w35a)]))
    refine Go.st (fun t k => XS.astoreN X43.here hx rfl (hb hby at_35) rfl rfl (l' := #[.val (.int i0), .val (.int (4 : Int32)), .val (.ref b37), .val (.ref w35a)]) rfl k) ?_
    show Go p e below _ (T43.setTop (mkF m 36 #[.val (.int i0), .val (.int (4 : Int32)), .val (.ref b37), .val (.ref w35a)] []))
    refine Go.st (fun t k => XS.aloadN X43.here hx rfl (hb hby at_36) rfl rfl k) ?_
    show Go p e below _ (T43.setTop (mkF m 37 #[.val (.int i0), .val (.int (4 : Int32)), .val (.ref b37), .val (.ref w35a)] [(.ref w35a)]))
    obtain ⟨cq44, kq44, q44a, q44b, q44c⟩ := isOf hZ eh43 (Y38.ext O42.2)
    obtain ⟨_, _, ⟨T44, L44, k44, n44⟩, -, X44, ⟨Lc44, hQ44, l44, y44, z44⟩, st44⟩ := X43.virtualBack hx (y := (⟨"com/example/lease/lease/store/Outcome", "isFailure", "()Z"⟩ : MethodName)) (z := (⟨"com/example/lease/lease/store/Outcome", "isFailure", "()Z"⟩ : MethodName)) hown (mvT hZ (w9 hw)) (mvT hZ (w10 hw)) (notFace_of_selects (args := #[]) (mvT hZ (w12 hw))) (mvT hZ (w12 hw)) (mvT hZ (w11 hw)) (by decide) (backOf (W := 0) (rm2_1 l Z a0 hw [] w35a w23a w27a h42 n0 O42 Y25 (Ne.symm D55) Y29 (Ne.symm D57)) hZ (w13 hw) (w7 hw) (by decide) (by decide)) q44a q44c (g := (mkF m 37 #[.val (.int i0), .val (.int (4 : Int32)), .val (.ref b37), .val (.ref w35a)] [(.ref w35a)])) rfl (by rw [hml]; rfl) (Steps.refl _) (argsL := []) (rest := []) (lenOf pd_1 rfl) rfl (by show 2 * 0 + _ ≤ _; exact Nat.le_of_eq rfl) (hb hby at_37) (fun vm₁ hw₁ => ⟨rfl, eh43, (by decide : 1 + 0 ≤ _), (by decide : 5 + 0 ≤ _)⟩)
    dsimp only [Pt.U, Pt.locs, Pt.cells, Pt.slots] at X44 l44 y44 z44 st44 hQ44
    subst l44 y44 z44
    obtain ⟨rfl, M44, eh44⟩ := hQ44
    have N44 := Fr.app N43 M44
    refine Go.tr st44 ?_
    show Go p e below _ (T44.setTop (mkF m 40 #[.val (.int i0), .val (.int (4 : Int32)), .val (.ref b37), .val (.ref w35a)] [(.int (0 : Int32))]))
    refine Go.st (fun t k => XS.aloadN X44.here hx rfl (hb hby at_40) rfl rfl k) ?_
    show Go p e below _ (T44.setTop (mkF m 41 #[.val (.int i0), .val (.int (4 : Int32)), .val (.ref b37), .val (.ref w35a)] [(.ref b37), (.int (0 : Int32))]))
    refine Go.st (fun t k => XS.iloadN X44.here hx rfl (hb hby at_41) rfl k) ?_
    show Go p e below _ (T44.setTop (mkF m 42 #[.val (.int i0), .val (.int (4 : Int32)), .val (.ref b37), .val (.ref w35a)] [(.int (4 : Int32)), (.ref b37), (.int (0 : Int32))]))
    obtain ⟨cl45, Ar45, q45, S45, M45, H45, G45⟩ := id V42
    have hin45 : ¬ ((4 : Int32) < 0 ∨ cl45.slots.size ≤ ((4 : Int32)).toNatClampNeg) := inb_of S45 ⟨by decide, by decide⟩
    have hat45 : cl45.slots[((4 : Int32)).toNatClampNeg]? = some (.int (0 : Int32)) := H45.at hin45 rfl
    refine Go.st (fun t k => X44.baloadBooleans hx (j := (4 : Int32)) (v := (.int (0 : Int32))) (by rw [eh44]; exact Ar45.1) (State.isArrayOf_alike hZ.alike Ar45.2.1) Ar45.2.2 hin45 hat45 (g := (mkF m 42 #[.val (.int i0), .val (.int (4 : Int32)), .val (.ref b37), .val (.ref w35a)] [(.int (4 : Int32)), (.ref b37), (.int (0 : Int32))])) rfl rfl (hb hby at_42) t k) ?_
    show Go p e below _ (T44.setTop (mkF m 43 #[.val (.int i0), .val (.int (4 : Int32)), .val (.ref b37), .val (.ref w35a)] [(.int (0 : Int32)), (.int (0 : Int32))]))
    refine Go.st (fun t k => XS.icmpNo X44.here hx rfl (hb hby at_43) rfl (Jvm.Free.XT.ii_ne_f (by decide : (0 : Int32) = (0 : Int32))) k) ?_
    show Go p e below _ (T44.setTop (mkF m 46 #[.val (.int i0), .val (.int (4 : Int32)), .val (.ref b37), .val (.ref w35a)] []))
    refine Go.st (fun t k => XS.iconst X44.here hx rfl (hb hby at_46) k) ?_
    show Go p e below _ (T44.setTop (mkF m 47 #[.val (.int i0), .val (.int (4 : Int32)), .val (.ref b37), .val (.ref w35a)] [(.int (1 : Int32))]))
    refine Go.st (fun t k => XS.goto X44.here hx rfl (pc0 := 47) (pc' := 51) rfl (hb hby at_47) (by decide) (by decide) k) ?_
    show Go p e below _ (T44.setTop (mkF m 51 #[.val (.int i0), .val (.int (4 : Int32)), .val (.ref b37), .val (.ref w35a)] [(.int (1 : Int32))]))
    obtain ⟨fs, hr, hrun, hended, hWd, hsame⟩ := X44.leave (v := some (.int (1 : Int32))) (fun h => by rw [Bd.returns] at h; cases h)
    refine ⟨_, _, ?_, hrun, hended, _, _, rfl, ?_, ⟨⟨_, rfl⟩, hWd, hsame.mono (by decide) (by decide)⟩⟩
    · exact retN X44 hx (t := .boolean) Bd.returns (by simp) (hb hby at_51) hr
    · exact ⟨rfl, N44⟩
set_option maxRecDepth 65536 in
set_option maxHeartbeats 40000000 in
theorem comes_1 {Post : Tables → Env → Array Value → State → Outcome → State → Prop} (hpost : ∀ tb e args s v u, (limb_1_1.after args s (.returned v) u = true ∧ limb_1_2.after args s (.returned v) u = true ∧ True) → FrameEnd s (.returned v) u (Jvm.fieldLocs frame_1_writes args s ++ Jvm.arrayLocs frame_1_arrays args s ++ Jvm.staticLocs frame_1_statics s) 16 128 → Post tb e args s (.returned v) u) :
    ArmFor flags0 classFile x code maxLocals ret World_1 tables_1 room_1 Calls_1 rest_1 Pre_1 Post := by
  intro l hfl _ _ p e ha hc hk s m args below hf hA hF happ hP
  obtain ⟨hcalls, hrest, hpre⟩ := hP
  obtain ⟨-, -, -, hnamed, -, -, -, hat⟩ := (Spec.applies_iff hf).mp happ
  obtain ⟨hg, hn⟩ := and_e (Cond.before_iff.mp (show (Jvm.Cond.and given_1 narrow_1).before args s = true from hpre))
  obtain ⟨hcnt, hg⟩ := and_e hg
  have hv0 := hg
  obtain ⟨w0, rfl⟩ : ∃ w0 : Value, args = #[w0] := by
    have hs : args.size = 1 := by simpa [Cond.value, given_1] using hcnt
    obtain ⟨L⟩ := args
    match L, hs with
    | [w0], _ => exact ⟨w0, rfl⟩
  have hw := fun d (hd : d ∈ tables_1) => atoms_spec (ws := Jvm.Cond.code x code maxLocals ret :: tables_1) hat d (List.mem_cons_of_mem _ hd)
  have hfit : Fit s := fun {y c} hc i hi => by
    obtain ⟨ha, rfl⟩ := Array.getElem?_eq_some_iff.mp hc
    have q := List.all_eq_true.mp ((Array.all_eq_true_iff_forall_mem.mp hF) _ (Array.getElem_mem ha)) i (List.mem_range.mpr hi)
    simpa [Array.getElem?_eq_getElem hi] using q
  obtain ⟨i0, ei0⟩ := is_v hv0
  obtain rfl : w0 = (.int i0) := Option.some.inj ei0
  obtain ⟨u1, u2⟩ := and_e hn
  obtain ⟨u3, u4⟩ := and_e u2
  obtain ⟨u5, u6⟩ := and_e u4
  obtain ⟨u7, u8⟩ := and_e u6
  obtain ⟨u9, u10⟩ := and_e u8
  obtain ⟨u11, u12⟩ := and_e u10
  obtain ⟨u13, u14⟩ := and_e u12
  obtain ⟨u15, u16⟩ := and_e u14
  obtain ⟨u17, u18⟩ := and_e u16
  obtain ⟨w19a, ev20⟩ := exa_v u1
  have Y21 : Sta s s.heap "com/example/lease/lease/store/Outcome" "SUCCEEDED" "Lcom/example/lease/lease/store/Outcome;" (.ref w19a) := Sta.start ev20 (Or.inr ⟨(w7 hw), (w8 hw)⟩)
  have Y22 : Exa s s.heap w19a "com/example/lease/lease/store/Outcome" := Exa.start ev20 u1
  obtain ⟨w23a, ev24⟩ := exa_v u3
  have Y25 : Sta s s.heap "com/example/lease/lease/store/Outcome" "FAILED" "Lcom/example/lease/lease/store/Outcome;" (.ref w23a) := Sta.start ev24 (Or.inr ⟨(w7 hw), (w15 hw)⟩)
  have Y26 : Exa s s.heap w23a "com/example/lease/lease/store/Outcome" := Exa.start ev24 u3
  obtain ⟨w27a, ev28⟩ := exa_v u9
  have Y29 : Sta s s.heap "com/example/lease/lease/store/Outcome" "TIMED_OUT" "Lcom/example/lease/lease/store/Outcome;" (.ref w27a) := Sta.start ev28 (Or.inr ⟨(w7 hw), (w17 hw)⟩)
  have Y30 : Exa s s.heap w27a "com/example/lease/lease/store/Outcome" := Exa.start ev28 u9
  obtain ⟨w31a, ev32⟩ := exa_v u13
  have Y33 : Sta s s.heap "com/example/lease/lease/store/Outcome" "CANCELLED" "Lcom/example/lease/lease/store/Outcome;" (.ref w31a) := Sta.start ev32 (Or.inr ⟨(w7 hw), (w19 hw)⟩)
  have Y34 : Exa s s.heap w31a "com/example/lease/lease/store/Outcome" := Exa.start ev32 u13
  obtain ⟨w35a, ev36⟩ := exa_v u17
  have Y37 : Sta s s.heap "com/example/lease/lease/store/Outcome" "LOST" "Lcom/example/lease/lease/store/Outcome;" (.ref w35a) := Sta.start ev36 (Or.inr ⟨(w7 hw), (w22 hw)⟩)
  have Y38 : Exa s s.heap w35a "com/example/lease/lease/store/Outcome" := Exa.start ev36 u17
  have ev39 : (Term.field (Term.static "com/example/lease/lease/store/Outcome" "SUCCEEDED" "Lcom/example/lease/lease/store/Outcome;") "java/lang/Enum" "ordinal" "I").eval _ s none [] s = some (.int (0 : Int32)) := own_valI u5
  have Y40 : Fld s s.heap w19a "java/lang/Enum" "ordinal" "I" (.int (0 : Int32)) := Fld.start ((fld_at ev20).symm.trans ev39)
  have ev41 : (Term.field (Term.static "com/example/lease/lease/store/Outcome" "FAILED" "Lcom/example/lease/lease/store/Outcome;") "java/lang/Enum" "ordinal" "I").eval _ s none [] s = some (.int (1 : Int32)) := own_valI u7
  have Y42 : Fld s s.heap w23a "java/lang/Enum" "ordinal" "I" (.int (1 : Int32)) := Fld.start ((fld_at ev24).symm.trans ev41)
  have ev43 : (Term.field (Term.static "com/example/lease/lease/store/Outcome" "TIMED_OUT" "Lcom/example/lease/lease/store/Outcome;") "java/lang/Enum" "ordinal" "I").eval _ s none [] s = some (.int (2 : Int32)) := own_valI u11
  have Y44 : Fld s s.heap w27a "java/lang/Enum" "ordinal" "I" (.int (2 : Int32)) := Fld.start ((fld_at ev28).symm.trans ev43)
  have ev45 : (Term.field (Term.static "com/example/lease/lease/store/Outcome" "CANCELLED" "Lcom/example/lease/lease/store/Outcome;") "java/lang/Enum" "ordinal" "I").eval _ s none [] s = some (.int (3 : Int32)) := own_valI u15
  have Y46 : Fld s s.heap w31a "java/lang/Enum" "ordinal" "I" (.int (3 : Int32)) := Fld.start ((fld_at ev32).symm.trans ev45)
  have ev47 : (Term.field (Term.static "com/example/lease/lease/store/Outcome" "LOST" "Lcom/example/lease/lease/store/Outcome;") "java/lang/Enum" "ordinal" "I").eval _ s none [] s = some (.int (4 : Int32)) := own_valI u18
  have Y48 : Fld s s.heap w35a "java/lang/Enum" "ordinal" "I" (.int (4 : Int32)) := Fld.start ((fld_at ev36).symm.trans ev47)
  have D49 : w19a ≠ w23a := Fld.ne Y40 Y42 (fun q => absurd (Value.int.inj q) (by decide))
  have D50 : w19a ≠ w27a := Fld.ne Y40 Y44 (fun q => absurd (Value.int.inj q) (by decide))
  have D53 : w23a ≠ w27a := Fld.ne Y42 Y44 (fun q => absurd (Value.int.inj q) (by decide))
  have D54 : w23a ≠ w31a := Fld.ne Y42 Y46 (fun q => absurd (Value.int.inj q) (by decide))
  have D55 : w23a ≠ w35a := Fld.ne Y42 Y48 (fun q => absurd (Value.int.inj q) (by decide))
  have D56 : w27a ≠ w31a := Fld.ne Y44 Y46 (fun q => absurd (Value.int.inj q) (by decide))
  have D57 : w27a ≠ w35a := Fld.ne Y44 Y48 (fun q => absurd (Value.int.inj q) (by decide))
  obtain ⟨n, o, h1, h2, h3, _, L, rfl, ⟨rfl, N⟩, hq⟩ := rm0 l s _ hw tables_1 i0 w19a w23a w27a w31a w35a s.heap s.heap.size (Old.start s) Y21 Y22 Y25 Y26 Y29 Y30 Y33 Y34 Y37 Y38 D49 D50 D53 D54 D55 D56 D57 p e ha hc hk s m _ below hf ((Spec.applies_iff_loose hf).mp happ).1 ⟨rfl, State.Warmed39.refl s, rfl⟩ trivial
  refine ⟨n, _, h1, h2, h3, hpost _ _ _ _ _ _ ⟨Cond.after_iff.mpr rfl, Cond.after_iff.mpr (eq_i res_at (Term.int_eval (1)) rfl), trivial⟩ ⟨hq.1, hq.2.1, (hq.2.2.sift fun y hy => Or.inr (N y hy)).mono (by decide) (by decide)⟩⟩
theorem main_1_1 : Claimed_1_1 := comes_1 fun _ _ _ _ _ _ h hF => ⟨h.1, hF⟩
theorem main_1_2 : Claimed_1_2 := comes_1 fun _ _ _ _ _ _ h hF => ⟨h.2.1, hF⟩
end Jvm.Pilot.@@N@@
namespace Jvm.Pilot.@@N@@
open Jvm Jvm.ClassFile Sem Op Lib Jvm.Free Jvm.Stand Jvm.Pilot.@@N@@.Jvm.D
/-! MADE BY PROGRAM (witnessworld.py) out of the Statement's table words and the real class files: 14 classes; the members and pool entries that the words name. The judged class is class 1, her method 2. -/
namespace start1
open Jvm.ClassFile
def u (s : String) : CpInfo := .utf8 (stringToUtf16 s)
/-- a pool by its gaps: so many unusable entries, then the entry; so many at the end -/
def gap : Nat → List CpInfo → List CpInfo
  | 0, r => r
  | n + 1, r => .unusable :: gap n r
def poolList (es : List (Nat × CpInfo)) (last : Nat) : List CpInfo := es.foldr (fun e r => gap e.1 (e.2 :: r)) (gap last [])
def pool (es : List (Nat × CpInfo)) (last : Nat) : Array CpInfo := ⟨poolList es last⟩
def fileOf (pool : Array CpInfo) (this : Nat) (attrs : Array Attribute := #[]) (ms : Array MethodInfo := #[]) (fl : Nat := 33) (sup : Nat := 0) (ifs : Array Nat := #[]) (fds : Array FieldInfo := #[]) : ClassFile where
  minorVersion := 0
  majorVersion := 65
  constantPool := pool
  accessFlags := fl
  thisClass := this
  superClass := sup
  interfaces := ifs
  fields := fds
  methods := ms
  attributes := attrs
def plain (name : String) (sup : Option ClassId) : Class where
  name := name
  kind := .ordinary
  loader := none
  accessFlags := 33
  super := sup
  interfaces := #[]
  cf := none
  fields := #[]
  methods := #[]
  instanceTypes := #[]
  staticTypes := #[]
  resolved := #[]
  callSites := []
  init := .initialized
  statics := none
  mirror := none

def pool0 : Array CpInfo := pool [(5, u "<init>"), (0, u "()V"), (1, .class_ 10), (1, u "java/lang/Object")] 113

def k0m0 : Method := { name := "<init>", desc := "()V", sig := { parameters := [], returnType := none }, accessFlags := 1, code := none }
/-- java/lang/Object -/
def k0 : Class := { plain "java/lang/Object" none with
  accessFlags := 33
  interfaces := #[]
  cf := some (fileOf pool0 8 #[] #[{ accessFlags := 1, nameIndex := 5, descriptorIndex := 6, attributes := #[] }] 33 0 #[] #[])
  fields := #[]
  methods := #[k0m0]
  instanceTypes := #[]
  staticTypes := #[]
  resolved := Array.replicate 124 none
  statics := none }

def pool1 : Array CpInfo := pool [(2, .class_ 4), (1, u "java/lang/Object"), (0, u "<init>"), (0, u "()V"), (0, .fieldref 8 9), (0, .class_ 10), (0, .nameAndType 11 12), (0, u "com/example/lease/lease/store/Outcome"), (0, u "SUCCEEDED"), (0, u "Lcom/example/lease/lease/store/Outcome;"), (0, .fieldref 8 14), (0, .nameAndType 15 12), (0, u "FAILED"), (0, .fieldref 8 17), (0, .nameAndType 18 12), (0, u "TIMED_OUT"), (0, .fieldref 8 20), (0, .nameAndType 21 12), (0, u "CANCELLED"), (0, .fieldref 8 23), (0, .nameAndType 24 12), (0, u "LOST"), (0, .integer 2147483647), (0, .methodref 27 28), (0, .class_ 29), (0, .nameAndType 30 31), (0, u "com/example/lease/lease/store/OutcomeIsFailurePinLaw"), (0, u "pick"), (0, u "(I)Lcom/example/lease/lease/store/Outcome;"), (0, .methodref 8 33), (0, .nameAndType 34 35), (0, u "isFailure"), (0, u "()Z"), (3, u "law"), (0, u "(I)Z")] 4

def k1m0 : Method := { name := "<init>", desc := "()V", sig := { parameters := [], returnType := none }, accessFlags := 2, code := none }
def k1c1 : Code := { maxStack := 2, maxLocals := 1, code := method_2_code, exceptionTable := #[], attributes := #[] }
def k1m1 : Method := { name := "pick", desc := "(I)Lcom/example/lease/lease/store/Outcome;", sig := { parameters := [.int], returnType := some (.object "com/example/lease/lease/store/Outcome") }, accessFlags := 10, code := some k1c1 }
def k1c2 : Code := { maxStack := 4, maxLocals := 4, code := code, exceptionTable := #[], attributes := #[] }
def k1m2 : Method := { name := "law", desc := "(I)Z", sig := { parameters := [.int], returnType := some .boolean }, accessFlags := 9, code := some k1c2 }
/-- com/example/lease/lease/store/OutcomeIsFailurePinLaw -/
def k1 : Class := { plain "com/example/lease/lease/store/OutcomeIsFailurePinLaw" (some 0) with
  accessFlags := 49
  interfaces := #[]
  cf := some (fileOf pool1 27 #[] #[{ accessFlags := 2, nameIndex := 5, descriptorIndex := 6, attributes := #[] }, { accessFlags := 10, nameIndex := 30, descriptorIndex := 31, attributes := #[] }, { accessFlags := 9, nameIndex := 39, descriptorIndex := 40, attributes := #[] }] 49 2 #[] #[])
  fields := #[]
  methods := #[k1m0, k1m1, k1m2]
  instanceTypes := #[]
  staticTypes := #[]
  resolved := Array.replicate 45 none
  statics := none }

def pool2 : Array CpInfo := pool [(1, .class_ 2), (0, u "java/lang/constant/Constable"), (0, .class_ 4), (0, u "java/lang/Object")] 6

/-- java/lang/constant/Constable -/
def k2 : Class := { plain "java/lang/constant/Constable" (some 0) with
  accessFlags := 1537
  interfaces := #[]
  cf := some (fileOf pool2 1 #[] #[] 1537 3 #[] #[])
  fields := #[]
  methods := #[]
  instanceTypes := #[]
  staticTypes := #[]
  resolved := Array.replicate 11 none
  statics := none }

def pool3 : Array CpInfo := pool [(1, .class_ 2), (0, u "java/lang/Comparable"), (0, .class_ 4), (0, u "java/lang/Object")] 7

/-- java/lang/Comparable -/
def k3 : Class := { plain "java/lang/Comparable" (some 0) with
  accessFlags := 1537
  interfaces := #[]
  cf := some (fileOf pool3 1 #[] #[] 1537 3 #[] #[])
  fields := #[]
  methods := #[]
  instanceTypes := #[]
  staticTypes := #[]
  resolved := Array.replicate 12 none
  statics := none }

def pool4 : Array CpInfo := pool [(1, .class_ 2), (0, u "java/io/Serializable"), (0, .class_ 4), (0, u "java/lang/Object")] 2

/-- java/io/Serializable -/
def k4 : Class := { plain "java/io/Serializable" (some 0) with
  accessFlags := 1537
  interfaces := #[]
  cf := some (fileOf pool4 1 #[] #[] 1537 3 #[] #[])
  fields := #[]
  methods := #[]
  instanceTypes := #[]
  staticTypes := #[]
  resolved := Array.replicate 7 none
  statics := none }

def pool5 : Array CpInfo := pool [(2, .class_ 4), (1, u "java/lang/Enum"), (0, u "name"), (0, u "Ljava/lang/String;"), (2, u "ordinal"), (0, u "I"), (1, .class_ 14), (1, u "java/lang/Object"), (4, u "hash"), (86, .class_ 108), (1, u "java/lang/Enum$EnumDesc"), (2, .class_ 112), (0, u "java/lang/constant/Constable"), (0, .class_ 114), (0, u "java/lang/Comparable"), (0, .class_ 116), (0, u "java/io/Serializable")] 87

/-- java/lang/Enum -/
def k5 : Class := { plain "java/lang/Enum" (some 0) with
  accessFlags := 1057
  interfaces := #[2, 3, 4]
  cf := some (fileOf pool5 2 #[.nestMembers #[106]] #[] 1057 12 #[111, 113, 115] #[{ accessFlags := 18, nameIndex := 5, descriptorIndex := 6, attributes := #[] }, { accessFlags := 18, nameIndex := 9, descriptorIndex := 10, attributes := #[] }, { accessFlags := 2, nameIndex := 19, descriptorIndex := 10, attributes := #[] }])
  fields := #[{ name := "name", type := (.object "java/lang/String"), accessFlags := 18, slot := 0, constantValue := 0 }, { name := "ordinal", type := .int, accessFlags := 18, slot := 1, constantValue := 0 }, { name := "hash", type := .int, accessFlags := 2, slot := 2, constantValue := 0 }]
  methods := #[]
  instanceTypes := #[(.object "java/lang/String"), .int, .int]
  staticTypes := #[]
  resolved := Array.replicate 204 none
  statics := none }

def pool6 : Array CpInfo := pool [(1, .class_ 2), (0, u "com/example/lease/lease/store/Outcome"), (2, u "SUCCEEDED"), (0, u "Lcom/example/lease/lease/store/Outcome;"), (0, .fieldref 1 8), (0, .nameAndType 9 6), (0, u "FAILED"), (0, .fieldref 1 11), (0, .nameAndType 12 6), (0, u "TIMED_OUT"), (2, u "CANCELLED"), (2, u "LOST"), (2, u "$VALUES"), (0, u "[Lcom/example/lease/lease/store/Outcome;"), (6, .class_ 31), (1, u "java/lang/Enum"), (90, u "FAILURES"), (0, u "Ljava/lang/String;"), (5, u "isFailure"), (0, u "()Z")] 43

def k6c0 : Code := { maxStack := 2, maxLocals := 1, code := prog_56_method_4_code, exceptionTable := #[], attributes := #[] }
def k6m0 : Method := { name := "isFailure", desc := "()Z", sig := { parameters := [], returnType := some .boolean }, accessFlags := 1, code := some k6c0 }
/-- com/example/lease/lease/store/Outcome -/
def k6 : Class := { plain "com/example/lease/lease/store/Outcome" (some 5) with
  accessFlags := 16433
  interfaces := #[]
  cf := some (fileOf pool6 1 #[] #[{ accessFlags := 1, nameIndex := 129, descriptorIndex := 130, attributes := #[] }] 16433 29 #[] #[{ accessFlags := 16409, nameIndex := 5, descriptorIndex := 6, attributes := #[] }, { accessFlags := 16409, nameIndex := 9, descriptorIndex := 6, attributes := #[] }, { accessFlags := 16409, nameIndex := 12, descriptorIndex := 6, attributes := #[] }, { accessFlags := 16409, nameIndex := 15, descriptorIndex := 6, attributes := #[] }, { accessFlags := 16409, nameIndex := 18, descriptorIndex := 6, attributes := #[] }, { accessFlags := 24, nameIndex := 122, descriptorIndex := 123, attributes := #[] }, { accessFlags := 4122, nameIndex := 21, descriptorIndex := 22, attributes := #[] }])
  fields := #[{ name := "SUCCEEDED", type := (.object "com/example/lease/lease/store/Outcome"), accessFlags := 16409, slot := 0, constantValue := 0 }, { name := "FAILED", type := (.object "com/example/lease/lease/store/Outcome"), accessFlags := 16409, slot := 1, constantValue := 0 }, { name := "TIMED_OUT", type := (.object "com/example/lease/lease/store/Outcome"), accessFlags := 16409, slot := 2, constantValue := 0 }, { name := "CANCELLED", type := (.object "com/example/lease/lease/store/Outcome"), accessFlags := 16409, slot := 3, constantValue := 0 }, { name := "LOST", type := (.object "com/example/lease/lease/store/Outcome"), accessFlags := 16409, slot := 4, constantValue := 0 }, { name := "FAILURES", type := (.object "java/lang/String"), accessFlags := 24, slot := 5, constantValue := 0 }, { name := "$VALUES", type := (.array (.object "com/example/lease/lease/store/Outcome")), accessFlags := 4122, slot := 6, constantValue := 0 }]
  methods := #[k6m0]
  instanceTypes := #[(.object "java/lang/String"), .int, .int]
  staticTypes := #[(.object "com/example/lease/lease/store/Outcome"), (.object "com/example/lease/lease/store/Outcome"), (.object "com/example/lease/lease/store/Outcome"), (.object "com/example/lease/lease/store/Outcome"), (.object "com/example/lease/lease/store/Outcome"), (.object "java/lang/String"), (.array (.object "com/example/lease/lease/store/Outcome"))]
  resolved := Array.replicate 174 none
  statics := some 0 }

def pool7 : Array CpInfo := pool [(1, u "java/lang/Cloneable"), (0, .class_ 1), (0, u "java/lang/Object"), (0, .class_ 3)] 3

/-- java/lang/Cloneable -/
def k7 : Class := { plain "java/lang/Cloneable" (some 0) with
  accessFlags := 1537
  interfaces := #[]
  cf := some (fileOf pool7 2 #[] #[] 1537 4 #[] #[])
  fields := #[]
  methods := #[]
  instanceTypes := #[]
  staticTypes := #[]
  resolved := Array.replicate 8 none
  statics := none }

/-- the primitive boolean -/
def k8 : Class := { plain "boolean" none with kind := .primitive 'Z', accessFlags := 0x411 }
/-- [Z -/
def k9 : Class := { plain "[Z" (some 0) with kind := .array 8 .boolean, interfaces := #[7, 4], accessFlags := 1041 }

/-- the primitive byte -/
def k10 : Class := { plain "byte" none with kind := .primitive 'B', accessFlags := 0x411 }
/-- [B -/
def k11 : Class := { plain "[B" (some 0) with kind := .array 10 .byte, interfaces := #[7, 4], accessFlags := 1041 }

/-- the primitive int -/
def k12 : Class := { plain "int" none with kind := .primitive 'I', accessFlags := 0x411 }
/-- [I -/
def k13 : Class := { plain "[I" (some 0) with kind := .array 12 .int, interfaces := #[7, 4], accessFlags := 1041 }

def heap : Heap := #[{ cls := 6, slots := #[.ref 1, .ref 2, .ref 3, .ref 4, .ref 5, .null, .null], vm := .statics 6 },
  { cls := 6, slots := #[.null, .int 0, .int 0], vm := .none },
  { cls := 6, slots := #[.null, .int 1, .int 0], vm := .none },
  { cls := 6, slots := #[.null, .int 2, .int 0], vm := .none },
  { cls := 6, slots := #[.null, .int 3, .int 0], vm := .none },
  { cls := 6, slots := #[.null, .int 4, .int 0], vm := .none }]
def classes : Array Class := #[k0, k1, k2, k3, k4, k5, k6, k7, k8, k9, k10, k11, k12, k13]
def interned : List (Array UInt16 × Addr) := []
def slotsUsed : Nat := 22
def theMethod : MethodId := ⟨1, 2⟩
def args0 : Array Value := #[.int 1]
def aboutOver (below : List Frame) : State where
  vm := { classes := classes, interned := interned.toArray }
  heap := heap
  slotsUsed := slotsUsed
  threads := #[{ frames := .invoking theMethod args0 :: below }]
def below0 : List Frame := [.native { method := ⟨0, 0⟩, args := #[] }]
def about1 : State := aboutOver below0
def p0 : Program := .bare "" "" ""
def e0 : Env := launch0.env 0 0 0
theorem w_frames : about1.frames = Frame.invoking theMethod args0 :: below0 := rfl
set_option maxRecDepth 65536 in
theorem w_args : argsFit about1.vm theMethod args0 = true := by decide +kernel
set_option maxRecDepth 65536 in
theorem w_heap : heapFits about1 = true := by decide +kernel
set_option maxRecDepth 65536 in
theorem w_runnable : about1.curStatus? = some .runnable := by decide +kernel
set_option maxRecDepth 65536 in
theorem w_alone : about1.alone = true := by decide +kernel
set_option maxRecDepth 65536 in
theorem w_named : about1.methodNamed? x = some theMethod := by decide +kernel
set_option maxRecDepth 65536 in
theorem w_hears : about1.hears theMethod below0 = true := by decide +kernel
set_option maxRecDepth 65536 in
theorem w_ripe : about1.ripe theMethod args0 below0 = true := by decide +kernel
theorem w_running : about1.status = .running := rfl
set_option maxRecDepth 65536 in
theorem w_room : about1.hasRoom e0.platform room_1 = true :=
  launch0.hasRoom_least _ room_1 (by decide +kernel) (by decide +kernel) (by decide +kernel) (by decide +kernel) (by decide +kernel) (by decide +kernel)
theorem allAtoms_all (ts : List Jvm.Cond) (a : Array Jvm.Value) (st : Jvm.State) : (allAtoms ts).before a st = ts.all (fun c => c.before a st) := by
  induction ts with
  | nil => rfl
  | cons c t ih =>
    show (Jvm.Cond.and c (allAtoms t)).before a st = _
    rw [Jvm.Cond.before_and, ih, List.all_cons]
def words1 : List Jvm.Cond := Jvm.Cond.code x code maxLocals ret :: tables_1
/-- a 'code' word, met by the world's own term for the bytes: nothing is compared byte by byte -/
theorem code_word {y : MethodName} {bytes : ByteArray} {mx : Nat} {rt : Option FieldType} {a : Array Value} {s : State} {m : MethodId} {meth : Method} {c : Code} (h1 : s.methodNamed? y = some m) (h2 : s.vm.method? m = some meth) (h3 : meth.code = some c) (h4 : c.code = bytes)
    (h5 : (c.maxLocals == mx && c.exceptionTable.isEmpty && decide (c.maxStack ≤ mostOperands) && decide (meth.sig.returnType = rt) && !meth.locks && decide (parseMethodDescriptor y.desc = some meth.sig)) = true) : (Jvm.Cond.code y bytes mx rt).before a s = true := by
  simp only [Bool.and_eq_true, beq_iff_eq, Bool.not_eq_true', decide_eq_true_eq] at h5
  obtain ⟨⟨⟨⟨⟨g1, g2⟩, g3⟩, g4⟩, g5⟩, g6⟩ := h5
  simp [Cond.before, Cond.holds, Cond.value, h1, h2, h3, h4, g1, g2, g3, g4, g5, g6]
def isCode : Jvm.Cond → Bool
  | .code _ _ _ _ => true
  | _ => false
theorem all_split {L : List Jvm.Cond} {P : Jvm.Cond → Bool} (h1 : L.all (fun c => isCode c || P c) = true) (h2 : ∀ c ∈ L.filter isCode, P c = true) : L.all P = true := by
  refine List.all_eq_true.mpr fun c hc => ?_
  have h := List.all_eq_true.mp h1 c hc
  rcases Bool.eq_false_or_eq_true (isCode c) with hi | hi
  · exact h2 c (List.mem_filter.mpr ⟨hc, hi⟩)
  · simpa [hi] using h
set_option maxRecDepth 65536 in
theorem w_c0 : (Jvm.Cond.code x code maxLocals ret).before args0 about1 = true := code_word (m := ⟨1, 2⟩) (meth := k1m2) (c := k1c2) (by decide +kernel) rfl rfl rfl (by decide +kernel)
set_option maxRecDepth 65536 in
theorem w_c1 : (Jvm.Cond.code ({ cls := "com/example/lease/lease/store/OutcomeIsFailurePinLaw", name := "pick", desc := "(I)Lcom/example/lease/lease/store/Outcome;" } : Jvm.MethodName) method_2_code (1 : Nat) (Option.some (Jvm.ClassFile.FieldType.object "com/example/lease/lease/store/Outcome"))).before args0 about1 = true := code_word (m := ⟨1, 1⟩) (meth := k1m1) (c := k1c1) (by decide +kernel) rfl rfl rfl (by decide +kernel)
set_option maxRecDepth 65536 in
theorem w_c2 : (Jvm.Cond.code ({ cls := "com/example/lease/lease/store/Outcome", name := "isFailure", desc := "()Z" } : Jvm.MethodName) prog_56_method_4_code (1 : Nat) (Option.some Jvm.ClassFile.FieldType.boolean)).before args0 about1 = true := code_word (m := ⟨6, 0⟩) (meth := k6m0) (c := k6c0) (by decide +kernel) rfl rfl rfl (by decide +kernel)
def codes1 : List Jvm.Cond := [Jvm.Cond.code x code maxLocals ret, Jvm.Cond.code ({ cls := "com/example/lease/lease/store/OutcomeIsFailurePinLaw", name := "pick", desc := "(I)Lcom/example/lease/lease/store/Outcome;" } : Jvm.MethodName) method_2_code (1 : Nat) (Option.some (Jvm.ClassFile.FieldType.object "com/example/lease/lease/store/Outcome")), Jvm.Cond.code ({ cls := "com/example/lease/lease/store/Outcome", name := "isFailure", desc := "()Z" } : Jvm.MethodName) prog_56_method_4_code (1 : Nat) (Option.some Jvm.ClassFile.FieldType.boolean)]
set_option maxRecDepth 65536 in
theorem codes_eq : words1.filter isCode = codes1 := rfl
theorem w_codes : ∀ c ∈ words1.filter isCode, c.before args0 about1 = true := by
  rw [codes_eq]
  intro c hc
  simp only [codes1, List.mem_cons, List.not_mem_nil, or_false] at hc
  rcases hc with rfl | rfl | rfl
  · exact w_c0
  · exact w_c1
  · exact w_c2
set_option maxRecDepth 65536 in
theorem w_t1 : (words1.take 24).all (fun c => isCode c || c.before args0 about1) = true := by decide +kernel
set_option maxRecDepth 65536 in
theorem w_t2 : (words1.drop 24).all (fun c => isCode c || c.before args0 about1) = true := by decide +kernel
theorem w_tables : (allAtoms (Jvm.Cond.code x code maxLocals ret :: tables_1)).before args0 about1 = true := by
  rw [allAtoms_all]
  show words1.all (fun c => c.before args0 about1) = true
  refine all_split ?_ w_codes
  rw [← List.take_append_drop 24 words1, List.all_append, w_t1, w_t2]
  rfl
set_option maxRecDepth 65536 in
theorem w_case : (Jvm.Cond.and given_1 narrow_1).before args0 about1 = true := by decide +kernel
theorem w_applies : (headSpec (Jvm.Cond.code x code maxLocals ret :: tables_1) room_1).applies x e0.platform about1 = true :=
  (Spec.applies_iff w_frames).mpr ⟨w_running, w_runnable, w_alone, w_named, w_hears, w_ripe, w_room, w_tables⟩
theorem atStart : AtStart classFile x code maxLocals ret World_1 tables_1 room_1 Calls_1 rest_1 Pre_1 launch0 p0 e0 about1 theMethod args0 below0 :=
  ⟨lists_1, trivial, launch0.admits_env _ _ _, launch0.least_env, fairChoices_fair.cas, fairChoices_fair.clock, w_frames, w_args, w_heap, w_applies, trivial, trivial, w_case⟩
end start1
theorem witness_1 : WitnessClaimed_1 := ⟨start1.p0, start1.e0, start1.about1, start1.theMethod, start1.args0, start1.below0, start1.atStart⟩
end Jvm.Pilot.@@N@@
