import JvmDerived
import JvmDerived.Pilot.@@N@@Statement
import JvmDerived.Pilot.@@N@@Code
set_option linter.unusedVariables false
set_option linter.unusedSimpArgs false
namespace Jvm.RoadKit
open Sem ClassFile Op Lib Jvm.Stand Jvm.Free Jvm.LawKit
section New
variable {p : Program} {l : Launch} {e : Env} {R : Room} {s : State} {m : MethodId} {args : Array Value} {below : List Frame} {meth : Method} {c : Code} {T : State} {locs : List Loc} {cells slots : Nat}
theorem retI (X : Stand p l e R s m args below meth c T locs cells slots) (hx : p.tables.exec = Jvm.exec) {pc : Nat} {Ls : Array Slot} {z : Int32} {rest : List Value} (hret : meth.sig.returnType = some .int) (hd : decode c.code pc = .ok (.ireturn, 1)) {fs : List Frame}
    (hl : ∀ (f : JFrame) (acts : List Action), f.method = m → f.locked = none → f.entered = [] → (doReturn e (T.setTop f) acts (some (.int z))).1 = T.setFrames fs) : Steps p.tables e below (T.setTop (mkF m pc Ls (.int z :: rest))) (T.setFrames fs) := by
  have hm' : T.vm.method? m = some meth := X.method'
  have hn : narrow .int (.int z) = .int z := rfl
  show Steps p.tables e below (T.setTop { method := m, pc := pc, locals := Ls, stack := _ :: rest, locked := none }) _
  jvm_step X.here [X.here.top, hx, hd, hm', hret, hn]
  first | (intro acts; rw [hl _ acts rfl rfl rfl]) | rw [hl _ _ rfl rfl rfl]
  exact Steps.refl _
theorem own_retA (X : Stand p l e R s m args below meth c T locs cells slots) (hx : p.tables.exec = Jvm.exec) {pc : Nat} {Ls : Array Slot} {z : Value} {ty : FieldType} {rest : List Value} (hret : meth.sig.returnType = some ty) (hty : ty.isReference = true) (hz : z.isRef = true) (hd : decode c.code pc = .ok (.areturn, 1)) {fs : List Frame}
    (hl : ∀ (f : JFrame) (acts : List Action), f.method = m → f.locked = none → f.entered = [] → (doReturn e (T.setTop f) acts (some z)).1 = T.setFrames fs) : Steps p.tables e below (T.setTop (mkF m pc Ls (z :: rest))) (T.setFrames fs) := by
  have hm' : T.vm.method? m = some meth := X.method'
  show Steps p.tables e below (T.setTop { method := m, pc := pc, locals := Ls, stack := _ :: rest, locked := none }) _
  jvm_step X.here [X.here.top, hx, hd, hm', hret, hz, hty]
  first | (intro acts; rw [hl _ acts rfl rfl rfl]) | rw [hl _ _ rfl rfl rfl]
  exact Steps.refl _
theorem own_lremM {g : JFrame} {target : State} (X : Stand p l e R s m args below meth c T locs cells slots) (hx : p.tables.exec = Jvm.exec) (hg : g.method = m) {x y : Int64} {rest : List Value} (hd : decode c.code g.pc = .ok (.lrem, 1)) (hs : g.stack = .long y :: .long x :: rest) (hy : y ≠ 0)
    (hr : Steps p.tables e below (T.setTop { g with pc := g.pc + 1, stack := .long (x % y) :: rest }) target) : Steps p.tables e below (T.setTop g) target :=
  XS.lrem X.here hx hg hd hs hy (by rw [lrem_mod]; exact hr)
end New
end Jvm.RoadKit
namespace Jvm.Pilot.@@N@@
open Jvm Jvm.ClassFile Sem Op Lib Jvm.Free Jvm.Stand Jvm.LawKit Jvm.RoadKit Bundle Jvm.Pilot.@@N@@.Jvm.D
theorem own_selP {Z s : State} {args a0 : Array Value} {y : MethodName} {n : Nat} (hZ : Z.Warmed39 s.vm) (wi : (Jvm.Cond.instantiable y.cls n).before a0 Z = true) (wp : (Jvm.Cond.privateMethod y).before a0 Z = true) (wm : (Jvm.Cond.instanceMethod y).before a0 Z = true) (hy : y.cls ≠ "java/lang/invoke/MethodHandle" ∧ y.cls ≠ "java/lang/invoke/VarHandle") : (Jvm.Cond.selects y.cls y y).before args s = true := by
  obtain ⟨c, k, h1, h2, -, h3, -⟩ := Cond.instantiable_spec (mv (args := args) hZ wi)
  exact Jvm.Stand.selects_self_of_private h1 h2 (by simp only [Bool.or_eq_false_iff] at h3; exact h3.1) (Cond.privateMethod_at (mvP hZ wp (args := args))) (mv hZ wm) hy
theorem own_fitC {Z : State} {h : Heap} {a : Addr} {cl : Cell} {ty : FieldType} {vs : List Value} {dv : Value} (A : Arr Z h a cl ty) (H : Has cl vs dv) (G : ∀ i, i < cl.slots.size → fits ty (vs.getD i dv) = true) : FitC Z cl := fun i v hv => by
  obtain ⟨hi, -⟩ := Array.getElem?_eq_some_iff.mp hv
  obtain ⟨hs, k, hk, comp, hkind⟩ := A.2.1
  have e : Z.slotType? cl.cls .none i = some ty := by simp [State.slotType?, hk, hkind]
  have q := G i hi
  have hv' : v = vs.getD i dv := Option.some.inj (hv.symm.trans (H i hi))
  rw [State.fitsSlot, e, hv']
  exact q
theorem own_ibW {Z s : State} {vm₁ : Vm} {Ts : List String} (I : IB Z s.vm Ts) (h : s.WarmedH vm₁) : IB Z vm₁ Ts := by
  obtain ⟨more, q1, q2⟩ := I
  exact ⟨more, by rw [h.interned_eq]; exact q1, q2⟩
theorem own_litS {Z s : State} {vm₁ : Vm} {own : String} {i : Nat} {a : Addr} (L : Lit s own i a) (h : s.Warmed39 vm₁) : Lit (Z.setVm vm₁) own i a := State.resolvedAt?_warmed39 (s := s) h L
theorem own_litW {Z s : State} {vm₁ : Vm} {own : String} {i : Nat} {a : Addr} (L : Lit s own i a) (h : s.WarmedH vm₁) : Lit (Z.setVm vm₁) own i a := own_litS L h.wide
theorem own_backOfV {p : Program} {l : Launch} {e : Env} {R : Room} {s : State} {args : Array Value} {below : List Frame} {Z : State} {a0 : Array Value} {h : Heap} {y : MethodName} {bytes : ByteArray} {maxL : Nat} {ret : Option FieldType} {rm : Room} {len W : Nat} {as' : Array Value} {VP : Vm → Prop} {Q : Option Value → Heap → Vm → List Loc → Prop}
    (hM : MetFree l y (head1 [Jvm.Cond.code y bytes maxL ret] rm) (fun a U => a = as' ∧ Z.Warmed39 U.vm ∧ U.heap = h ∧ VP U.vm) (fun _ _ _ _ _ => True) (fun _ U o U' => ∃ v L, o = .returned v ∧ Q v U'.heap U'.vm L ∧ ReturnedEndW U o U' L rm.cells rm.slots))
    (hZ : Z.Warmed39 s.vm) (wc : (Jvm.Cond.code y bytes maxL ret).before a0 Z = true) (wz : (Jvm.Cond.initialized y.cls).before a0 Z = true) (hf : rm.frames + 1 ≤ R.frames) (hl : W + (maxL + 11) + rm.locals ≤ R.locals) :
    BackS l R p e below s args y len W (fun A a => a = as' ∧ A.U.heap = h ∧ VP A.U.vm ∧ A.cells + rm.cells ≤ R.cells ∧ A.slots + rm.slots ≤ R.slots)
      (fun A _ v B => ∃ L, Q v B.U.heap B.U.vm L ∧ B.locs = A.locs ++ L ∧ B.cells = A.cells + rm.cells ∧ B.slots = A.slots + rm.slots) := by
  refine BackS.of_freeW (bytes := bytes) (maxL := maxL) (ret := ret) (E := fun _ _ o t L k n => k = rm.cells ∧ n = rm.slots ∧ ∃ v, o = .returned v ∧ Q v t.heap t.vm L) hM hf hl ?_ ?_ (fun _ _ _ _ _ _ _ _ _ => trivial) ?_ ?_
  · intro m meth c A a Y hp
    have hU : Z.Warmed39 A.U.vm := wtrans hZ Y.warmed
    refine ⟨?_, mv hU wc, mv hU wz, hp.2.2.2.1, hp.2.2.2.2⟩
    show (Jvm.Cond.and _ .tt).before a A.U = true
    rw [Cond.before_and, mv hU wc]
    rfl
  · intro m meth c A a g mk Y hp
    exact ⟨hp.1, wtrans hZ Y.warmed, hp.2.1, hp.2.2.1⟩
  · rintro _ _ _ _ ⟨v, L, h1, h2, h3⟩
    exact ⟨L, _, _, h3, rfl, rfl, v, h1, h2⟩
  · rintro m meth c A a g mk v t L k n Y hp _ _ ⟨e1, e2, v', e3, e4⟩
    cases e3
    subst e1 e2
    exact ⟨L, e4, rfl, rfl, rfl⟩
theorem own_n0 {Z : State} {n0 : Nat} {h : Heap} (X : Old Z n0 h) : n0 ≤ h.size := X.1 ▸ X.2.1
/-- the run comes from U to an end of which P says enough -/
def Go (p : Program) (e : Env) (below : List Frame) (P : Outcome → State → Prop) (U : State) : Prop := ∃ s₂ o, Steps p.tables e below U s₂ ∧ s₂.status = .running ∧ Ended s₂ below o ∧ P o s₂
theorem Go.st {p : Program} {e : Env} {below : List Frame} {P : Outcome → State → Prop} {U V : State} (k : ∀ t, Steps p.tables e below V t → Steps p.tables e below U t) (g : Go p e below P V) : Go p e below P U := by
  obtain ⟨a, b, h, r⟩ := g
  exact ⟨a, b, k _ h, r⟩
theorem Go.tr {p : Program} {e : Env} {below : List Frame} {P : Outcome → State → Prop} {U V : State} (k : Steps p.tables e below U V) (g : Go p e below P V) : Go p e below P U := by
  obtain ⟨a, b, h, r⟩ := g
  exact ⟨a, b, k.trans h, r⟩
theorem Go.start {p : Program} {e : Env} {below : List Frame} {P : Outcome → State → Prop} {U V : State} (k : ∀ {t}, Steps p.tables e below V t → Steps p.tables e below U t) (g : Go p e below P V) : ∃ s₂ o, Steps p.tables e below U s₂ ∧ s₂.status = .running ∧ Ended s₂ below o ∧ P o s₂ := by
  obtain ⟨a, b, h, r⟩ := g
  exact ⟨a, b, k h, r⟩
theorem own_valI {args : Array Value} {s : State} {t : Term} {k : Int32} (h : (Cond.eq t (.int k)).value args s none s [] = some true) : t.eval args s none [] s = some (.int k) := by
  obtain ⟨x, y, h1, h2, h3, -⟩ := cmp_v (Or.inl h)
  have e2 : y = .int k := (Option.some.inj h2).symm
  subst e2
  cases x <;> simp [Kin, Value.isRef] at h3
  simp only [Cond.value, h1, h2] at h
  simp at h
  rw [h1, h]
theorem own_valJ {args : Array Value} {s : State} {t : Term} {k : Int64} (h : (Cond.eq t (.long k)).value args s none s [] = some true) : t.eval args s none [] s = some (.long k) := by
  obtain ⟨x, y, h1, h2, h3, -⟩ := cmp_v (Or.inl h)
  have e2 : y = .long k := (Option.some.inj h2).symm
  subst e2
  cases x <;> simp [Kin, Value.isRef] at h3
  simp only [Cond.value, h1, h2] at h
  simp at h
  rw [h1, h]
theorem own_eqR {args : Array Value} {s : State} {t u : Term} {a : Addr} (ev : t.eval args s none [] s = some (.ref a)) (h : (Cond.eq t u).value args s none s [] = some true) : u.eval args s none [] s = some (.ref a) := by
  obtain ⟨x, y, h1, h2, h3, -⟩ := cmp_v (Or.inl h)
  cases h1.symm.trans ev
  have hy : y.isRef = true := h3.2
  have q := gotT (eq_R h1 h2 rfl hy) h
  rw [h2, ← q]
theorem own_eqL {args : Array Value} {s : State} {t u : Term} {a : Addr} (ev : u.eval args s none [] s = some (.ref a)) (h : (Cond.eq t u).value args s none s [] = some true) : t.eval args s none [] s = some (.ref a) := by
  obtain ⟨x, y, h1, h2, -, h4⟩ := cmp_v (Or.inl h)
  cases h2.symm.trans ev
  have hx : x.isRef = true := h4.2
  have q := gotT (eq_R h1 h2 hx rfl) h
  rw [h1, q]
theorem own_elI {Z : State} {args : Array Value} {t : Term} {a : Addr} {cl : Cell} {ty : FieldType} {i k : Int32} (A : Arr Z Z.heap a cl ty) (ev : t.eval args Z none [] Z = some (.ref a)) (h : (Cond.eq (.elem t (.int i)) (.int k)).value args Z none Z [] = some true) : cl.slots[i.toNatClampNeg]? = some (.int k) := (elem_in (own_valI h) ev rfl A.1).2
theorem own_elJ {Z : State} {args : Array Value} {t : Term} {a : Addr} {cl : Cell} {ty : FieldType} {i : Int32} {k : Int64} (A : Arr Z Z.heap a cl ty) (ev : t.eval args Z none [] Z = some (.ref a)) (h : (Cond.eq (.elem t (.int i)) (.long k)).value args Z none Z [] = some true) : cl.slots[i.toNatClampNeg]? = some (.long k) := (elem_in (own_valJ h) ev rfl A.1).2
theorem own_elR {Z : State} {args : Array Value} {t u : Term} {a b : Addr} {cl : Cell} {ty : FieldType} {i : Int32} (A : Arr Z Z.heap a cl ty) (ev : t.eval args Z none [] Z = some (.ref a)) (eu : u.eval args Z none [] Z = some (.ref b)) (h : (Cond.eq (.elem t (.int i)) u).value args Z none Z [] = some true) : cl.slots[i.toNatClampNeg]? = some (.ref b) := (elem_in (own_eqL eu h) ev rfl A.1).2
theorem own_arv {Z : State} {args : Array Value} {t : Term} {a : Addr} {cl : Cell} {ty : FieldType} {z : Int32} {vs : List Value} {dv : Value} (hf : Fit Z) (A : Arr Z Z.heap a cl ty) (ev : t.eval args Z none [] Z = some (.ref a)) (h : (Cond.eq (.length t) (.int z)).value args Z none Z [] = some true) (hz : ¬ z < 0) (hl : z.toNatClampNeg = vs.length) (H : HasL cl 0 vs) : Arv Z Z.heap a cl.cls ty z vs dv := by
  have hv := own_valI h
  have hA : Z.arrayAt? a = some cl := A.fin (Vm.Alike.refl _)
  have q : cl.slots.size < 2 ^ 31 := by
    simp only [Term.eval, ev, hA] at hv
    by_cases hq : cl.slots.size < 2 ^ 31
    · exact hq
    · simp [hA, hq] at hv
  have e : cl.slots.size.toInt32 = z := by
    have := len_f (args := args) (first := Z) (o := none) (idx := []) ev hA q
    rw [this] at hv
    exact Value.int.inj (Option.some.inj hv)
  exact Arv.start hf A q e hz hl H
theorem own_neI {args : Array Value} {s : State} {t : Term} {x k : Int32} (ev : t.eval args s none [] s = some (.int x)) (h : (Cond.not (Cond.eq t (.int k))).value args s none s [] = some true) : ¬ (x = k) := by
  have h' := not_v h
  intro e
  subst e
  simp [Cond.value, ev, Term.eval] at h'
theorem own_b32 (x : Int32) : -2147483648 ≤ x.toInt ∧ x.toInt < 2147483648 := ⟨Int32.le_toInt x, Int32.toInt_lt x⟩
theorem own_b64 (x : Int64) : -9223372036854775808 ≤ x.toInt ∧ x.toInt < 9223372036854775808 := ⟨Int64.le_toInt x, Int64.toInt_lt x⟩
theorem own_nlt32 {x y : Int32} (h : ¬ x < y) : ¬ x.toInt < y.toInt := fun q => h (Int32.lt_iff_toInt_lt.mpr q)
theorem own_nlt64 {x y : Int64} (h : ¬ x < y) : ¬ x.toInt < y.toInt := fun q => h (Int64.lt_iff_toInt_lt.mpr q)
theorem own_neq32 {x y : Int32} (h : ¬ x = y) : ¬ x.toInt = y.toInt := fun q => h (Int32.toInt_inj.mp q)
theorem own_neq64 {x y : Int64} (h : ¬ x = y) : ¬ x.toInt = y.toInt := fun q => h (Int64.toInt_inj.mp q)
theorem own_mask32 (x m : Int32) (k : Nat) (P : Int) (hk : k ≤ 31) (hm : m.toBitVec.toNat = 2 ^ k - 1) (hP : P = (2 ^ k : Nat)) : (x &&& m).toInt = x.toInt % P := by rw [hP]; exact c_mask x m k hk hm
theorem own_mask64 (x m : Int64) (k : Nat) (P : Int) (hk : k ≤ 63) (hm : m.toBitVec.toNat = 2 ^ k - 1) (hP : P = (2 ^ k : Nat)) : (x &&& m).toInt = x.toInt % P := by rw [hP]; exact c_maskL x m k hk hm
theorem own_rem32 (x y : Int32) (d : Int) (hy : y.toInt = d) : (0 ≤ x.toInt → (x % y).toInt = x.toInt % d) ∧ (x.toInt < 0 → (x % y).toInt = -((-x.toInt) % d)) := c_irem x y d hy
theorem own_rem64 (x y : Int64) (d : Int) (hy : y.toInt = d) : (0 ≤ x.toInt → (x % y).toInt = x.toInt % d) ∧ (x.toInt < 0 → (x % y).toInt = -((-x.toInt) % d)) := by rw [Int64.toInt_mod, hy]; exact tr _ _
theorem own_iushr0 (x q : Int32) (hk : q.toBitVec.toNat % 32 = 0) : ((x.toUInt32 >>> (q &&& 31).toUInt32).toInt32).toInt = x.toInt := by
  have e : q &&& 31 = 0 := by
    apply Int32.toBitVec_inj.mp
    apply BitVec.eq_of_toNat_eq
    rw [Int32.toBitVec_and, BitVec.toNat_and]
    show q.toBitVec.toNat &&& 31 = 0
    rw [show (31 : Nat) = 2 ^ 5 - 1 from rfl, Nat.and_two_pow_sub_one_eq_mod]
    exact hk
  rw [e, show (0 : Int32).toUInt32 = 0 from by decide]
  simp
theorem own_lushr0 (x : Int64) (q : Int32) (hk : q.toBitVec.toNat % 64 = 0) : ((x.toUInt64 >>> (q &&& 0x3f).toInt64.toUInt64).toInt64).toInt = x.toInt := by
  have e : q &&& 0x3f = 0 := by
    apply Int32.toBitVec_inj.mp
    apply BitVec.eq_of_toNat_eq
    rw [Int32.toBitVec_and, BitVec.toNat_and]
    show q.toBitVec.toNat &&& 63 = 0
    rw [show (63 : Nat) = 2 ^ 6 - 1 from rfl, Nat.and_two_pow_sub_one_eq_mod]
    exact hk
  rw [e, show (0 : Int32).toInt64.toUInt64 = 0 from by decide]
  simp
theorem own_ishr (x q : Int32) (k : Nat) (P : Int) (hk : q.toBitVec.toNat % 32 = k) (hP : P = (2 ^ k : Nat)) : (x >>> (q &&& 31)).toInt = x.toInt / P := by rw [hP]; exact c_ishr x q k hk
theorem own_ishl (x q : Int32) (k : Nat) (P : Int) (hk : q.toBitVec.toNat % 32 = k) (hP : P = (2 ^ k : Nat)) : ((x <<< (q &&& 31)).toInt - x.toInt * P) % 4294967296 = 0 := by rw [hP]; exact c_ishl x q k hk
theorem own_iushr (x q : Int32) (k : Nat) (P : Int) (hk : q.toBitVec.toNat % 32 = k) (hP : P = (2 ^ k : Nat)) (h0 : 0 < k) : ((x.toUInt32 >>> (q &&& 31).toUInt32).toInt32).toInt = (x.toInt % 4294967296) / P := by rw [hP]; exact c_iushr x q k hk h0
theorem own_lshr (x : Int64) (q : Int32) (k : Nat) (P : Int) (hk : q.toBitVec.toNat % 64 = k) (hP : P = (2 ^ k : Nat)) : (x >>> (q &&& 0x3f).toInt64).toInt = x.toInt / P := by rw [hP]; exact c_lshr x q k hk
theorem own_lshl (x : Int64) (q : Int32) (k : Nat) (P : Int) (hk : q.toBitVec.toNat % 64 = k) (hP : P = (2 ^ k : Nat)) : ((x <<< (q &&& 0x3f).toInt64).toInt - x.toInt * P) % 18446744073709551616 = 0 := by rw [hP]; exact c_lshl x q k hk
theorem own_lushr (x : Int64) (q : Int32) (k : Nat) (P : Int) (hk : q.toBitVec.toNat % 64 = k) (hP : P = (2 ^ k : Nat)) (h0 : 0 < k) : ((x.toUInt64 >>> (q &&& 0x3f).toInt64.toUInt64).toInt64).toInt = (x.toInt % 18446744073709551616) / P := by rw [hP]; exact c_lushr x q k hk h0
theorem own_addOk64 {x y : Int64} (h : Jvm.Free.XT.fits64 (x.toInt + y.toInt)) : ¬ (((x + y) ^^^ x) &&& ((x + y) ^^^ y)) < 0 := by
  have q := Jvm.Free.XT.addOk64 h
  rw [Int64.xor_comm (x + y) x, Int64.xor_comm (x + y) y]
  exact q

theorem w0 {Z : State} {a0 : Array Value} (hw : ∀ d ∈ tables_1, d.before a0 Z = true) : (Jvm.Cond.methodLink "com/example/envelop/envelop/plan/ZoneNonePinLaw" (7 : Nat) ({ cls := "com/example/envelop/envelop/plan/Zone", name := "none", desc := "()Lcom/example/envelop/envelop/plan/Zone;" } : Jvm.MethodName)).before a0 Z = true := hw _ (List.mem_of_getElem? (i := 0) rfl)
theorem w1 {Z : State} {a0 : Array Value} (hw : ∀ d ∈ tables_1, d.before a0 Z = true) : (Jvm.Cond.static ({ cls := "com/example/envelop/envelop/plan/Zone", name := "none", desc := "()Lcom/example/envelop/envelop/plan/Zone;" } : Jvm.MethodName)).before a0 Z = true := hw _ (List.mem_of_getElem? (i := 1) rfl)
theorem w2 {Z : State} {a0 : Array Value} (hw : ∀ d ∈ tables_1, d.before a0 Z = true) : (Jvm.Cond.initialized "com/example/envelop/envelop/plan/Zone").before a0 Z = true := hw _ (List.mem_of_getElem? (i := 2) rfl)
theorem w3 {Z : State} {a0 : Array Value} (hw : ∀ d ∈ tables_1, d.before a0 Z = true) : (Jvm.Cond.code ({ cls := "com/example/envelop/envelop/plan/Zone", name := "none", desc := "()Lcom/example/envelop/envelop/plan/Zone;" } : Jvm.MethodName) prog_71_method_2_code (0 : Nat) (Option.some (Jvm.ClassFile.FieldType.object "com/example/envelop/envelop/plan/Zone"))).before a0 Z = true := hw _ (List.mem_of_getElem? (i := 3) rfl)
theorem w4 {Z : State} {a0 : Array Value} (hw : ∀ d ∈ tables_1, d.before a0 Z = true) : (Jvm.Cond.classLink "com/example/envelop/envelop/plan/Zone" (10 : Nat) "com/example/envelop/envelop/plan/Zone").before a0 Z = true := hw _ (List.mem_of_getElem? (i := 4) rfl)
theorem w5 {Z : State} {a0 : Array Value} (hw : ∀ d ∈ tables_1, d.before a0 Z = true) : (Jvm.Cond.instantiable "com/example/envelop/envelop/plan/Zone" (2 : Nat)).before a0 Z = true := hw _ (List.mem_of_getElem? (i := 5) rfl)
theorem w6 {Z : State} {a0 : Array Value} (hw : ∀ d ∈ tables_1, d.before a0 Z = true) : (Jvm.Cond.arrayClass Jvm.ClassFile.FieldType.long).before a0 Z = true := hw _ (List.mem_of_getElem? (i := 6) rfl)
theorem w7 {Z : State} {a0 : Array Value} (hw : ∀ d ∈ tables_1, d.before a0 Z = true) : (Jvm.Cond.fieldLink "com/example/envelop/envelop/plan/Zone" (19 : Nat) "com/example/envelop/envelop/plan/Zone" "ZERO" "J").before a0 Z = true := hw _ (List.mem_of_getElem? (i := 7) rfl)
theorem w8 {Z : State} {a0 : Array Value} (hw : ∀ d ∈ tables_1, d.before a0 Z = true) : (Jvm.Cond.laysStatic "com/example/envelop/envelop/plan/Zone" "ZERO" "J").before a0 Z = true := hw _ (List.mem_of_getElem? (i := 8) rfl)
theorem w9 {Z : State} {a0 : Array Value} (hw : ∀ d ∈ tables_1, d.before a0 Z = true) : (Jvm.Cond.methodLink "com/example/envelop/envelop/plan/Zone" (23 : Nat) ({ cls := "com/example/envelop/envelop/plan/Zone", name := "<init>", desc := "(I[J)V" } : Jvm.MethodName)).before a0 Z = true := hw _ (List.mem_of_getElem? (i := 9) rfl)
theorem w10 {Z : State} {a0 : Array Value} (hw : ∀ d ∈ tables_1, d.before a0 Z = true) : (Jvm.Cond.instanceMethod ({ cls := "com/example/envelop/envelop/plan/Zone", name := "<init>", desc := "(I[J)V" } : Jvm.MethodName)).before a0 Z = true := hw _ (List.mem_of_getElem? (i := 10) rfl)
theorem w11 {Z : State} {a0 : Array Value} (hw : ∀ d ∈ tables_1, d.before a0 Z = true) : (Jvm.Cond.code ({ cls := "com/example/envelop/envelop/plan/Zone", name := "<init>", desc := "(I[J)V" } : Jvm.MethodName) prog_71_method_1_code (3 : Nat) (Option.none : Option Jvm.ClassFile.FieldType)).before a0 Z = true := hw _ (List.mem_of_getElem? (i := 11) rfl)
theorem w12 {Z : State} {a0 : Array Value} (hw : ∀ d ∈ tables_1, d.before a0 Z = true) : (Jvm.Cond.methodLink "com/example/envelop/envelop/plan/Zone" (3 : Nat) ({ cls := "java/lang/Object", name := "<init>", desc := "()V" } : Jvm.MethodName)).before a0 Z = true := hw _ (List.mem_of_getElem? (i := 12) rfl)
theorem w13 {Z : State} {a0 : Array Value} (hw : ∀ d ∈ tables_1, d.before a0 Z = true) : (Jvm.Cond.instanceMethod ({ cls := "java/lang/Object", name := "<init>", desc := "()V" } : Jvm.MethodName)).before a0 Z = true := hw _ (List.mem_of_getElem? (i := 13) rfl)
theorem w14 {Z : State} {a0 : Array Value} (hw : ∀ d ∈ tables_1, d.before a0 Z = true) : (Jvm.Cond.code ({ cls := "java/lang/Object", name := "<init>", desc := "()V" } : Jvm.MethodName) object_method_1_code (1 : Nat) (Option.none : Option Jvm.ClassFile.FieldType)).before a0 Z = true := hw _ (List.mem_of_getElem? (i := 14) rfl)
theorem w15 {Z : State} {a0 : Array Value} (hw : ∀ d ∈ tables_1, d.before a0 Z = true) : (Jvm.Cond.fieldLink "com/example/envelop/envelop/plan/Zone" (9 : Nat) "com/example/envelop/envelop/plan/Zone" "size" "I").before a0 Z = true := hw _ (List.mem_of_getElem? (i := 15) rfl)
theorem w16 {Z : State} {a0 : Array Value} (hw : ∀ d ∈ tables_1, d.before a0 Z = true) : (Jvm.Cond.laysFinal "com/example/envelop/envelop/plan/Zone" "com/example/envelop/envelop/plan/Zone" "size" "I").before a0 Z = true := hw _ (List.mem_of_getElem? (i := 16) rfl)
theorem w17 {Z : State} {a0 : Array Value} (hw : ∀ d ∈ tables_1, d.before a0 Z = true) : (Jvm.Cond.fieldLink "com/example/envelop/envelop/plan/Zone" (15 : Nat) "com/example/envelop/envelop/plan/Zone" "bounds" "[J").before a0 Z = true := hw _ (List.mem_of_getElem? (i := 17) rfl)
theorem w18 {Z : State} {a0 : Array Value} (hw : ∀ d ∈ tables_1, d.before a0 Z = true) : (Jvm.Cond.laysFinal "com/example/envelop/envelop/plan/Zone" "com/example/envelop/envelop/plan/Zone" "bounds" "[J").before a0 Z = true := hw _ (List.mem_of_getElem? (i := 18) rfl)
theorem w19 {Z : State} {a0 : Array Value} (hw : ∀ d ∈ tables_1, d.before a0 Z = true) : (Jvm.Cond.methodLink "com/example/envelop/envelop/plan/ZoneNonePinLaw" (13 : Nat) ({ cls := "com/example/envelop/envelop/plan/Zone", name := "clocks", desc := "()I" } : Jvm.MethodName)).before a0 Z = true := hw _ (List.mem_of_getElem? (i := 19) rfl)
theorem w20 {Z : State} {a0 : Array Value} (hw : ∀ d ∈ tables_1, d.before a0 Z = true) : (Jvm.Cond.declares ({ cls := "com/example/envelop/envelop/plan/Zone", name := "clocks", desc := "()I" } : Jvm.MethodName)).before a0 Z = true := hw _ (List.mem_of_getElem? (i := 20) rfl)
theorem w21 {Z : State} {a0 : Array Value} (hw : ∀ d ∈ tables_1, d.before a0 Z = true) : (Jvm.Cond.instanceMethod ({ cls := "com/example/envelop/envelop/plan/Zone", name := "clocks", desc := "()I" } : Jvm.MethodName)).before a0 Z = true := hw _ (List.mem_of_getElem? (i := 21) rfl)
theorem w22 {Z : State} {a0 : Array Value} (hw : ∀ d ∈ tables_1, d.before a0 Z = true) : (Jvm.Cond.selects "com/example/envelop/envelop/plan/Zone" ({ cls := "com/example/envelop/envelop/plan/Zone", name := "clocks", desc := "()I" } : Jvm.MethodName) ({ cls := "com/example/envelop/envelop/plan/Zone", name := "clocks", desc := "()I" } : Jvm.MethodName)).before a0 Z = true := hw _ (List.mem_of_getElem? (i := 22) rfl)
theorem w23 {Z : State} {a0 : Array Value} (hw : ∀ d ∈ tables_1, d.before a0 Z = true) : (Jvm.Cond.code ({ cls := "com/example/envelop/envelop/plan/Zone", name := "clocks", desc := "()I" } : Jvm.MethodName) prog_71_method_6_code (1 : Nat) (Option.some Jvm.ClassFile.FieldType.int)).before a0 Z = true := hw _ (List.mem_of_getElem? (i := 23) rfl)
theorem w24 {Z : State} {a0 : Array Value} (hw : ∀ d ∈ tables_1, d.before a0 Z = true) : (Jvm.Cond.methodLink "com/example/envelop/envelop/plan/ZoneNonePinLaw" (17 : Nat) ({ cls := "com/example/envelop/envelop/plan/Zone", name := "within", desc := "(Lcom/example/envelop/envelop/plan/Zone;)Z" } : Jvm.MethodName)).before a0 Z = true := hw _ (List.mem_of_getElem? (i := 24) rfl)
theorem w25 {Z : State} {a0 : Array Value} (hw : ∀ d ∈ tables_1, d.before a0 Z = true) : (Jvm.Cond.declares ({ cls := "com/example/envelop/envelop/plan/Zone", name := "within", desc := "(Lcom/example/envelop/envelop/plan/Zone;)Z" } : Jvm.MethodName)).before a0 Z = true := hw _ (List.mem_of_getElem? (i := 25) rfl)
theorem w26 {Z : State} {a0 : Array Value} (hw : ∀ d ∈ tables_1, d.before a0 Z = true) : (Jvm.Cond.instanceMethod ({ cls := "com/example/envelop/envelop/plan/Zone", name := "within", desc := "(Lcom/example/envelop/envelop/plan/Zone;)Z" } : Jvm.MethodName)).before a0 Z = true := hw _ (List.mem_of_getElem? (i := 26) rfl)
theorem w27 {Z : State} {a0 : Array Value} (hw : ∀ d ∈ tables_1, d.before a0 Z = true) : (Jvm.Cond.selects "com/example/envelop/envelop/plan/Zone" ({ cls := "com/example/envelop/envelop/plan/Zone", name := "within", desc := "(Lcom/example/envelop/envelop/plan/Zone;)Z" } : Jvm.MethodName) ({ cls := "com/example/envelop/envelop/plan/Zone", name := "within", desc := "(Lcom/example/envelop/envelop/plan/Zone;)Z" } : Jvm.MethodName)).before a0 Z = true := hw _ (List.mem_of_getElem? (i := 27) rfl)
theorem w28 {Z : State} {a0 : Array Value} (hw : ∀ d ∈ tables_1, d.before a0 Z = true) : (Jvm.Cond.code ({ cls := "com/example/envelop/envelop/plan/Zone", name := "within", desc := "(Lcom/example/envelop/envelop/plan/Zone;)Z" } : Jvm.MethodName) prog_71_method_17_code (3 : Nat) (Option.some Jvm.ClassFile.FieldType.boolean)).before a0 Z = true := hw _ (List.mem_of_getElem? (i := 28) rfl)
theorem w29 {Z : State} {a0 : Array Value} (hw : ∀ d ∈ tables_1, d.before a0 Z = true) : (Jvm.Cond.methodLink "com/example/envelop/envelop/plan/ZoneNonePinLaw" (21 : Nat) ({ cls := "com/example/envelop/envelop/plan/Zone", name := "reset", desc := "()Lcom/example/envelop/envelop/plan/Zone;" } : Jvm.MethodName)).before a0 Z = true := hw _ (List.mem_of_getElem? (i := 29) rfl)
theorem w30 {Z : State} {a0 : Array Value} (hw : ∀ d ∈ tables_1, d.before a0 Z = true) : (Jvm.Cond.declares ({ cls := "com/example/envelop/envelop/plan/Zone", name := "reset", desc := "()Lcom/example/envelop/envelop/plan/Zone;" } : Jvm.MethodName)).before a0 Z = true := hw _ (List.mem_of_getElem? (i := 30) rfl)
theorem w31 {Z : State} {a0 : Array Value} (hw : ∀ d ∈ tables_1, d.before a0 Z = true) : (Jvm.Cond.instanceMethod ({ cls := "com/example/envelop/envelop/plan/Zone", name := "reset", desc := "()Lcom/example/envelop/envelop/plan/Zone;" } : Jvm.MethodName)).before a0 Z = true := hw _ (List.mem_of_getElem? (i := 31) rfl)
theorem w32 {Z : State} {a0 : Array Value} (hw : ∀ d ∈ tables_1, d.before a0 Z = true) : (Jvm.Cond.selects "com/example/envelop/envelop/plan/Zone" ({ cls := "com/example/envelop/envelop/plan/Zone", name := "reset", desc := "()Lcom/example/envelop/envelop/plan/Zone;" } : Jvm.MethodName) ({ cls := "com/example/envelop/envelop/plan/Zone", name := "reset", desc := "()Lcom/example/envelop/envelop/plan/Zone;" } : Jvm.MethodName)).before a0 Z = true := hw _ (List.mem_of_getElem? (i := 32) rfl)
theorem w33 {Z : State} {a0 : Array Value} (hw : ∀ d ∈ tables_1, d.before a0 Z = true) : (Jvm.Cond.code ({ cls := "com/example/envelop/envelop/plan/Zone", name := "reset", desc := "()Lcom/example/envelop/envelop/plan/Zone;" } : Jvm.MethodName) prog_71_method_13_code (4 : Nat) (Option.some (Jvm.ClassFile.FieldType.object "com/example/envelop/envelop/plan/Zone"))).before a0 Z = true := hw _ (List.mem_of_getElem? (i := 33) rfl)
theorem w34 {Z : State} {a0 : Array Value} (hw : ∀ d ∈ tables_1, d.before a0 Z = true) : (Jvm.Cond.methodLink "com/example/envelop/envelop/plan/Zone" (49 : Nat) ({ cls := "java/lang/System", name := "arraycopy", desc := "(Ljava/lang/Object;ILjava/lang/Object;II)V" } : Jvm.MethodName)).before a0 Z = true := hw _ (List.mem_of_getElem? (i := 34) rfl)
theorem w35 {Z : State} {a0 : Array Value} (hw : ∀ d ∈ tables_1, d.before a0 Z = true) : (Jvm.Cond.static ({ cls := "java/lang/System", name := "arraycopy", desc := "(Ljava/lang/Object;ILjava/lang/Object;II)V" } : Jvm.MethodName)).before a0 Z = true := hw _ (List.mem_of_getElem? (i := 35) rfl)
theorem w36 {Z : State} {a0 : Array Value} (hw : ∀ d ∈ tables_1, d.before a0 Z = true) : (Jvm.Cond.initialized "java/lang/System").before a0 Z = true := hw _ (List.mem_of_getElem? (i := 36) rfl)
theorem w37 {Z : State} {a0 : Array Value} (hw : ∀ d ∈ tables_1, d.before a0 Z = true) : (Jvm.Cond.native ({ cls := "java/lang/System", name := "arraycopy", desc := "(Ljava/lang/Object;ILjava/lang/Object;II)V" } : Jvm.MethodName)).before a0 Z = true := hw _ (List.mem_of_getElem? (i := 37) rfl)
theorem w38 {Z : State} {a0 : Array Value} (hw : ∀ d ∈ tables_1, d.before a0 Z = true) : (Jvm.Cond.methodLink "com/example/envelop/envelop/plan/Zone" (41 : Nat) ({ cls := "com/example/envelop/envelop/plan/Zone", name := "get", desc := "(II)J" } : Jvm.MethodName)).before a0 Z = true := hw _ (List.mem_of_getElem? (i := 38) rfl)
theorem w39 {Z : State} {a0 : Array Value} (hw : ∀ d ∈ tables_1, d.before a0 Z = true) : (Jvm.Cond.instanceMethod ({ cls := "com/example/envelop/envelop/plan/Zone", name := "get", desc := "(II)J" } : Jvm.MethodName)).before a0 Z = true := hw _ (List.mem_of_getElem? (i := 39) rfl)
theorem w40 {Z : State} {a0 : Array Value} (hw : ∀ d ∈ tables_1, d.before a0 Z = true) : (Jvm.Cond.privateMethod ({ cls := "com/example/envelop/envelop/plan/Zone", name := "get", desc := "(II)J" } : Jvm.MethodName)).before a0 Z = true := hw _ (List.mem_of_getElem? (i := 40) rfl)
theorem w41 {Z : State} {a0 : Array Value} (hw : ∀ d ∈ tables_1, d.before a0 Z = true) : (Jvm.Cond.code ({ cls := "com/example/envelop/envelop/plan/Zone", name := "get", desc := "(II)J" } : Jvm.MethodName) prog_71_method_7_code (3 : Nat) (Option.some Jvm.ClassFile.FieldType.long)).before a0 Z = true := hw _ (List.mem_of_getElem? (i := 41) rfl)
theorem w42 {Z : State} {a0 : Array Value} (hw : ∀ d ∈ tables_1, d.before a0 Z = true) : (Jvm.Cond.methodLink "com/example/envelop/envelop/plan/ZoneNonePinLaw" (24 : Nat) ({ cls := "com/example/envelop/envelop/plan/Zone", name := "impliesAtLeast", desc := "(IJ)Z" } : Jvm.MethodName)).before a0 Z = true := hw _ (List.mem_of_getElem? (i := 42) rfl)
theorem w43 {Z : State} {a0 : Array Value} (hw : ∀ d ∈ tables_1, d.before a0 Z = true) : (Jvm.Cond.declares ({ cls := "com/example/envelop/envelop/plan/Zone", name := "impliesAtLeast", desc := "(IJ)Z" } : Jvm.MethodName)).before a0 Z = true := hw _ (List.mem_of_getElem? (i := 43) rfl)
theorem w44 {Z : State} {a0 : Array Value} (hw : ∀ d ∈ tables_1, d.before a0 Z = true) : (Jvm.Cond.instanceMethod ({ cls := "com/example/envelop/envelop/plan/Zone", name := "impliesAtLeast", desc := "(IJ)Z" } : Jvm.MethodName)).before a0 Z = true := hw _ (List.mem_of_getElem? (i := 44) rfl)
theorem w45 {Z : State} {a0 : Array Value} (hw : ∀ d ∈ tables_1, d.before a0 Z = true) : (Jvm.Cond.selects "com/example/envelop/envelop/plan/Zone" ({ cls := "com/example/envelop/envelop/plan/Zone", name := "impliesAtLeast", desc := "(IJ)Z" } : Jvm.MethodName) ({ cls := "com/example/envelop/envelop/plan/Zone", name := "impliesAtLeast", desc := "(IJ)Z" } : Jvm.MethodName)).before a0 Z = true := hw _ (List.mem_of_getElem? (i := 45) rfl)
theorem w46 {Z : State} {a0 : Array Value} (hw : ∀ d ∈ tables_1, d.before a0 Z = true) : (Jvm.Cond.code ({ cls := "com/example/envelop/envelop/plan/Zone", name := "impliesAtLeast", desc := "(IJ)Z" } : Jvm.MethodName) prog_71_method_11_code (4 : Nat) (Option.some Jvm.ClassFile.FieldType.boolean)).before a0 Z = true := hw _ (List.mem_of_getElem? (i := 46) rfl)
theorem w47 {Z : State} {a0 : Array Value} (hw : ∀ d ∈ tables_1, d.before a0 Z = true) : (Jvm.Cond.methodLink "com/example/envelop/envelop/plan/Zone" (33 : Nat) ({ cls := "com/example/envelop/envelop/plan/Zone", name := "atMost", desc := "(J)J" } : Jvm.MethodName)).before a0 Z = true := hw _ (List.mem_of_getElem? (i := 47) rfl)
theorem w48 {Z : State} {a0 : Array Value} (hw : ∀ d ∈ tables_1, d.before a0 Z = true) : (Jvm.Cond.static ({ cls := "com/example/envelop/envelop/plan/Zone", name := "atMost", desc := "(J)J" } : Jvm.MethodName)).before a0 Z = true := hw _ (List.mem_of_getElem? (i := 48) rfl)
theorem w49 {Z : State} {a0 : Array Value} (hw : ∀ d ∈ tables_1, d.before a0 Z = true) : (Jvm.Cond.code ({ cls := "com/example/envelop/envelop/plan/Zone", name := "atMost", desc := "(J)J" } : Jvm.MethodName) prog_71_method_3_code (2 : Nat) (Option.some Jvm.ClassFile.FieldType.long)).before a0 Z = true := hw _ (List.mem_of_getElem? (i := 49) rfl)
theorem w50 {Z : State} {a0 : Array Value} (hw : ∀ d ∈ tables_1, d.before a0 Z = true) : (Jvm.Cond.methodLink "com/example/envelop/envelop/plan/ZoneNonePinLaw" (28 : Nat) ({ cls := "com/example/envelop/envelop/plan/Zone", name := "atMost", desc := "(IJ)Lcom/example/envelop/envelop/plan/Zone;" } : Jvm.MethodName)).before a0 Z = true := hw _ (List.mem_of_getElem? (i := 50) rfl)
theorem w51 {Z : State} {a0 : Array Value} (hw : ∀ d ∈ tables_1, d.before a0 Z = true) : (Jvm.Cond.declares ({ cls := "com/example/envelop/envelop/plan/Zone", name := "atMost", desc := "(IJ)Lcom/example/envelop/envelop/plan/Zone;" } : Jvm.MethodName)).before a0 Z = true := hw _ (List.mem_of_getElem? (i := 51) rfl)
theorem w52 {Z : State} {a0 : Array Value} (hw : ∀ d ∈ tables_1, d.before a0 Z = true) : (Jvm.Cond.instanceMethod ({ cls := "com/example/envelop/envelop/plan/Zone", name := "atMost", desc := "(IJ)Lcom/example/envelop/envelop/plan/Zone;" } : Jvm.MethodName)).before a0 Z = true := hw _ (List.mem_of_getElem? (i := 52) rfl)
theorem w53 {Z : State} {a0 : Array Value} (hw : ∀ d ∈ tables_1, d.before a0 Z = true) : (Jvm.Cond.selects "com/example/envelop/envelop/plan/Zone" ({ cls := "com/example/envelop/envelop/plan/Zone", name := "atMost", desc := "(IJ)Lcom/example/envelop/envelop/plan/Zone;" } : Jvm.MethodName) ({ cls := "com/example/envelop/envelop/plan/Zone", name := "atMost", desc := "(IJ)Lcom/example/envelop/envelop/plan/Zone;" } : Jvm.MethodName)).before a0 Z = true := hw _ (List.mem_of_getElem? (i := 53) rfl)
theorem w54 {Z : State} {a0 : Array Value} (hw : ∀ d ∈ tables_1, d.before a0 Z = true) : (Jvm.Cond.code ({ cls := "com/example/envelop/envelop/plan/Zone", name := "atMost", desc := "(IJ)Lcom/example/envelop/envelop/plan/Zone;" } : Jvm.MethodName) prog_71_method_9_code (4 : Nat) (Option.some (Jvm.ClassFile.FieldType.object "com/example/envelop/envelop/plan/Zone"))).before a0 Z = true := hw _ (List.mem_of_getElem? (i := 54) rfl)
theorem w55 {Z : State} {a0 : Array Value} (hw : ∀ d ∈ tables_1, d.before a0 Z = true) : (Jvm.Cond.methodLink "com/example/envelop/envelop/plan/Zone" (37 : Nat) ({ cls := "com/example/envelop/envelop/plan/Zone", name := "constrain", desc := "(IIJ)Lcom/example/envelop/envelop/plan/Zone;" } : Jvm.MethodName)).before a0 Z = true := hw _ (List.mem_of_getElem? (i := 55) rfl)
theorem w56 {Z : State} {a0 : Array Value} (hw : ∀ d ∈ tables_1, d.before a0 Z = true) : (Jvm.Cond.instanceMethod ({ cls := "com/example/envelop/envelop/plan/Zone", name := "constrain", desc := "(IIJ)Lcom/example/envelop/envelop/plan/Zone;" } : Jvm.MethodName)).before a0 Z = true := hw _ (List.mem_of_getElem? (i := 56) rfl)
theorem w57 {Z : State} {a0 : Array Value} (hw : ∀ d ∈ tables_1, d.before a0 Z = true) : (Jvm.Cond.privateMethod ({ cls := "com/example/envelop/envelop/plan/Zone", name := "constrain", desc := "(IIJ)Lcom/example/envelop/envelop/plan/Zone;" } : Jvm.MethodName)).before a0 Z = true := hw _ (List.mem_of_getElem? (i := 57) rfl)
theorem w58 {Z : State} {a0 : Array Value} (hw : ∀ d ∈ tables_1, d.before a0 Z = true) : (Jvm.Cond.code ({ cls := "com/example/envelop/envelop/plan/Zone", name := "constrain", desc := "(IIJ)Lcom/example/envelop/envelop/plan/Zone;" } : Jvm.MethodName) prog_71_method_12_code (15 : Nat) (Option.some (Jvm.ClassFile.FieldType.object "com/example/envelop/envelop/plan/Zone"))).before a0 Z = true := hw _ (List.mem_of_getElem? (i := 58) rfl)
theorem w59 {Z : State} {a0 : Array Value} (hw : ∀ d ∈ tables_1, d.before a0 Z = true) : (Jvm.Cond.methodLink "com/example/envelop/envelop/plan/Zone" (45 : Nat) ({ cls := "com/example/envelop/envelop/plan/Zone", name := "sum", desc := "(JJ)J" } : Jvm.MethodName)).before a0 Z = true := hw _ (List.mem_of_getElem? (i := 59) rfl)
theorem w60 {Z : State} {a0 : Array Value} (hw : ∀ d ∈ tables_1, d.before a0 Z = true) : (Jvm.Cond.static ({ cls := "com/example/envelop/envelop/plan/Zone", name := "sum", desc := "(JJ)J" } : Jvm.MethodName)).before a0 Z = true := hw _ (List.mem_of_getElem? (i := 60) rfl)
theorem w61 {Z : State} {a0 : Array Value} (hw : ∀ d ∈ tables_1, d.before a0 Z = true) : (Jvm.Cond.code ({ cls := "com/example/envelop/envelop/plan/Zone", name := "sum", desc := "(JJ)J" } : Jvm.MethodName) prog_71_method_5_code (4 : Nat) (Option.some Jvm.ClassFile.FieldType.long)).before a0 Z = true := hw _ (List.mem_of_getElem? (i := 61) rfl)
theorem w62 {Z : State} {a0 : Array Value} (hw : ∀ d ∈ tables_1, d.before a0 Z = true) : (Jvm.Cond.constantLong "com/example/envelop/envelop/plan/Zone" (26 : Nat) (9223372036854775807 : Int64)).before a0 Z = true := hw _ (List.mem_of_getElem? (i := 62) rfl)
theorem w63 {Z : State} {a0 : Array Value} (hw : ∀ d ∈ tables_1, d.before a0 Z = true) : (Jvm.Cond.methodLink "com/example/envelop/envelop/plan/ZoneNonePinLaw" (32 : Nat) ({ cls := "com/example/envelop/envelop/plan/Zone", name := "atLeast", desc := "(IJ)Lcom/example/envelop/envelop/plan/Zone;" } : Jvm.MethodName)).before a0 Z = true := hw _ (List.mem_of_getElem? (i := 63) rfl)
theorem w64 {Z : State} {a0 : Array Value} (hw : ∀ d ∈ tables_1, d.before a0 Z = true) : (Jvm.Cond.declares ({ cls := "com/example/envelop/envelop/plan/Zone", name := "atLeast", desc := "(IJ)Lcom/example/envelop/envelop/plan/Zone;" } : Jvm.MethodName)).before a0 Z = true := hw _ (List.mem_of_getElem? (i := 64) rfl)
theorem w65 {Z : State} {a0 : Array Value} (hw : ∀ d ∈ tables_1, d.before a0 Z = true) : (Jvm.Cond.instanceMethod ({ cls := "com/example/envelop/envelop/plan/Zone", name := "atLeast", desc := "(IJ)Lcom/example/envelop/envelop/plan/Zone;" } : Jvm.MethodName)).before a0 Z = true := hw _ (List.mem_of_getElem? (i := 65) rfl)
theorem w66 {Z : State} {a0 : Array Value} (hw : ∀ d ∈ tables_1, d.before a0 Z = true) : (Jvm.Cond.selects "com/example/envelop/envelop/plan/Zone" ({ cls := "com/example/envelop/envelop/plan/Zone", name := "atLeast", desc := "(IJ)Lcom/example/envelop/envelop/plan/Zone;" } : Jvm.MethodName) ({ cls := "com/example/envelop/envelop/plan/Zone", name := "atLeast", desc := "(IJ)Lcom/example/envelop/envelop/plan/Zone;" } : Jvm.MethodName)).before a0 Z = true := hw _ (List.mem_of_getElem? (i := 66) rfl)
theorem w67 {Z : State} {a0 : Array Value} (hw : ∀ d ∈ tables_1, d.before a0 Z = true) : (Jvm.Cond.code ({ cls := "com/example/envelop/envelop/plan/Zone", name := "atLeast", desc := "(IJ)Lcom/example/envelop/envelop/plan/Zone;" } : Jvm.MethodName) prog_71_method_10_code (4 : Nat) (Option.some (Jvm.ClassFile.FieldType.object "com/example/envelop/envelop/plan/Zone"))).before a0 Z = true := hw _ (List.mem_of_getElem? (i := 67) rfl)
theorem d1_0 : decode prog_71_method_2_code 0 = .ok (.new 10, 3) := by decide +kernel
theorem d1_3 : decode prog_71_method_2_code 3 = .ok (.dup, 1) := by decide +kernel
theorem d1_4 : decode prog_71_method_2_code 4 = .ok (.iconst 1, 1) := by decide +kernel
theorem d1_5 : decode prog_71_method_2_code 5 = .ok (.iconst 1, 1) := by decide +kernel
theorem d1_6 : decode prog_71_method_2_code 6 = .ok (.newarray .long, 2) := by decide +kernel
theorem d1_8 : decode prog_71_method_2_code 8 = .ok (.dup, 1) := by decide +kernel
theorem d1_9 : decode prog_71_method_2_code 9 = .ok (.iconst 0, 1) := by decide +kernel
theorem d1_10 : decode prog_71_method_2_code 10 = .ok (.getstatic 19, 3) := by decide +kernel
theorem d1_13 : decode prog_71_method_2_code 13 = .ok (.lastore, 1) := by decide +kernel
theorem d1_14 : decode prog_71_method_2_code 14 = .ok (.invokespecial 23, 3) := by decide +kernel
theorem d1_17 : decode prog_71_method_2_code 17 = .ok (.areturn, 1) := by decide +kernel
theorem d2_0 : decode prog_71_method_1_code 0 = .ok (.aload_n 0, 1) := by decide +kernel
theorem d2_1 : decode prog_71_method_1_code 1 = .ok (.invokespecial 3, 3) := by decide +kernel
theorem d2_4 : decode prog_71_method_1_code 4 = .ok (.aload_n 0, 1) := by decide +kernel
theorem d2_5 : decode prog_71_method_1_code 5 = .ok (.iload_n 1, 1) := by decide +kernel
theorem d2_6 : decode prog_71_method_1_code 6 = .ok (.putfield 9, 3) := by decide +kernel
theorem d2_9 : decode prog_71_method_1_code 9 = .ok (.aload_n 0, 1) := by decide +kernel
theorem d2_10 : decode prog_71_method_1_code 10 = .ok (.aload_n 2, 1) := by decide +kernel
theorem d2_11 : decode prog_71_method_1_code 11 = .ok (.putfield 15, 3) := by decide +kernel
theorem d2_14 : decode prog_71_method_1_code 14 = .ok (.return_, 1) := by decide +kernel
theorem d4_0 : decode prog_71_method_6_code 0 = .ok (.aload_n 0, 1) := by decide +kernel
theorem d4_1 : decode prog_71_method_6_code 1 = .ok (.getfield 9, 3) := by decide +kernel
theorem d4_4 : decode prog_71_method_6_code 4 = .ok (.iconst 1, 1) := by decide +kernel
theorem d4_5 : decode prog_71_method_6_code 5 = .ok (.isub, 1) := by decide +kernel
theorem d4_6 : decode prog_71_method_6_code 6 = .ok (.ireturn, 1) := by decide +kernel
theorem d5_0 : decode prog_71_method_17_code 0 = .ok (.iconst 0, 1) := by decide +kernel
theorem d5_1 : decode prog_71_method_17_code 1 = .ok (.istore_n 2, 1) := by decide +kernel
theorem d5_2 : decode prog_71_method_17_code 2 = .ok (.iload_n 2, 1) := by decide +kernel
theorem d5_3 : decode prog_71_method_17_code 3 = .ok (.aload_n 0, 1) := by decide +kernel
theorem d5_4 : decode prog_71_method_17_code 4 = .ok (.getfield 15, 3) := by decide +kernel
theorem d5_7 : decode prog_71_method_17_code 7 = .ok (.arraylength, 1) := by decide +kernel
theorem d5_8 : decode prog_71_method_17_code 8 = .ok (.if_icmp .ge 27, 3) := by decide +kernel
theorem d5_11 : decode prog_71_method_17_code 11 = .ok (.aload_n 0, 1) := by decide +kernel
theorem d5_12 : decode prog_71_method_17_code 12 = .ok (.getfield 15, 3) := by decide +kernel
theorem d5_15 : decode prog_71_method_17_code 15 = .ok (.iload_n 2, 1) := by decide +kernel
theorem d5_16 : decode prog_71_method_17_code 16 = .ok (.laload, 1) := by decide +kernel
theorem d5_17 : decode prog_71_method_17_code 17 = .ok (.aload_n 1, 1) := by decide +kernel
theorem d5_18 : decode prog_71_method_17_code 18 = .ok (.getfield 15, 3) := by decide +kernel
theorem d5_21 : decode prog_71_method_17_code 21 = .ok (.iload_n 2, 1) := by decide +kernel
theorem d5_22 : decode prog_71_method_17_code 22 = .ok (.laload, 1) := by decide +kernel
theorem d5_23 : decode prog_71_method_17_code 23 = .ok (.lcmp, 1) := by decide +kernel
theorem d5_24 : decode prog_71_method_17_code 24 = .ok (.ifCond .le 5, 3) := by decide +kernel
theorem d5_29 : decode prog_71_method_17_code 29 = .ok (.iinc 2 1, 3) := by decide +kernel
theorem d5_32 : decode prog_71_method_17_code 32 = .ok (.goto (-30), 3) := by decide +kernel
theorem d5_35 : decode prog_71_method_17_code 35 = .ok (.iconst 1, 1) := by decide +kernel
theorem d5_36 : decode prog_71_method_17_code 36 = .ok (.ireturn, 1) := by decide +kernel
theorem d6_0 : decode prog_71_method_13_code 0 = .ok (.aload_n 0, 1) := by decide +kernel
theorem d6_1 : decode prog_71_method_13_code 1 = .ok (.getfield 9, 3) := by decide +kernel
theorem d6_4 : decode prog_71_method_13_code 4 = .ok (.iconst 1, 1) := by decide +kernel
theorem d6_5 : decode prog_71_method_13_code 5 = .ok (.iadd, 1) := by decide +kernel
theorem d6_6 : decode prog_71_method_13_code 6 = .ok (.istore_n 1, 1) := by decide +kernel
theorem d6_7 : decode prog_71_method_13_code 7 = .ok (.iload_n 1, 1) := by decide +kernel
theorem d6_8 : decode prog_71_method_13_code 8 = .ok (.iload_n 1, 1) := by decide +kernel
theorem d6_9 : decode prog_71_method_13_code 9 = .ok (.imul, 1) := by decide +kernel
theorem d6_10 : decode prog_71_method_13_code 10 = .ok (.newarray .long, 2) := by decide +kernel
theorem d6_12 : decode prog_71_method_13_code 12 = .ok (.astore_n 2, 1) := by decide +kernel
theorem d6_13 : decode prog_71_method_13_code 13 = .ok (.iconst 0, 1) := by decide +kernel
theorem d6_14 : decode prog_71_method_13_code 14 = .ok (.istore_n 3, 1) := by decide +kernel
theorem d6_15 : decode prog_71_method_13_code 15 = .ok (.iload_n 3, 1) := by decide +kernel
theorem d6_16 : decode prog_71_method_13_code 16 = .ok (.aload_n 0, 1) := by decide +kernel
theorem d6_17 : decode prog_71_method_13_code 17 = .ok (.getfield 9, 3) := by decide +kernel
theorem d6_20 : decode prog_71_method_13_code 20 = .ok (.if_icmp .ge 62, 3) := by decide +kernel
theorem d6_23 : decode prog_71_method_13_code 23 = .ok (.aload_n 0, 1) := by decide +kernel
theorem d6_24 : decode prog_71_method_13_code 24 = .ok (.getfield 15, 3) := by decide +kernel
theorem d6_27 : decode prog_71_method_13_code 27 = .ok (.iload_n 3, 1) := by decide +kernel
theorem d6_28 : decode prog_71_method_13_code 28 = .ok (.aload_n 0, 1) := by decide +kernel
theorem d6_29 : decode prog_71_method_13_code 29 = .ok (.getfield 9, 3) := by decide +kernel
theorem d6_32 : decode prog_71_method_13_code 32 = .ok (.imul, 1) := by decide +kernel
theorem d6_33 : decode prog_71_method_13_code 33 = .ok (.aload_n 2, 1) := by decide +kernel
theorem d6_34 : decode prog_71_method_13_code 34 = .ok (.iload_n 3, 1) := by decide +kernel
theorem d6_35 : decode prog_71_method_13_code 35 = .ok (.iload_n 1, 1) := by decide +kernel
theorem d6_36 : decode prog_71_method_13_code 36 = .ok (.imul, 1) := by decide +kernel
theorem d6_37 : decode prog_71_method_13_code 37 = .ok (.aload_n 0, 1) := by decide +kernel
theorem d6_38 : decode prog_71_method_13_code 38 = .ok (.getfield 9, 3) := by decide +kernel
theorem d6_41 : decode prog_71_method_13_code 41 = .ok (.invokestatic 49, 3) := by decide +kernel
theorem d6_44 : decode prog_71_method_13_code 44 = .ok (.aload_n 2, 1) := by decide +kernel
theorem d6_45 : decode prog_71_method_13_code 45 = .ok (.iload_n 3, 1) := by decide +kernel
theorem d6_46 : decode prog_71_method_13_code 46 = .ok (.iload_n 1, 1) := by decide +kernel
theorem d6_47 : decode prog_71_method_13_code 47 = .ok (.imul, 1) := by decide +kernel
theorem d6_48 : decode prog_71_method_13_code 48 = .ok (.aload_n 0, 1) := by decide +kernel
theorem d6_49 : decode prog_71_method_13_code 49 = .ok (.getfield 9, 3) := by decide +kernel
theorem d6_52 : decode prog_71_method_13_code 52 = .ok (.iadd, 1) := by decide +kernel
theorem d6_53 : decode prog_71_method_13_code 53 = .ok (.aload_n 0, 1) := by decide +kernel
theorem d6_54 : decode prog_71_method_13_code 54 = .ok (.iload_n 3, 1) := by decide +kernel
theorem d6_55 : decode prog_71_method_13_code 55 = .ok (.iconst 0, 1) := by decide +kernel
theorem d6_56 : decode prog_71_method_13_code 56 = .ok (.invokevirtual 41, 3) := by decide +kernel
theorem d6_59 : decode prog_71_method_13_code 59 = .ok (.lastore, 1) := by decide +kernel
theorem d6_60 : decode prog_71_method_13_code 60 = .ok (.aload_n 2, 1) := by decide +kernel
theorem d6_61 : decode prog_71_method_13_code 61 = .ok (.aload_n 0, 1) := by decide +kernel
theorem d6_62 : decode prog_71_method_13_code 62 = .ok (.getfield 9, 3) := by decide +kernel
theorem d6_65 : decode prog_71_method_13_code 65 = .ok (.iload_n 1, 1) := by decide +kernel
theorem d6_66 : decode prog_71_method_13_code 66 = .ok (.imul, 1) := by decide +kernel
theorem d6_67 : decode prog_71_method_13_code 67 = .ok (.iload_n 3, 1) := by decide +kernel
theorem d6_68 : decode prog_71_method_13_code 68 = .ok (.iadd, 1) := by decide +kernel
theorem d6_69 : decode prog_71_method_13_code 69 = .ok (.aload_n 0, 1) := by decide +kernel
theorem d6_70 : decode prog_71_method_13_code 70 = .ok (.iconst 0, 1) := by decide +kernel
theorem d6_71 : decode prog_71_method_13_code 71 = .ok (.iload_n 3, 1) := by decide +kernel
theorem d6_72 : decode prog_71_method_13_code 72 = .ok (.invokevirtual 41, 3) := by decide +kernel
theorem d6_75 : decode prog_71_method_13_code 75 = .ok (.lastore, 1) := by decide +kernel
theorem d6_76 : decode prog_71_method_13_code 76 = .ok (.iinc 3 1, 3) := by decide +kernel
theorem d6_79 : decode prog_71_method_13_code 79 = .ok (.goto (-64), 3) := by decide +kernel
theorem d6_82 : decode prog_71_method_13_code 82 = .ok (.aload_n 2, 1) := by decide +kernel
theorem d6_83 : decode prog_71_method_13_code 83 = .ok (.aload_n 0, 1) := by decide +kernel
theorem d6_84 : decode prog_71_method_13_code 84 = .ok (.getfield 9, 3) := by decide +kernel
theorem d6_87 : decode prog_71_method_13_code 87 = .ok (.iload_n 1, 1) := by decide +kernel
theorem d6_88 : decode prog_71_method_13_code 88 = .ok (.imul, 1) := by decide +kernel
theorem d6_89 : decode prog_71_method_13_code 89 = .ok (.aload_n 0, 1) := by decide +kernel
theorem d6_90 : decode prog_71_method_13_code 90 = .ok (.getfield 9, 3) := by decide +kernel
theorem d6_93 : decode prog_71_method_13_code 93 = .ok (.iadd, 1) := by decide +kernel
theorem d6_94 : decode prog_71_method_13_code 94 = .ok (.getstatic 19, 3) := by decide +kernel
theorem d6_97 : decode prog_71_method_13_code 97 = .ok (.lastore, 1) := by decide +kernel
theorem d6_98 : decode prog_71_method_13_code 98 = .ok (.new 10, 3) := by decide +kernel
theorem d6_101 : decode prog_71_method_13_code 101 = .ok (.dup, 1) := by decide +kernel
theorem d6_102 : decode prog_71_method_13_code 102 = .ok (.iload_n 1, 1) := by decide +kernel
theorem d6_103 : decode prog_71_method_13_code 103 = .ok (.aload_n 2, 1) := by decide +kernel
theorem d6_104 : decode prog_71_method_13_code 104 = .ok (.invokespecial 23, 3) := by decide +kernel
theorem d6_107 : decode prog_71_method_13_code 107 = .ok (.areturn, 1) := by decide +kernel
theorem d7_0 : decode prog_71_method_7_code 0 = .ok (.aload_n 0, 1) := by decide +kernel
theorem d7_1 : decode prog_71_method_7_code 1 = .ok (.getfield 15, 3) := by decide +kernel
theorem d7_4 : decode prog_71_method_7_code 4 = .ok (.iload_n 1, 1) := by decide +kernel
theorem d7_5 : decode prog_71_method_7_code 5 = .ok (.aload_n 0, 1) := by decide +kernel
theorem d7_6 : decode prog_71_method_7_code 6 = .ok (.getfield 9, 3) := by decide +kernel
theorem d7_9 : decode prog_71_method_7_code 9 = .ok (.imul, 1) := by decide +kernel
theorem d7_10 : decode prog_71_method_7_code 10 = .ok (.iload_n 2, 1) := by decide +kernel
theorem d7_11 : decode prog_71_method_7_code 11 = .ok (.iadd, 1) := by decide +kernel
theorem d7_12 : decode prog_71_method_7_code 12 = .ok (.laload, 1) := by decide +kernel
theorem d7_13 : decode prog_71_method_7_code 13 = .ok (.lreturn, 1) := by decide +kernel
theorem d8_0 : decode prog_71_method_11_code 0 = .ok (.aload_n 0, 1) := by decide +kernel
theorem d8_1 : decode prog_71_method_11_code 1 = .ok (.iconst 0, 1) := by decide +kernel
theorem d8_2 : decode prog_71_method_11_code 2 = .ok (.iload_n 1, 1) := by decide +kernel
theorem d8_3 : decode prog_71_method_11_code 3 = .ok (.invokevirtual 41, 3) := by decide +kernel
theorem d8_6 : decode prog_71_method_11_code 6 = .ok (.lload_n 2, 1) := by decide +kernel
theorem d8_7 : decode prog_71_method_11_code 7 = .ok (.lneg, 1) := by decide +kernel
theorem d8_8 : decode prog_71_method_11_code 8 = .ok (.invokestatic 33, 3) := by decide +kernel
theorem d8_11 : decode prog_71_method_11_code 11 = .ok (.lcmp, 1) := by decide +kernel
theorem d8_12 : decode prog_71_method_11_code 12 = .ok (.ifCond .gt 7, 3) := by decide +kernel
theorem d8_15 : decode prog_71_method_11_code 15 = .ok (.iconst 1, 1) := by decide +kernel
theorem d8_16 : decode prog_71_method_11_code 16 = .ok (.goto 4, 3) := by decide +kernel
theorem d8_19 : decode prog_71_method_11_code 19 = .ok (.iconst 0, 1) := by decide +kernel
theorem d8_20 : decode prog_71_method_11_code 20 = .ok (.ireturn, 1) := by decide +kernel
theorem d9_0 : decode prog_71_method_3_code 0 = .ok (.lload_n 0, 1) := by decide +kernel
theorem d9_1 : decode prog_71_method_3_code 1 = .ok (.iconst 1, 1) := by decide +kernel
theorem d9_2 : decode prog_71_method_3_code 2 = .ok (.lshl, 1) := by decide +kernel
theorem d9_3 : decode prog_71_method_3_code 3 = .ok (.lconst 1, 1) := by decide +kernel
theorem d9_4 : decode prog_71_method_3_code 4 = .ok (.lor, 1) := by decide +kernel
theorem d9_5 : decode prog_71_method_3_code 5 = .ok (.lreturn, 1) := by decide +kernel
theorem d10_0 : decode prog_71_method_9_code 0 = .ok (.aload_n 0, 1) := by decide +kernel
theorem d10_1 : decode prog_71_method_9_code 1 = .ok (.iload_n 1, 1) := by decide +kernel
theorem d10_2 : decode prog_71_method_9_code 2 = .ok (.iconst 0, 1) := by decide +kernel
theorem d10_3 : decode prog_71_method_9_code 3 = .ok (.lload_n 2, 1) := by decide +kernel
theorem d10_4 : decode prog_71_method_9_code 4 = .ok (.invokestatic 33, 3) := by decide +kernel
theorem d10_7 : decode prog_71_method_9_code 7 = .ok (.invokevirtual 37, 3) := by decide +kernel
theorem d10_10 : decode prog_71_method_9_code 10 = .ok (.areturn, 1) := by decide +kernel
theorem d11_0 : decode prog_71_method_12_code 0 = .ok (.lload_n 3, 1) := by decide +kernel
theorem d11_1 : decode prog_71_method_12_code 1 = .ok (.aload_n 0, 1) := by decide +kernel
theorem d11_2 : decode prog_71_method_12_code 2 = .ok (.iload_n 2, 1) := by decide +kernel
theorem d11_3 : decode prog_71_method_12_code 3 = .ok (.iload_n 1, 1) := by decide +kernel
theorem d11_4 : decode prog_71_method_12_code 4 = .ok (.invokevirtual 41, 3) := by decide +kernel
theorem d11_7 : decode prog_71_method_12_code 7 = .ok (.invokestatic 45, 3) := by decide +kernel
theorem d11_10 : decode prog_71_method_12_code 10 = .ok (.getstatic 19, 3) := by decide +kernel
theorem d11_13 : decode prog_71_method_12_code 13 = .ok (.lcmp, 1) := by decide +kernel
theorem d11_14 : decode prog_71_method_12_code 14 = .ok (.ifCond .ge 5, 3) := by decide +kernel
theorem d11_17 : decode prog_71_method_12_code 17 = .ok (.aconst_null, 1) := by decide +kernel
theorem d11_18 : decode prog_71_method_12_code 18 = .ok (.areturn, 1) := by decide +kernel
theorem d11_19 : decode prog_71_method_12_code 19 = .ok (.aload_n 0, 1) := by decide +kernel
theorem d11_20 : decode prog_71_method_12_code 20 = .ok (.astore 5, 2) := by decide +kernel
theorem d11_22 : decode prog_71_method_12_code 22 = .ok (.lload_n 3, 1) := by decide +kernel
theorem d11_23 : decode prog_71_method_12_code 23 = .ok (.aload_n 0, 1) := by decide +kernel
theorem d11_24 : decode prog_71_method_12_code 24 = .ok (.iload_n 1, 1) := by decide +kernel
theorem d11_25 : decode prog_71_method_12_code 25 = .ok (.iload_n 2, 1) := by decide +kernel
theorem d11_26 : decode prog_71_method_12_code 26 = .ok (.invokevirtual 41, 3) := by decide +kernel
theorem d11_29 : decode prog_71_method_12_code 29 = .ok (.lcmp, 1) := by decide +kernel
theorem d11_30 : decode prog_71_method_12_code 30 = .ok (.ifCond .ge 148, 3) := by decide +kernel
theorem d11_178 : decode prog_71_method_12_code 178 = .ok (.aload 5, 2) := by decide +kernel
theorem d11_180 : decode prog_71_method_12_code 180 = .ok (.areturn, 1) := by decide +kernel
theorem d12_0 : decode prog_71_method_5_code 0 = .ok (.lload_n 0, 1) := by decide +kernel
theorem d12_1 : decode prog_71_method_5_code 1 = .ok (.ldc2_w 26, 3) := by decide +kernel
theorem d12_4 : decode prog_71_method_5_code 4 = .ok (.lcmp, 1) := by decide +kernel
theorem d12_5 : decode prog_71_method_5_code 5 = .ok (.ifCond .eq 11, 3) := by decide +kernel
theorem d12_8 : decode prog_71_method_5_code 8 = .ok (.lload_n 2, 1) := by decide +kernel
theorem d12_9 : decode prog_71_method_5_code 9 = .ok (.ldc2_w 26, 3) := by decide +kernel
theorem d12_12 : decode prog_71_method_5_code 12 = .ok (.lcmp, 1) := by decide +kernel
theorem d12_13 : decode prog_71_method_5_code 13 = .ok (.ifCond .ne 7, 3) := by decide +kernel
theorem d12_20 : decode prog_71_method_5_code 20 = .ok (.lload_n 0, 1) := by decide +kernel
theorem d12_21 : decode prog_71_method_5_code 21 = .ok (.iconst 1, 1) := by decide +kernel
theorem d12_22 : decode prog_71_method_5_code 22 = .ok (.lshr, 1) := by decide +kernel
theorem d12_23 : decode prog_71_method_5_code 23 = .ok (.lload_n 2, 1) := by decide +kernel
theorem d12_24 : decode prog_71_method_5_code 24 = .ok (.iconst 1, 1) := by decide +kernel
theorem d12_25 : decode prog_71_method_5_code 25 = .ok (.lshr, 1) := by decide +kernel
theorem d12_26 : decode prog_71_method_5_code 26 = .ok (.ladd, 1) := by decide +kernel
theorem d12_27 : decode prog_71_method_5_code 27 = .ok (.iconst 1, 1) := by decide +kernel
theorem d12_28 : decode prog_71_method_5_code 28 = .ok (.lshl, 1) := by decide +kernel
theorem d12_29 : decode prog_71_method_5_code 29 = .ok (.lload_n 0, 1) := by decide +kernel
theorem d12_30 : decode prog_71_method_5_code 30 = .ok (.lload_n 2, 1) := by decide +kernel
theorem d12_31 : decode prog_71_method_5_code 31 = .ok (.land, 1) := by decide +kernel
theorem d12_32 : decode prog_71_method_5_code 32 = .ok (.lconst 1, 1) := by decide +kernel
theorem d12_33 : decode prog_71_method_5_code 33 = .ok (.land, 1) := by decide +kernel
theorem d12_34 : decode prog_71_method_5_code 34 = .ok (.lor, 1) := by decide +kernel
theorem d12_35 : decode prog_71_method_5_code 35 = .ok (.lreturn, 1) := by decide +kernel
theorem d13_0 : decode prog_71_method_10_code 0 = .ok (.aload_n 0, 1) := by decide +kernel
theorem d13_1 : decode prog_71_method_10_code 1 = .ok (.iconst 0, 1) := by decide +kernel
theorem d13_2 : decode prog_71_method_10_code 2 = .ok (.iload_n 1, 1) := by decide +kernel
theorem d13_3 : decode prog_71_method_10_code 3 = .ok (.lload_n 2, 1) := by decide +kernel
theorem d13_4 : decode prog_71_method_10_code 4 = .ok (.lneg, 1) := by decide +kernel
theorem d13_5 : decode prog_71_method_10_code 5 = .ok (.invokestatic 33, 3) := by decide +kernel
theorem d13_8 : decode prog_71_method_10_code 8 = .ok (.invokevirtual 37, 3) := by decide +kernel
theorem d13_11 : decode prog_71_method_10_code 11 = .ok (.areturn, 1) := by decide +kernel
theorem pd_0 : parseMethodDescriptor "(I[J)V" = some ⟨[.int, (.array .long)], none⟩ := by decide +kernel
theorem pd_1 : parseMethodDescriptor "()Lcom/example/envelop/envelop/plan/Zone;" = some ⟨[], some (.object "com/example/envelop/envelop/plan/Zone")⟩ := by decide +kernel
theorem pd_2 : parseMethodDescriptor "()I" = some ⟨[], some .int⟩ := by decide +kernel
theorem pd_3 : parseMethodDescriptor "(Lcom/example/envelop/envelop/plan/Zone;)Z" = some ⟨[(.object "com/example/envelop/envelop/plan/Zone")], some .boolean⟩ := by decide +kernel
theorem pd_4 : parseMethodDescriptor "(II)J" = some ⟨[.int, .int], some .long⟩ := by decide +kernel
theorem pd_5 : parseMethodDescriptor "(J)J" = some ⟨[.long], some .long⟩ := by decide +kernel
theorem pd_6 : parseMethodDescriptor "(IJ)Z" = some ⟨[.int, .long], some .boolean⟩ := by decide +kernel
theorem pd_7 : parseMethodDescriptor "(JJ)J" = some ⟨[.long, .long], some .long⟩ := by decide +kernel
theorem pd_8 : parseMethodDescriptor "(IIJ)Lcom/example/envelop/envelop/plan/Zone;" = some ⟨[.int, .int, .long], some (.object "com/example/envelop/envelop/plan/Zone")⟩ := by decide +kernel
theorem pd_9 : parseMethodDescriptor "(IJ)Lcom/example/envelop/envelop/plan/Zone;" = some ⟨[.int, .long], some (.object "com/example/envelop/envelop/plan/Zone")⟩ := by decide +kernel
theorem pn_0 : plainName "com/example/envelop/envelop/plan/Zone" = true := by first | (simp [plainName, overriddenIn]; done) | decide +kernel
theorem pn_1 : plainName "com/example/envelop/envelop/plan/ZoneNonePinLaw" = true := by first | (simp [plainName, overriddenIn]; done) | decide +kernel
def Q_rm2_1 (Z : State) (a1 : Addr) (a2 : Addr) (h0 : Heap) (n0 : Nat) (v : Option Value) (h : Heap) (L : List Loc) : Prop := v = none ∧ Fr n0 L ∧ Keep h0 h [a1] ∧ Fld Z h a1 "com/example/envelop/envelop/plan/Zone" "size" "I" (.int (1 : Int32)) ∧ Fld Z h a1 "com/example/envelop/envelop/plan/Zone" "bounds" "[J" (.ref a2)
set_option maxRecDepth 65536 in
set_option maxHeartbeats 40000000 in
theorem rm2_1 (l : Launch) (Z : State) (a0 : Array Value) (hw : ∀ d ∈ tables_1, d.before a0 Z = true) (ws : List Jvm.Cond) (a1 : Addr) (a2 : Addr) (h0 : Heap) (n0 : Nat) (O0 : Old Z n0 h0) (P1 : Exa Z h0 a1 "com/example/envelop/envelop/plan/Zone") (P2 : Fld Z h0 a1 "com/example/envelop/envelop/plan/Zone" "size" "I" (.int (0 : Int32))) (P3 : n0 ≤ a1) (P4 : Fld Z h0 a1 "com/example/envelop/envelop/plan/Zone" "bounds" "[J" .null) :
    MetFree l (⟨"com/example/envelop/envelop/plan/Zone", "<init>", "(I[J)V"⟩ : MethodName) (head1 (Jvm.Cond.code (⟨"com/example/envelop/envelop/plan/Zone", "<init>", "(I[J)V"⟩ : MethodName) prog_71_method_1_code 3 none :: ws) ({ frames := 1, cells := 0, slots := 0, locals := 12 } : Room)) (fun a U => a = #[(.ref a1), (.int (1 : Int32)), (.ref a2)] ∧ Z.Warmed39 U.vm ∧ U.heap = h0) (fun _ _ _ _ _ => True) (fun _ U o U' => ∃ v L, o = .returned v ∧ Q_rm2_1 Z a1 a2 h0 n0 v U'.heap L ∧ FrameEnd U o U' L ({ frames := 1, cells := 0, slots := 0, locals := 12 } : Room).cells ({ frames := 1, cells := 0, slots := 0, locals := 12 } : Room).slots) := by
  refine MetFree.of_bodySF (plainFor_of_name pn_0) hisR ?_
  intro p e s m args below meth c s₁ Bd hml0 hP hK
  obtain ⟨rfl, hZ, hh⟩ := hP
  have hx := Bd.exec
  have hby := Bd.bytes
  have hml : c.maxLocals = 3 := hml0
  have hown : s.vm.findClass "com/example/envelop/envelop/plan/Zone" = some m.cls := findClass_of_methodNamed Bd.named
  have hnm := (name_of_methodNamed Bd.named Bd.method).1
  have X0 : Stand p l e ({ frames := 1, cells := 0, slots := 0, locals := 12 } : Room) s m #[(.ref a1), (.int (1 : Int32)), (.ref a2)] below meth c s₁ [] 0 0 := Stand.of_body Bd
  have e0 : s₁.heap = h0 := by rw [← hh, Bd.state]; rfl
  have N0 := Fr.nil n0
  refine Go.start (P := (fun o U' => ∃ v L, o = .returned v ∧ Q_rm2_1 Z a1 a2 h0 n0 v U'.heap L ∧ FrameEnd s o U' L ({ frames := 1, cells := 0, slots := 0, locals := 12 } : Room).cells ({ frames := 1, cells := 0, slots := 0, locals := 12 } : Room).slots)) (castTop (g' := (mkF m 0 #[.val (.ref a1), .val (.int (1 : Int32)), .val (.ref a2)] [])) (by first | rfl | simp [entryFrame, mkF, argsToLocals, Value.category]) (T := s₁)) ?_
  refine Go.st (fun t k => XS.aloadN X0.here hx rfl (hb hby d2_0) rfl rfl k) ?_
  show Go p e below _ (s₁.setTop (mkF m 1 #[.val (.ref a1), .val (.int (1 : Int32)), .val (.ref a2)] [(.ref a1)]))
  obtain ⟨T1, X1, e1, st1⟩ := initO X0 hx hZ hown (w12 hw) (w13 hw) (w14 hw) e0 (g := (mkF m 1 #[.val (.ref a1), .val (.int (1 : Int32)), .val (.ref a2)] [(.ref a1)])) rfl (by rw [hml]; rfl) rfl (hb hby d2_1) (by decide) (W := 0) (by show 2 * 0 + _ ≤ _; exact Nat.le_of_eq rfl) (by decide)
  refine Go.st st1 ?_
  show Go p e below _ (T1.setTop (mkF m 4 #[.val (.ref a1), .val (.int (1 : Int32)), .val (.ref a2)] []))
  refine Go.st (fun t k => XS.aloadN X1.here hx rfl (hb hby d2_4) rfl rfl k) ?_
  show Go p e below _ (T1.setTop (mkF m 5 #[.val (.ref a1), .val (.int (1 : Int32)), .val (.ref a2)] [(.ref a1)]))
  refine Go.st (fun t k => XS.iloadN X1.here hx rfl (hb hby d2_5) rfl k) ?_
  show Go p e below _ (T1.setTop (mkF m 6 #[.val (.ref a1), .val (.int (1 : Int32)), .val (.ref a2)] [(.int (1 : Int32)), (.ref a1)]))
  obtain ⟨T2, h2, X2, e2, W2, st2⟩ := putF X1 hx hZ hown (host := "") (Or.inl (w15 hw)) Via.refl e1 P2 P1 (Or.inr ⟨(w16 hw), rfl, hnm⟩) (w5 hw) (ty := .int) (by decide) rfl rfl (g := (mkF m 6 #[.val (.ref a1), .val (.int (1 : Int32)), .val (.ref a2)] [(.int (1 : Int32)), (.ref a1)])) rfl rfl (hb hby d2_6)
  have F2 : Fld Z h2 a1 "com/example/envelop/envelop/plan/Zone" "size" "I" (.int (1 : Int32)) := P2.same W2
  have N2 := Fr.snoc X2 N0 P3
  have O2 : Old Z n0 h2 := O0.wr W2 P3
  have K2 : Keep h0 h2 [a1] := (Keep.refl h0 [a1]).wr W2 (Or.inl (List.mem_of_getElem? (i := 0) rfl))
  refine Go.st st2 ?_
  show Go p e below _ (T2.setTop (mkF m 9 #[.val (.ref a1), .val (.int (1 : Int32)), .val (.ref a2)] []))
  refine Go.st (fun t k => XS.aloadN X2.here hx rfl (hb hby d2_9) rfl rfl k) ?_
  show Go p e below _ (T2.setTop (mkF m 10 #[.val (.ref a1), .val (.int (1 : Int32)), .val (.ref a2)] [(.ref a1)]))
  refine Go.st (fun t k => XS.aloadN X2.here hx rfl (hb hby d2_10) rfl rfl k) ?_
  show Go p e below _ (T2.setTop (mkF m 11 #[.val (.ref a1), .val (.int (1 : Int32)), .val (.ref a2)] [(.ref a2), (.ref a1)]))
  have c3 := (P4.other W2 (Or.inr (slot_ne (Or.inr (w18 hw)) (Or.inr (w16 hw)) (by decide) (t := (.array .long)) (t' := .int) (by decide) (by decide))))
  obtain ⟨T4, h4, X4, e4, W4, st4⟩ := putF X2 hx hZ hown (host := "") (Or.inl (w17 hw)) Via.refl e2 c3 (P1.wr W2) (Or.inr ⟨(w18 hw), rfl, hnm⟩) (w5 hw) (ty := (.array .long)) (by decide) rfl rfl (g := (mkF m 11 #[.val (.ref a1), .val (.int (1 : Int32)), .val (.ref a2)] [(.ref a2), (.ref a1)])) rfl rfl (hb hby d2_11)
  have F4 : Fld Z h4 a1 "com/example/envelop/envelop/plan/Zone" "bounds" "[J" (.ref a2) := c3.same W4
  have N4 := Fr.snoc X4 N2 P3
  have O4 : Old Z n0 h4 := O2.wr W4 P3
  have K4 : Keep h0 h4 [a1] := K2.wr W4 (Or.inl (List.mem_of_getElem? (i := 0) rfl))
  refine Go.st st4 ?_
  show Go p e below _ (T4.setTop (mkF m 14 #[.val (.ref a1), .val (.int (1 : Int32)), .val (.ref a2)] []))
  obtain ⟨fs, hr, hrun, hended, hWd, hsame⟩ := X4.leave (v := none) (fun _ => rfl)
  have c5 := (F2.other W4 (Or.inr (slot_ne (Or.inr (w16 hw)) (Or.inr (w18 hw)) (by decide) (t := .int) (t' := (.array .long)) (by decide) (by decide))))
  refine ⟨_, _, ?_, hrun, hended, _, _, rfl, ?_, ⟨⟨_, rfl⟩, hWd, hsame.mono (by decide) (by decide)⟩⟩
  · exact X4.returnOut hx Bd.returns (hb hby d2_14) hr
  · show Q_rm2_1 Z a1 a2 h0 n0 _ T4.heap _
    rw [e4]
    exact ⟨rfl, N4, K4, c5, F4⟩
def Q_rm1_1 (Z : State)  (h0 : Heap) (n0 : Nat) (v : Option Value) (h : Heap) (L : List Loc) : Prop := ∃ (b1 : Addr) (b2 : Addr) (k2 : ClassId), v = some (.ref b1) ∧ Fr n0 L ∧ Keep h0 h [] ∧ h0.size ≤ b1 ∧ h0.size ≤ b2 ∧ b1 ≠ b2 ∧ Exa Z h b1 "com/example/envelop/envelop/plan/Zone" ∧ Fld Z h b1 "com/example/envelop/envelop/plan/Zone" "size" "I" (.int (1 : Int32)) ∧ Fld Z h b1 "com/example/envelop/envelop/plan/Zone" "bounds" "[J" (.ref b2) ∧ Arv Z h b2 k2 .long (1 : Int32) [(.long (1 : Int64))] (.long (0 : Int64))
set_option maxRecDepth 65536 in
set_option maxHeartbeats 40000000 in
theorem rm1_1 (l : Launch) (Z : State) (a0 : Array Value) (hw : ∀ d ∈ tables_1, d.before a0 Z = true) (ws : List Jvm.Cond)  (h0 : Heap) (n0 : Nat) (O0 : Old Z n0 h0) (P1 : Sta Z Z.heap "com/example/envelop/envelop/plan/Zone" "ZERO" "J" (.long (1 : Int64))) :
    MetFree l (⟨"com/example/envelop/envelop/plan/Zone", "none", "()Lcom/example/envelop/envelop/plan/Zone;"⟩ : MethodName) (head1 (Jvm.Cond.code (⟨"com/example/envelop/envelop/plan/Zone", "none", "()Lcom/example/envelop/envelop/plan/Zone;"⟩ : MethodName) prog_71_method_2_code 0 (some (.object "com/example/envelop/envelop/plan/Zone")) :: ws) ({ frames := 2, cells := 2, slots := 3, locals := 27 } : Room)) (fun a U => a = #[] ∧ Z.Warmed39 U.vm ∧ U.heap = h0) (fun _ _ _ _ _ => True) (fun _ U o U' => ∃ v L, o = .returned v ∧ Q_rm1_1 Z  h0 n0 v U'.heap L ∧ FrameEnd U o U' L ({ frames := 2, cells := 2, slots := 3, locals := 27 } : Room).cells ({ frames := 2, cells := 2, slots := 3, locals := 27 } : Room).slots) := by
  refine MetFree.of_bodySF (plainFor_of_name pn_0) hisR ?_
  intro p e s m args below meth c s₁ Bd hml0 hP hK
  obtain ⟨rfl, hZ, hh⟩ := hP
  have hx := Bd.exec
  have hby := Bd.bytes
  have hml : c.maxLocals = 0 := hml0
  have hown : s.vm.findClass "com/example/envelop/envelop/plan/Zone" = some m.cls := findClass_of_methodNamed Bd.named
  have hnm := (name_of_methodNamed Bd.named Bd.method).1
  have X0 : Stand p l e ({ frames := 2, cells := 2, slots := 3, locals := 27 } : Room) s m #[] below meth c s₁ [] 0 0 := Stand.of_body Bd
  have e0 : s₁.heap = h0 := by rw [← hh, Bd.state]; rfl
  have N0 := Fr.nil n0
  refine Go.start (P := (fun o U' => ∃ v L, o = .returned v ∧ Q_rm1_1 Z  h0 n0 v U'.heap L ∧ FrameEnd s o U' L ({ frames := 2, cells := 2, slots := 3, locals := 27 } : Room).cells ({ frames := 2, cells := 2, slots := 3, locals := 27 } : Room).slots)) (castTop (g' := (mkF m 0 #[] [])) (by first | rfl | simp [entryFrame, mkF, argsToLocals, Value.category]) (T := s₁)) ?_
  obtain ⟨T1, h1, X1, e1, E1, A1, D1, -, st1⟩ := newO X0 hx hZ hown (w4 hw) (w5 hw) (w2 hw) e0 (g := (mkF m 0 #[] [])) rfl (hb hby d1_0) (by decide) (by decide)
  obtain ⟨b1, z1⟩ : ∃ z, z = h0.size := ⟨_, rfl⟩
  rw [← z1] at A1 D1 st1
  have g_b1 : n0 ≤ b1 := Nat.le_trans (own_n0 O0) (Nat.le_of_eq z1.symm)
  have s_b1 : h0.size ≤ b1 := Nat.le_trans (Keep.refl h0 []).1 (Nat.le_of_eq z1.symm)
  have O1 : Old Z n0 h1 := O0.ext E1
  have K1 : Keep h0 h1 [] := (Keep.refl h0 []).ext E1
  have f1_16 : Fld Z h1 b1 "com/example/envelop/envelop/plan/Zone" "size" "I" (.int (0 : Int32)) := D1 (Or.inr (w16 hw)) (ty := .int) (by decide)
  have f1_18 : Fld Z h1 b1 "com/example/envelop/envelop/plan/Zone" "bounds" "[J" .null := D1 (Or.inr (w18 hw)) (ty := (.array .long)) (by decide)
  refine Go.st st1 ?_
  show Go p e below _ (T1.setTop (mkF m 3 #[] [(.ref b1)]))
  refine Go.st (fun t k => XS.dup X1.here hx rfl (hb hby d1_3) rfl rfl k) ?_
  show Go p e below _ (T1.setTop (mkF m 4 #[] [(.ref b1), (.ref b1)]))
  refine Go.st (fun t k => XS.iconst X1.here hx rfl (hb hby d1_4) k) ?_
  show Go p e below _ (T1.setTop (mkF m 5 #[] [(.int (1 : Int32)), (.ref b1), (.ref b1)]))
  refine Go.st (fun t k => XS.iconst X1.here hx rfl (hb hby d1_5) k) ?_
  show Go p e below _ (T1.setTop (mkF m 6 #[] [(.int (1 : Int32)), (.int (1 : Int32)), (.ref b1), (.ref b1)]))
  obtain ⟨T2, h2, k2, X2, e2, E2, A2, st2⟩ := newP X1 hx hZ (aty := .long) (w6 hw) e1 (g := (mkF m 6 #[] [(.int (1 : Int32)), (.int (1 : Int32)), (.ref b1), (.ref b1)])) rfl (hb hby d1_6) rfl (by decide) (cap := 1) (by decide) (by decide) (by decide) (by decide)
  obtain ⟨b2, z2⟩ : ∃ z, z = h1.size := ⟨_, rfl⟩
  rw [← z2] at A2 st2
  have g_b2 : n0 ≤ b2 := Nat.le_trans (own_n0 O1) (Nat.le_of_eq z2.symm)
  have s_b2 : h0.size ≤ b2 := Nat.le_trans K1.1 (Nat.le_of_eq z2.symm)
  have V2 : Arv Z h2 b2 k2 .long (1 : Int32) [(.long (0 : Int64))] (.long (0 : Int64)) := (Arv.new A2 (by decide)).pad (pad_rep [] (.long (0 : Int64)) 1)
  have O2 : Old Z n0 h2 := O1.ext E2
  have K2 : Keep h0 h2 [] := K1.ext E2
  refine Go.st st2 ?_
  show Go p e below _ (T2.setTop (mkF m 8 #[] [(.ref b2), (.int (1 : Int32)), (.ref b1), (.ref b1)]))
  refine Go.st (fun t k => XS.dup X2.here hx rfl (hb hby d1_8) rfl rfl k) ?_
  show Go p e below _ (T2.setTop (mkF m 9 #[] [(.ref b2), (.ref b2), (.int (1 : Int32)), (.ref b1), (.ref b1)]))
  refine Go.st (fun t k => XS.iconst X2.here hx rfl (hb hby d1_9) k) ?_
  show Go p e below _ (T2.setTop (mkF m 10 #[] [(.int (0 : Int32)), (.ref b2), (.ref b2), (.int (1 : Int32)), (.ref b1), (.ref b1)]))
  obtain ⟨T3, X3, e3, st3⟩ := getS2 X2 hx hZ hown (host := "") (Or.inl (w7 hw)) Via.refl e2 (P1.ext O2.2) (g := (mkF m 10 #[] [(.int (0 : Int32)), (.ref b2), (.ref b2), (.int (1 : Int32)), (.ref b1), (.ref b1)])) rfl (hb hby d1_10)
  refine Go.st st3 ?_
  show Go p e below _ (T3.setTop (mkF m 13 #[] [(.long (1 : Int64)), (.int (0 : Int32)), (.ref b2), (.ref b2), (.int (1 : Int32)), (.ref b1), (.ref b1)]))
  obtain ⟨cl4, Ar4, q4, S4, M4, H4, G4⟩ := id V2
  have hin4 : ¬ ((0 : Int32) < 0 ∨ cl4.slots.size ≤ ((0 : Int32)).toNatClampNeg) := inb_of S4 ⟨by decide, by decide⟩
  obtain ⟨T4, h4, X4, e4, W4, st4⟩ := stJ X3 hx hZ e3 Ar4 (j := (0 : Int32)) hin4 (g := (mkF m 13 #[] [(.long (1 : Int64)), (.int (0 : Int32)), (.ref b2), (.ref b2), (.int (1 : Int32)), (.ref b1), (.ref b1)])) rfl rfl (hb hby d1_13)
  have V4 : Arv Z h4 b2 k2 .long (1 : Int32) [(.long (1 : Int64))] (.long (0 : Int64)) := Arv.set Ar4 q4 S4 M4 H4 G4 rfl W4 0 rfl (Nat.le_of_ble_eq_true rfl)
  have N4 := Fr.snoc X4 N0 g_b2
  have O4 : Old Z n0 h4 := O2.wr W4 g_b2
  have K4 : Keep h0 h4 [] := K2.wr W4 (Or.inr s_b2)
  refine Go.st st4 ?_
  show Go p e below _ (T4.setTop (mkF m 14 #[] [(.ref b2), (.int (1 : Int32)), (.ref b1), (.ref b1)]))
  have c5 := ((f1_16.ext E2).other W4 (Or.inl (Nat.ne_of_lt (Nat.lt_of_lt_of_le A1.lt (Nat.le_of_eq z2.symm)))))
  have c6 := ((f1_18.ext E2).other W4 (Or.inl (Nat.ne_of_lt (Nat.lt_of_lt_of_le A1.lt (Nat.le_of_eq z2.symm)))))
  obtain ⟨_, _, ⟨T7, L7, k7, n7⟩, -, X7, ⟨Lc7, hQ7, l7, y7, z7⟩, st7⟩ := X4.specialBack hx (y := (⟨"com/example/envelop/envelop/plan/Zone", "<init>", "(I[J)V"⟩ : MethodName)) rfl hown (mvT hZ (w9 hw)) (mvT hZ (w10 hw)) (mvT hZ (w11 hw)) (by decide) (backOf (W := 1) (rm2_1 l Z a0 hw [] b1 b2 h4 n0 O4 ((A1.ext E2).wr W4) c5 g_b1 c6) hZ (w11 hw) (w2 hw) (by decide) (by decide)) (g := (mkF m 14 #[] [(.ref b2), (.int (1 : Int32)), (.ref b1), (.ref b1)])) rfl (by rw [hml]; rfl) (Steps.refl _) (a := b1) (argsL := [(.int (1 : Int32)), (.ref b2)]) (rest := [(.ref b1)]) (lenOf pd_0 rfl) rfl (by show 2 * 0 + _ ≤ _; exact Nat.le_of_eq rfl) (hb hby d1_14) (fun vm₁ hw₁ => ⟨rfl, e4, (by decide : 2 + 0 ≤ _), (by decide : 3 + 0 ≤ _)⟩)
  dsimp only [Pt.U, Pt.locs, Pt.cells, Pt.slots] at X7 l7 y7 z7 st7 hQ7
  subst l7 y7 z7
  obtain ⟨rfl, M7, K7c, r7_0, r7_1⟩ := hQ7
  have N7 := Fr.app N4 M7
  have O7 : Old Z n0 T7.heap := O4.keep K7c (allS g_b1 all0)
  have K7 : Keep h0 T7.heap [] := K4.trans K7c (allS (Or.inr s_b1) all0)
  refine Go.tr st7 ?_
  show Go p e below _ (T7.setTop (mkF m 17 #[] [(.ref b1)]))
  obtain ⟨fs, hr, hrun, hended, hWd, hsame⟩ := X7.leave (v := some (.ref b1)) (fun h => by rw [Bd.returns] at h; cases h)
  have c8 := (V4.keep K7c (ninS (Ne.symm (Nat.ne_of_lt (Nat.lt_of_lt_of_le A1.lt (Nat.le_of_eq z2.symm)))) nin0))
  refine ⟨_, _, ?_, hrun, hended, _, _, rfl, ?_, ⟨⟨_, rfl⟩, hWd, hsame.mono (by decide) (by decide)⟩⟩
  · exact own_retA X7 hx Bd.returns rfl rfl (hb hby d1_17) hr
  · show Q_rm1_1 Z  h0 n0 _ T7.heap _
    exact ⟨b1, b2, k2, rfl, N7, K7, s_b1, s_b2, (Nat.ne_of_lt (Nat.lt_of_lt_of_le A1.lt (Nat.le_of_eq z2.symm))), (((A1.ext E2).wr W4).keep K7c), r7_0, r7_1, c8⟩
def Q_rm4_1 (Z : State) (a1 : Addr) (h0 : Heap) (n0 : Nat) (v : Option Value) (h : Heap) (L : List Loc) : Prop := v = some (.int (0 : Int32)) ∧ Fr n0 L ∧ h = h0
set_option maxRecDepth 65536 in
set_option maxHeartbeats 40000000 in
theorem rm4_1 (l : Launch) (Z : State) (a0 : Array Value) (hw : ∀ d ∈ tables_1, d.before a0 Z = true) (ws : List Jvm.Cond) (a1 : Addr) (h0 : Heap) (n0 : Nat) (O0 : Old Z n0 h0) (P1 : Fld Z h0 a1 "com/example/envelop/envelop/plan/Zone" "size" "I" (.int (1 : Int32))) :
    MetFree l (⟨"com/example/envelop/envelop/plan/Zone", "clocks", "()I"⟩ : MethodName) (head1 (Jvm.Cond.code (⟨"com/example/envelop/envelop/plan/Zone", "clocks", "()I"⟩ : MethodName) prog_71_method_6_code 1 (some .int) :: ws) ({ frames := 0, cells := 0, slots := 0, locals := 0 } : Room)) (fun a U => a = #[(.ref a1)] ∧ Z.Warmed39 U.vm ∧ U.heap = h0) (fun _ _ _ _ _ => True) (fun _ U o U' => ∃ v L, o = .returned v ∧ Q_rm4_1 Z a1 h0 n0 v U'.heap L ∧ FrameEnd U o U' L ({ frames := 0, cells := 0, slots := 0, locals := 0 } : Room).cells ({ frames := 0, cells := 0, slots := 0, locals := 0 } : Room).slots) := by
  refine MetFree.of_bodySF (plainFor_of_name pn_0) hisR ?_
  intro p e s m args below meth c s₁ Bd hml0 hP hK
  obtain ⟨rfl, hZ, hh⟩ := hP
  have hx := Bd.exec
  have hby := Bd.bytes
  have hml : c.maxLocals = 1 := hml0
  have hown : s.vm.findClass "com/example/envelop/envelop/plan/Zone" = some m.cls := findClass_of_methodNamed Bd.named
  have hnm := (name_of_methodNamed Bd.named Bd.method).1
  have X0 : Stand p l e ({ frames := 0, cells := 0, slots := 0, locals := 0 } : Room) s m #[(.ref a1)] below meth c s₁ [] 0 0 := Stand.of_body Bd
  have e0 : s₁.heap = h0 := by rw [← hh, Bd.state]; rfl
  have N0 := Fr.nil n0
  refine Go.start (P := (fun o U' => ∃ v L, o = .returned v ∧ Q_rm4_1 Z a1 h0 n0 v U'.heap L ∧ FrameEnd s o U' L ({ frames := 0, cells := 0, slots := 0, locals := 0 } : Room).cells ({ frames := 0, cells := 0, slots := 0, locals := 0 } : Room).slots)) (castTop (g' := (mkF m 0 #[.val (.ref a1)] [])) (by first | rfl | simp [entryFrame, mkF, argsToLocals, Value.category]) (T := s₁)) ?_
  refine Go.st (fun t k => XS.aloadN X0.here hx rfl (hb hby d4_0) rfl rfl k) ?_
  show Go p e below _ (s₁.setTop (mkF m 1 #[.val (.ref a1)] [(.ref a1)]))
  obtain ⟨T1, X1, e1, st1⟩ := getF X0 hx hZ hown (host := "") (Or.inl (w15 hw)) Via.refl e0 P1 (g := (mkF m 1 #[.val (.ref a1)] [(.ref a1)])) rfl rfl (hb hby d4_1)
  refine Go.st st1 ?_
  show Go p e below _ (T1.setTop (mkF m 4 #[.val (.ref a1)] [(.int (1 : Int32))]))
  refine Go.st (fun t k => XS.iconst X1.here hx rfl (hb hby d4_4) k) ?_
  show Go p e below _ (T1.setTop (mkF m 5 #[.val (.ref a1)] [(.int (1 : Int32)), (.int (1 : Int32))]))
  refine Go.st (fun t k => XS.isub X1.here hx rfl (hb hby d4_5) rfl k) ?_
  show Go p e below _ (T1.setTop (mkF m 6 #[.val (.ref a1)] [(.int (0 : Int32))]))
  obtain ⟨fs, hr, hrun, hended, hWd, hsame⟩ := X1.leave (v := some (.int (0 : Int32))) (fun h => by rw [Bd.returns] at h; cases h)
  refine ⟨_, _, ?_, hrun, hended, _, _, rfl, ?_, ⟨⟨_, rfl⟩, hWd, hsame.mono (by decide) (by decide)⟩⟩
  · exact retI X1 hx Bd.returns (hb hby d4_6) hr
  · show Q_rm4_1 Z a1 h0 n0 _ T1.heap _
    rw [e1]
    exact ⟨rfl, N0, rfl⟩
def Q_rm5_1 (Z : State) (a1 : Addr) (a2 : Addr) (a3 : Addr) (k4 : ClassId) (a5 : Addr) (k6 : ClassId) (h0 : Heap) (n0 : Nat) (v : Option Value) (h : Heap) (L : List Loc) : Prop := v = some (.int (1 : Int32)) ∧ Fr n0 L ∧ h = h0
set_option maxRecDepth 65536 in
set_option maxHeartbeats 40000000 in
theorem rm5_1 (l : Launch) (Z : State) (a0 : Array Value) (hw : ∀ d ∈ tables_1, d.before a0 Z = true) (ws : List Jvm.Cond) (a1 : Addr) (a2 : Addr) (a3 : Addr) (k4 : ClassId) (a5 : Addr) (k6 : ClassId) (h0 : Heap) (n0 : Nat) (O0 : Old Z n0 h0) (P1 : Fld Z h0 a1 "com/example/envelop/envelop/plan/Zone" "bounds" "[J" (.ref a3)) (P2 : Arv Z h0 a3 k4 .long (1 : Int32) [(.long (1 : Int64))] (.long (0 : Int64))) (P3 : Fld Z h0 a2 "com/example/envelop/envelop/plan/Zone" "bounds" "[J" (.ref a5)) (P4 : Arv Z h0 a5 k6 .long (1 : Int32) [(.long (1 : Int64))] (.long (0 : Int64))) :
    MetFree l (⟨"com/example/envelop/envelop/plan/Zone", "within", "(Lcom/example/envelop/envelop/plan/Zone;)Z"⟩ : MethodName) (head1 (Jvm.Cond.code (⟨"com/example/envelop/envelop/plan/Zone", "within", "(Lcom/example/envelop/envelop/plan/Zone;)Z"⟩ : MethodName) prog_71_method_17_code 3 (some .boolean) :: ws) ({ frames := 0, cells := 0, slots := 0, locals := 0 } : Room)) (fun a U => a = #[(.ref a1), (.ref a2)] ∧ Z.Warmed39 U.vm ∧ U.heap = h0) (fun _ _ _ _ _ => True) (fun _ U o U' => ∃ v L, o = .returned v ∧ Q_rm5_1 Z a1 a2 a3 k4 a5 k6 h0 n0 v U'.heap L ∧ FrameEnd U o U' L ({ frames := 0, cells := 0, slots := 0, locals := 0 } : Room).cells ({ frames := 0, cells := 0, slots := 0, locals := 0 } : Room).slots) := by
  refine MetFree.of_bodySF (plainFor_of_name pn_0) hisR ?_
  intro p e s m args below meth c s₁ Bd hml0 hP hK
  obtain ⟨rfl, hZ, hh⟩ := hP
  have hx := Bd.exec
  have hby := Bd.bytes
  have hml : c.maxLocals = 3 := hml0
  have hown : s.vm.findClass "com/example/envelop/envelop/plan/Zone" = some m.cls := findClass_of_methodNamed Bd.named
  have hnm := (name_of_methodNamed Bd.named Bd.method).1
  have X0 : Stand p l e ({ frames := 0, cells := 0, slots := 0, locals := 0 } : Room) s m #[(.ref a1), (.ref a2)] below meth c s₁ [] 0 0 := Stand.of_body Bd
  have e0 : s₁.heap = h0 := by rw [← hh, Bd.state]; rfl
  have N0 := Fr.nil n0
  refine Go.start (P := (fun o U' => ∃ v L, o = .returned v ∧ Q_rm5_1 Z a1 a2 a3 k4 a5 k6 h0 n0 v U'.heap L ∧ FrameEnd s o U' L ({ frames := 0, cells := 0, slots := 0, locals := 0 } : Room).cells ({ frames := 0, cells := 0, slots := 0, locals := 0 } : Room).slots)) (castTop (g' := (mkF m 0 #[.val (.ref a1), .val (.ref a2), .unset] [])) (by first | rfl | simp [entryFrame, mkF, argsToLocals, Value.category]) (T := s₁)) ?_
  refine Go.st (fun t k => XS.iconst X0.here hx rfl (hb hby d5_0) k) ?_
  show Go p e below _ (s₁.setTop (mkF m 1 #[.val (.ref a1), .val (.ref a2), .unset] [(.int (0 : Int32))]))
  refine Go.st (fun t k => XS.istoreN X0.here hx rfl (hb hby d5_1) rfl (l' := #[.val (.ref a1), .val (.ref a2), .val (.int (0 : Int32))]) rfl k) ?_
  show Go p e below _ (s₁.setTop (mkF m 2 #[.val (.ref a1), .val (.ref a2), .val (.int (0 : Int32))] []))
  refine Go.st (fun t k => XS.iloadN X0.here hx rfl (hb hby d5_2) rfl k) ?_
  show Go p e below _ (s₁.setTop (mkF m 3 #[.val (.ref a1), .val (.ref a2), .val (.int (0 : Int32))] [(.int (0 : Int32))]))
  refine Go.st (fun t k => XS.aloadN X0.here hx rfl (hb hby d5_3) rfl rfl k) ?_
  show Go p e below _ (s₁.setTop (mkF m 4 #[.val (.ref a1), .val (.ref a2), .val (.int (0 : Int32))] [(.ref a1), (.int (0 : Int32))]))
  obtain ⟨T1, X1, e1, st1⟩ := getF X0 hx hZ hown (host := "") (Or.inl (w17 hw)) Via.refl e0 P1 (g := (mkF m 4 #[.val (.ref a1), .val (.ref a2), .val (.int (0 : Int32))] [(.ref a1), (.int (0 : Int32))])) rfl rfl (hb hby d5_4)
  refine Go.st st1 ?_
  show Go p e below _ (T1.setTop (mkF m 7 #[.val (.ref a1), .val (.ref a2), .val (.int (0 : Int32))] [(.ref a3), (.int (0 : Int32))]))
  obtain ⟨cl2, Ar2, -, S2, M2, -, -⟩ := id P2
  refine Go.st (fun t k => X1.arraylength hx (by rw [e1]; exact Ar2.1) (State.isArrayOf_alike hZ.alike Ar2.2.1) (g := (mkF m 7 #[.val (.ref a1), .val (.ref a2), .val (.int (0 : Int32))] [(.ref a3), (.int (0 : Int32))])) rfl rfl (hb hby d5_7) t k) ?_
  rw [len_of S2 M2]
  show Go p e below _ (T1.setTop (mkF m 8 #[.val (.ref a1), .val (.ref a2), .val (.int (0 : Int32))] [(.int (1 : Int32)), (.int (0 : Int32))]))
  refine Go.st (fun t k => XS.icmpNo X1.here hx rfl (hb hby d5_8) rfl (Jvm.Free.XT.ii_ge_f (by decide : (0 : Int32) < (1 : Int32))) k) ?_
  show Go p e below _ (T1.setTop (mkF m 11 #[.val (.ref a1), .val (.ref a2), .val (.int (0 : Int32))] []))
  refine Go.st (fun t k => XS.aloadN X1.here hx rfl (hb hby d5_11) rfl rfl k) ?_
  show Go p e below _ (T1.setTop (mkF m 12 #[.val (.ref a1), .val (.ref a2), .val (.int (0 : Int32))] [(.ref a1)]))
  obtain ⟨T3, X3, e3, st3⟩ := getF X1 hx hZ hown (host := "") (Or.inl (w17 hw)) Via.refl e1 P1 (g := (mkF m 12 #[.val (.ref a1), .val (.ref a2), .val (.int (0 : Int32))] [(.ref a1)])) rfl rfl (hb hby d5_12)
  refine Go.st st3 ?_
  show Go p e below _ (T3.setTop (mkF m 15 #[.val (.ref a1), .val (.ref a2), .val (.int (0 : Int32))] [(.ref a3)]))
  refine Go.st (fun t k => XS.iloadN X3.here hx rfl (hb hby d5_15) rfl k) ?_
  show Go p e below _ (T3.setTop (mkF m 16 #[.val (.ref a1), .val (.ref a2), .val (.int (0 : Int32))] [(.int (0 : Int32)), (.ref a3)]))
  obtain ⟨cl4, Ar4, q4, S4, M4, H4, G4⟩ := id P2
  have hin4 : ¬ ((0 : Int32) < 0 ∨ cl4.slots.size ≤ ((0 : Int32)).toNatClampNeg) := inb_of S4 ⟨by decide, by decide⟩
  have hat4 : cl4.slots[((0 : Int32)).toNatClampNeg]? = some (.long (1 : Int64)) := H4.at hin4 rfl
  refine Go.st (fun t k => X3.laload hx (j := (0 : Int32)) (v := (.long (1 : Int64))) (by rw [e3]; exact Ar4.1) (State.isArrayOf_alike hZ.alike Ar4.2.1) Ar4.2.2 hin4 hat4 (g := (mkF m 16 #[.val (.ref a1), .val (.ref a2), .val (.int (0 : Int32))] [(.int (0 : Int32)), (.ref a3)])) rfl rfl (hb hby d5_16) t k) ?_
  show Go p e below _ (T3.setTop (mkF m 17 #[.val (.ref a1), .val (.ref a2), .val (.int (0 : Int32))] [(.long (1 : Int64))]))
  refine Go.st (fun t k => XS.aloadN X3.here hx rfl (hb hby d5_17) rfl rfl k) ?_
  show Go p e below _ (T3.setTop (mkF m 18 #[.val (.ref a1), .val (.ref a2), .val (.int (0 : Int32))] [(.ref a2), (.long (1 : Int64))]))
  obtain ⟨T5, X5, e5, st5⟩ := getF X3 hx hZ hown (host := "") (Or.inl (w17 hw)) Via.refl e3 P3 (g := (mkF m 18 #[.val (.ref a1), .val (.ref a2), .val (.int (0 : Int32))] [(.ref a2), (.long (1 : Int64))])) rfl rfl (hb hby d5_18)
  refine Go.st st5 ?_
  show Go p e below _ (T5.setTop (mkF m 21 #[.val (.ref a1), .val (.ref a2), .val (.int (0 : Int32))] [(.ref a5), (.long (1 : Int64))]))
  refine Go.st (fun t k => XS.iloadN X5.here hx rfl (hb hby d5_21) rfl k) ?_
  show Go p e below _ (T5.setTop (mkF m 22 #[.val (.ref a1), .val (.ref a2), .val (.int (0 : Int32))] [(.int (0 : Int32)), (.ref a5), (.long (1 : Int64))]))
  obtain ⟨cl6, Ar6, q6, S6, M6, H6, G6⟩ := id P4
  have hin6 : ¬ ((0 : Int32) < 0 ∨ cl6.slots.size ≤ ((0 : Int32)).toNatClampNeg) := inb_of S6 ⟨by decide, by decide⟩
  have hat6 : cl6.slots[((0 : Int32)).toNatClampNeg]? = some (.long (1 : Int64)) := H6.at hin6 rfl
  refine Go.st (fun t k => X5.laload hx (j := (0 : Int32)) (v := (.long (1 : Int64))) (by rw [e5]; exact Ar6.1) (State.isArrayOf_alike hZ.alike Ar6.2.1) Ar6.2.2 hin6 hat6 (g := (mkF m 22 #[.val (.ref a1), .val (.ref a2), .val (.int (0 : Int32))] [(.int (0 : Int32)), (.ref a5), (.long (1 : Int64))])) rfl rfl (hb hby d5_22) t k) ?_
  show Go p e below _ (T5.setTop (mkF m 23 #[.val (.ref a1), .val (.ref a2), .val (.int (0 : Int32))] [(.long (1 : Int64)), (.long (1 : Int64))]))
  refine Go.st (fun t k => Jvm.Free.XT.lcmp X5.here hx rfl (hb hby d5_23) rfl k) ?_
  show Go p e below _ (T5.setTop (mkF m 24 #[.val (.ref a1), .val (.ref a2), .val (.int (0 : Int32))] [(.int (Jvm.Free.XT.cmpL (1 : Int64) (1 : Int64)))]))
  refine Go.st (fun t k => XS.ifYes X5.here hx rfl (pc0 := 24) (pc' := 29) rfl (hb hby d5_24) rfl (Jvm.Free.XT.ll_le_t (by decide : ¬ ((1 : Int64) < (1 : Int64)))) (by decide) (by decide) k) ?_
  show Go p e below _ (T5.setTop (mkF m 29 #[.val (.ref a1), .val (.ref a2), .val (.int (0 : Int32))] []))
  refine Go.st (fun t k => XS.iinc X5.here hx rfl (hb hby d5_29) rfl (l' := #[.val (.ref a1), .val (.ref a2), .val (.int (1 : Int32))]) rfl k) ?_
  show Go p e below _ (T5.setTop (mkF m 32 #[.val (.ref a1), .val (.ref a2), .val (.int (1 : Int32))] []))
  refine Go.st (fun t k => XS.goto X5.here hx rfl (pc0 := 32) (pc' := 2) rfl (hb hby d5_32) (by decide) (by decide) k) ?_
  show Go p e below _ (T5.setTop (mkF m 2 #[.val (.ref a1), .val (.ref a2), .val (.int (1 : Int32))] []))
  refine Go.st (fun t k => XS.iloadN X5.here hx rfl (hb hby d5_2) rfl k) ?_
  show Go p e below _ (T5.setTop (mkF m 3 #[.val (.ref a1), .val (.ref a2), .val (.int (1 : Int32))] [(.int (1 : Int32))]))
  refine Go.st (fun t k => XS.aloadN X5.here hx rfl (hb hby d5_3) rfl rfl k) ?_
  show Go p e below _ (T5.setTop (mkF m 4 #[.val (.ref a1), .val (.ref a2), .val (.int (1 : Int32))] [(.ref a1), (.int (1 : Int32))]))
  obtain ⟨T7, X7, e7, st7⟩ := getF X5 hx hZ hown (host := "") (Or.inl (w17 hw)) Via.refl e5 P1 (g := (mkF m 4 #[.val (.ref a1), .val (.ref a2), .val (.int (1 : Int32))] [(.ref a1), (.int (1 : Int32))])) rfl rfl (hb hby d5_4)
  refine Go.st st7 ?_
  show Go p e below _ (T7.setTop (mkF m 7 #[.val (.ref a1), .val (.ref a2), .val (.int (1 : Int32))] [(.ref a3), (.int (1 : Int32))]))
  obtain ⟨cl8, Ar8, -, S8, M8, -, -⟩ := id P2
  refine Go.st (fun t k => X7.arraylength hx (by rw [e7]; exact Ar8.1) (State.isArrayOf_alike hZ.alike Ar8.2.1) (g := (mkF m 7 #[.val (.ref a1), .val (.ref a2), .val (.int (1 : Int32))] [(.ref a3), (.int (1 : Int32))])) rfl rfl (hb hby d5_7) t k) ?_
  rw [len_of S8 M8]
  show Go p e below _ (T7.setTop (mkF m 8 #[.val (.ref a1), .val (.ref a2), .val (.int (1 : Int32))] [(.int (1 : Int32)), (.int (1 : Int32))]))
  refine Go.st (fun t k => XS.icmpYes X7.here hx rfl (pc0 := 8) (pc' := 35) rfl (hb hby d5_8) rfl (Jvm.Free.XT.ii_ge_t (by decide : ¬ ((1 : Int32) < (1 : Int32)))) (by decide) (by decide) k) ?_
  show Go p e below _ (T7.setTop (mkF m 35 #[.val (.ref a1), .val (.ref a2), .val (.int (1 : Int32))] []))
  refine Go.st (fun t k => XS.iconst X7.here hx rfl (hb hby d5_35) k) ?_
  show Go p e below _ (T7.setTop (mkF m 36 #[.val (.ref a1), .val (.ref a2), .val (.int (1 : Int32))] [(.int (1 : Int32))]))
  obtain ⟨fs, hr, hrun, hended, hWd, hsame⟩ := X7.leave (v := some (.int (1 : Int32))) (fun h => by rw [Bd.returns] at h; cases h)
  refine ⟨_, _, ?_, hrun, hended, _, _, rfl, ?_, ⟨⟨_, rfl⟩, hWd, hsame.mono (by decide) (by decide)⟩⟩
  · exact retN X7 hx (t := .boolean) Bd.returns (by simp) (hb hby d5_36) hr
  · show Q_rm5_1 Z a1 a2 a3 k4 a5 k6 h0 n0 _ T7.heap _
    rw [e7]
    exact ⟨rfl, N0, rfl⟩
def Q_rm7_1 (Z : State) (a1 : Addr) (a2 : Addr) (k3 : ClassId) (h0 : Heap) (n0 : Nat) (v : Option Value) (h : Heap) (L : List Loc) : Prop := v = some (.long (1 : Int64)) ∧ Fr n0 L ∧ h = h0
set_option maxRecDepth 65536 in
set_option maxHeartbeats 40000000 in
theorem rm7_1 (l : Launch) (Z : State) (a0 : Array Value) (hw : ∀ d ∈ tables_1, d.before a0 Z = true) (ws : List Jvm.Cond) (a1 : Addr) (a2 : Addr) (k3 : ClassId) (h0 : Heap) (n0 : Nat) (O0 : Old Z n0 h0) (P1 : Fld Z h0 a1 "com/example/envelop/envelop/plan/Zone" "bounds" "[J" (.ref a2)) (P2 : Fld Z h0 a1 "com/example/envelop/envelop/plan/Zone" "size" "I" (.int (1 : Int32))) (P3 : Arv Z h0 a2 k3 .long (1 : Int32) [(.long (1 : Int64))] (.long (0 : Int64))) :
    MetFree l (⟨"com/example/envelop/envelop/plan/Zone", "get", "(II)J"⟩ : MethodName) (head1 (Jvm.Cond.code (⟨"com/example/envelop/envelop/plan/Zone", "get", "(II)J"⟩ : MethodName) prog_71_method_7_code 3 (some .long) :: ws) ({ frames := 0, cells := 0, slots := 0, locals := 0 } : Room)) (fun a U => a = #[(.ref a1), (.int (0 : Int32)), (.int (0 : Int32))] ∧ Z.Warmed39 U.vm ∧ U.heap = h0) (fun _ _ _ _ _ => True) (fun _ U o U' => ∃ v L, o = .returned v ∧ Q_rm7_1 Z a1 a2 k3 h0 n0 v U'.heap L ∧ FrameEnd U o U' L ({ frames := 0, cells := 0, slots := 0, locals := 0 } : Room).cells ({ frames := 0, cells := 0, slots := 0, locals := 0 } : Room).slots) := by
  refine MetFree.of_bodySF (plainFor_of_name pn_0) hisR ?_
  intro p e s m args below meth c s₁ Bd hml0 hP hK
  obtain ⟨rfl, hZ, hh⟩ := hP
  have hx := Bd.exec
  have hby := Bd.bytes
  have hml : c.maxLocals = 3 := hml0
  have hown : s.vm.findClass "com/example/envelop/envelop/plan/Zone" = some m.cls := findClass_of_methodNamed Bd.named
  have hnm := (name_of_methodNamed Bd.named Bd.method).1
  have X0 : Stand p l e ({ frames := 0, cells := 0, slots := 0, locals := 0 } : Room) s m #[(.ref a1), (.int (0 : Int32)), (.int (0 : Int32))] below meth c s₁ [] 0 0 := Stand.of_body Bd
  have e0 : s₁.heap = h0 := by rw [← hh, Bd.state]; rfl
  have N0 := Fr.nil n0
  refine Go.start (P := (fun o U' => ∃ v L, o = .returned v ∧ Q_rm7_1 Z a1 a2 k3 h0 n0 v U'.heap L ∧ FrameEnd s o U' L ({ frames := 0, cells := 0, slots := 0, locals := 0 } : Room).cells ({ frames := 0, cells := 0, slots := 0, locals := 0 } : Room).slots)) (castTop (g' := (mkF m 0 #[.val (.ref a1), .val (.int (0 : Int32)), .val (.int (0 : Int32))] [])) (by first | rfl | simp [entryFrame, mkF, argsToLocals, Value.category]) (T := s₁)) ?_
  refine Go.st (fun t k => XS.aloadN X0.here hx rfl (hb hby d7_0) rfl rfl k) ?_
  show Go p e below _ (s₁.setTop (mkF m 1 #[.val (.ref a1), .val (.int (0 : Int32)), .val (.int (0 : Int32))] [(.ref a1)]))
  obtain ⟨T1, X1, e1, st1⟩ := getF X0 hx hZ hown (host := "") (Or.inl (w17 hw)) Via.refl e0 P1 (g := (mkF m 1 #[.val (.ref a1), .val (.int (0 : Int32)), .val (.int (0 : Int32))] [(.ref a1)])) rfl rfl (hb hby d7_1)
  refine Go.st st1 ?_
  show Go p e below _ (T1.setTop (mkF m 4 #[.val (.ref a1), .val (.int (0 : Int32)), .val (.int (0 : Int32))] [(.ref a2)]))
  refine Go.st (fun t k => XS.iloadN X1.here hx rfl (hb hby d7_4) rfl k) ?_
  show Go p e below _ (T1.setTop (mkF m 5 #[.val (.ref a1), .val (.int (0 : Int32)), .val (.int (0 : Int32))] [(.int (0 : Int32)), (.ref a2)]))
  refine Go.st (fun t k => XS.aloadN X1.here hx rfl (hb hby d7_5) rfl rfl k) ?_
  show Go p e below _ (T1.setTop (mkF m 6 #[.val (.ref a1), .val (.int (0 : Int32)), .val (.int (0 : Int32))] [(.ref a1), (.int (0 : Int32)), (.ref a2)]))
  obtain ⟨T2, X2, e2, st2⟩ := getF X1 hx hZ hown (host := "") (Or.inl (w15 hw)) Via.refl e1 P2 (g := (mkF m 6 #[.val (.ref a1), .val (.int (0 : Int32)), .val (.int (0 : Int32))] [(.ref a1), (.int (0 : Int32)), (.ref a2)])) rfl rfl (hb hby d7_6)
  refine Go.st st2 ?_
  show Go p e below _ (T2.setTop (mkF m 9 #[.val (.ref a1), .val (.int (0 : Int32)), .val (.int (0 : Int32))] [(.int (1 : Int32)), (.int (0 : Int32)), (.ref a2)]))
  refine Go.st (fun t k => XS.imul X2.here hx rfl (hb hby d7_9) rfl k) ?_
  show Go p e below _ (T2.setTop (mkF m 10 #[.val (.ref a1), .val (.int (0 : Int32)), .val (.int (0 : Int32))] [(.int (0 : Int32)), (.ref a2)]))
  refine Go.st (fun t k => XS.iloadN X2.here hx rfl (hb hby d7_10) rfl k) ?_
  show Go p e below _ (T2.setTop (mkF m 11 #[.val (.ref a1), .val (.int (0 : Int32)), .val (.int (0 : Int32))] [(.int (0 : Int32)), (.int (0 : Int32)), (.ref a2)]))
  refine Go.st (fun t k => XS.iadd X2.here hx rfl (hb hby d7_11) rfl k) ?_
  show Go p e below _ (T2.setTop (mkF m 12 #[.val (.ref a1), .val (.int (0 : Int32)), .val (.int (0 : Int32))] [(.int (0 : Int32)), (.ref a2)]))
  obtain ⟨cl3, Ar3, q3, S3, M3, H3, G3⟩ := id P3
  have hin3 : ¬ ((0 : Int32) < 0 ∨ cl3.slots.size ≤ ((0 : Int32)).toNatClampNeg) := inb_of S3 ⟨by decide, by decide⟩
  have hat3 : cl3.slots[((0 : Int32)).toNatClampNeg]? = some (.long (1 : Int64)) := H3.at hin3 rfl
  refine Go.st (fun t k => X2.laload hx (j := (0 : Int32)) (v := (.long (1 : Int64))) (by rw [e2]; exact Ar3.1) (State.isArrayOf_alike hZ.alike Ar3.2.1) Ar3.2.2 hin3 hat3 (g := (mkF m 12 #[.val (.ref a1), .val (.int (0 : Int32)), .val (.int (0 : Int32))] [(.int (0 : Int32)), (.ref a2)])) rfl rfl (hb hby d7_12) t k) ?_
  show Go p e below _ (T2.setTop (mkF m 13 #[.val (.ref a1), .val (.int (0 : Int32)), .val (.int (0 : Int32))] [(.long (1 : Int64))]))
  obtain ⟨fs, hr, hrun, hended, hWd, hsame⟩ := X2.leave (v := some (.long (1 : Int64))) (fun h => by rw [Bd.returns] at h; cases h)
  refine ⟨_, _, ?_, hrun, hended, _, _, rfl, ?_, ⟨⟨_, rfl⟩, hWd, hsame.mono (by decide) (by decide)⟩⟩
  · exact X2.lreturnOut hx Bd.returns (hb hby d7_13) hr
  · show Q_rm7_1 Z a1 a2 k3 h0 n0 _ T2.heap _
    rw [e2]
    exact ⟨rfl, N0, rfl⟩
def Q_rm2_2 (Z : State) (a1 : Addr) (a2 : Addr) (h0 : Heap) (n0 : Nat) (v : Option Value) (h : Heap) (L : List Loc) : Prop := v = none ∧ Fr n0 L ∧ Keep h0 h [a1] ∧ Fld Z h a1 "com/example/envelop/envelop/plan/Zone" "size" "I" (.int (2 : Int32)) ∧ Fld Z h a1 "com/example/envelop/envelop/plan/Zone" "bounds" "[J" (.ref a2)
set_option maxRecDepth 65536 in
set_option maxHeartbeats 40000000 in
theorem rm2_2 (l : Launch) (Z : State) (a0 : Array Value) (hw : ∀ d ∈ tables_1, d.before a0 Z = true) (ws : List Jvm.Cond) (a1 : Addr) (a2 : Addr) (h0 : Heap) (n0 : Nat) (O0 : Old Z n0 h0) (P1 : Exa Z h0 a1 "com/example/envelop/envelop/plan/Zone") (P2 : Fld Z h0 a1 "com/example/envelop/envelop/plan/Zone" "size" "I" (.int (0 : Int32))) (P3 : n0 ≤ a1) (P4 : Fld Z h0 a1 "com/example/envelop/envelop/plan/Zone" "bounds" "[J" .null) :
    MetFree l (⟨"com/example/envelop/envelop/plan/Zone", "<init>", "(I[J)V"⟩ : MethodName) (head1 (Jvm.Cond.code (⟨"com/example/envelop/envelop/plan/Zone", "<init>", "(I[J)V"⟩ : MethodName) prog_71_method_1_code 3 none :: ws) ({ frames := 1, cells := 0, slots := 0, locals := 12 } : Room)) (fun a U => a = #[(.ref a1), (.int (2 : Int32)), (.ref a2)] ∧ Z.Warmed39 U.vm ∧ U.heap = h0) (fun _ _ _ _ _ => True) (fun _ U o U' => ∃ v L, o = .returned v ∧ Q_rm2_2 Z a1 a2 h0 n0 v U'.heap L ∧ FrameEnd U o U' L ({ frames := 1, cells := 0, slots := 0, locals := 12 } : Room).cells ({ frames := 1, cells := 0, slots := 0, locals := 12 } : Room).slots) := by
  refine MetFree.of_bodySF (plainFor_of_name pn_0) hisR ?_
  intro p e s m args below meth c s₁ Bd hml0 hP hK
  obtain ⟨rfl, hZ, hh⟩ := hP
  have hx := Bd.exec
  have hby := Bd.bytes
  have hml : c.maxLocals = 3 := hml0
  have hown : s.vm.findClass "com/example/envelop/envelop/plan/Zone" = some m.cls := findClass_of_methodNamed Bd.named
  have hnm := (name_of_methodNamed Bd.named Bd.method).1
  have X0 : Stand p l e ({ frames := 1, cells := 0, slots := 0, locals := 12 } : Room) s m #[(.ref a1), (.int (2 : Int32)), (.ref a2)] below meth c s₁ [] 0 0 := Stand.of_body Bd
  have e0 : s₁.heap = h0 := by rw [← hh, Bd.state]; rfl
  have N0 := Fr.nil n0
  refine Go.start (P := (fun o U' => ∃ v L, o = .returned v ∧ Q_rm2_2 Z a1 a2 h0 n0 v U'.heap L ∧ FrameEnd s o U' L ({ frames := 1, cells := 0, slots := 0, locals := 12 } : Room).cells ({ frames := 1, cells := 0, slots := 0, locals := 12 } : Room).slots)) (castTop (g' := (mkF m 0 #[.val (.ref a1), .val (.int (2 : Int32)), .val (.ref a2)] [])) (by first | rfl | simp [entryFrame, mkF, argsToLocals, Value.category]) (T := s₁)) ?_
  refine Go.st (fun t k => XS.aloadN X0.here hx rfl (hb hby d2_0) rfl rfl k) ?_
  show Go p e below _ (s₁.setTop (mkF m 1 #[.val (.ref a1), .val (.int (2 : Int32)), .val (.ref a2)] [(.ref a1)]))
  obtain ⟨T1, X1, e1, st1⟩ := initO X0 hx hZ hown (w12 hw) (w13 hw) (w14 hw) e0 (g := (mkF m 1 #[.val (.ref a1), .val (.int (2 : Int32)), .val (.ref a2)] [(.ref a1)])) rfl (by rw [hml]; rfl) rfl (hb hby d2_1) (by decide) (W := 0) (by show 2 * 0 + _ ≤ _; exact Nat.le_of_eq rfl) (by decide)
  refine Go.st st1 ?_
  show Go p e below _ (T1.setTop (mkF m 4 #[.val (.ref a1), .val (.int (2 : Int32)), .val (.ref a2)] []))
  refine Go.st (fun t k => XS.aloadN X1.here hx rfl (hb hby d2_4) rfl rfl k) ?_
  show Go p e below _ (T1.setTop (mkF m 5 #[.val (.ref a1), .val (.int (2 : Int32)), .val (.ref a2)] [(.ref a1)]))
  refine Go.st (fun t k => XS.iloadN X1.here hx rfl (hb hby d2_5) rfl k) ?_
  show Go p e below _ (T1.setTop (mkF m 6 #[.val (.ref a1), .val (.int (2 : Int32)), .val (.ref a2)] [(.int (2 : Int32)), (.ref a1)]))
  obtain ⟨T2, h2, X2, e2, W2, st2⟩ := putF X1 hx hZ hown (host := "") (Or.inl (w15 hw)) Via.refl e1 P2 P1 (Or.inr ⟨(w16 hw), rfl, hnm⟩) (w5 hw) (ty := .int) (by decide) rfl rfl (g := (mkF m 6 #[.val (.ref a1), .val (.int (2 : Int32)), .val (.ref a2)] [(.int (2 : Int32)), (.ref a1)])) rfl rfl (hb hby d2_6)
  have F2 : Fld Z h2 a1 "com/example/envelop/envelop/plan/Zone" "size" "I" (.int (2 : Int32)) := P2.same W2
  have N2 := Fr.snoc X2 N0 P3
  have O2 : Old Z n0 h2 := O0.wr W2 P3
  have K2 : Keep h0 h2 [a1] := (Keep.refl h0 [a1]).wr W2 (Or.inl (List.mem_of_getElem? (i := 0) rfl))
  refine Go.st st2 ?_
  show Go p e below _ (T2.setTop (mkF m 9 #[.val (.ref a1), .val (.int (2 : Int32)), .val (.ref a2)] []))
  refine Go.st (fun t k => XS.aloadN X2.here hx rfl (hb hby d2_9) rfl rfl k) ?_
  show Go p e below _ (T2.setTop (mkF m 10 #[.val (.ref a1), .val (.int (2 : Int32)), .val (.ref a2)] [(.ref a1)]))
  refine Go.st (fun t k => XS.aloadN X2.here hx rfl (hb hby d2_10) rfl rfl k) ?_
  show Go p e below _ (T2.setTop (mkF m 11 #[.val (.ref a1), .val (.int (2 : Int32)), .val (.ref a2)] [(.ref a2), (.ref a1)]))
  have c3 := (P4.other W2 (Or.inr (slot_ne (Or.inr (w18 hw)) (Or.inr (w16 hw)) (by decide) (t := (.array .long)) (t' := .int) (by decide) (by decide))))
  obtain ⟨T4, h4, X4, e4, W4, st4⟩ := putF X2 hx hZ hown (host := "") (Or.inl (w17 hw)) Via.refl e2 c3 (P1.wr W2) (Or.inr ⟨(w18 hw), rfl, hnm⟩) (w5 hw) (ty := (.array .long)) (by decide) rfl rfl (g := (mkF m 11 #[.val (.ref a1), .val (.int (2 : Int32)), .val (.ref a2)] [(.ref a2), (.ref a1)])) rfl rfl (hb hby d2_11)
  have F4 : Fld Z h4 a1 "com/example/envelop/envelop/plan/Zone" "bounds" "[J" (.ref a2) := c3.same W4
  have N4 := Fr.snoc X4 N2 P3
  have O4 : Old Z n0 h4 := O2.wr W4 P3
  have K4 : Keep h0 h4 [a1] := K2.wr W4 (Or.inl (List.mem_of_getElem? (i := 0) rfl))
  refine Go.st st4 ?_
  show Go p e below _ (T4.setTop (mkF m 14 #[.val (.ref a1), .val (.int (2 : Int32)), .val (.ref a2)] []))
  obtain ⟨fs, hr, hrun, hended, hWd, hsame⟩ := X4.leave (v := none) (fun _ => rfl)
  have c5 := (F2.other W4 (Or.inr (slot_ne (Or.inr (w16 hw)) (Or.inr (w18 hw)) (by decide) (t := .int) (t' := (.array .long)) (by decide) (by decide))))
  refine ⟨_, _, ?_, hrun, hended, _, _, rfl, ?_, ⟨⟨_, rfl⟩, hWd, hsame.mono (by decide) (by decide)⟩⟩
  · exact X4.returnOut hx Bd.returns (hb hby d2_14) hr
  · show Q_rm2_2 Z a1 a2 h0 n0 _ T4.heap _
    rw [e4]
    exact ⟨rfl, N4, K4, c5, F4⟩
def Q_rm6_1 (Z : State) (a1 : Addr) (a2 : Addr) (k3 : ClassId) (h0 : Heap) (n0 : Nat) (v : Option Value) (h : Heap) (L : List Loc) : Prop := ∃ (b2 : Addr) (b26 : Addr) (k2 : ClassId), v = some (.ref b26) ∧ Fr n0 L ∧ Keep h0 h [] ∧ h0.size ≤ b2 ∧ h0.size ≤ b26 ∧ b2 ≠ b26 ∧ Exa Z h b26 "com/example/envelop/envelop/plan/Zone" ∧ Fld Z h b26 "com/example/envelop/envelop/plan/Zone" "size" "I" (.int (2 : Int32)) ∧ Fld Z h b26 "com/example/envelop/envelop/plan/Zone" "bounds" "[J" (.ref b2) ∧ Arv Z h b2 k2 .long (4 : Int32) [(.long (1 : Int64)), (.long (1 : Int64)), (.long (1 : Int64)), (.long (1 : Int64))] (.long (0 : Int64))
set_option maxRecDepth 65536 in
set_option maxHeartbeats 40000000 in
theorem rm6_1 (l : Launch) (Z : State) (a0 : Array Value) (hw : ∀ d ∈ tables_1, d.before a0 Z = true) (ws : List Jvm.Cond) (a1 : Addr) (a2 : Addr) (k3 : ClassId) (h0 : Heap) (n0 : Nat) (O0 : Old Z n0 h0) (P1 : Fld Z h0 a1 "com/example/envelop/envelop/plan/Zone" "size" "I" (.int (1 : Int32))) (P2 : Fld Z h0 a1 "com/example/envelop/envelop/plan/Zone" "bounds" "[J" (.ref a2)) (P3 : Arv Z h0 a2 k3 .long (1 : Int32) [(.long (1 : Int64))] (.long (0 : Int64))) (P4 : Exa Z h0 a1 "com/example/envelop/envelop/plan/Zone") (P5 : Sta Z Z.heap "com/example/envelop/envelop/plan/Zone" "ZERO" "J" (.long (1 : Int64))) :
    MetFree l (⟨"com/example/envelop/envelop/plan/Zone", "reset", "()Lcom/example/envelop/envelop/plan/Zone;"⟩ : MethodName) (head1 (Jvm.Cond.code (⟨"com/example/envelop/envelop/plan/Zone", "reset", "()Lcom/example/envelop/envelop/plan/Zone;"⟩ : MethodName) prog_71_method_13_code 4 (some (.object "com/example/envelop/envelop/plan/Zone")) :: ws) ({ frames := 2, cells := 2, slots := 6, locals := 27 } : Room)) (fun a U => a = #[(.ref a1)] ∧ Z.Warmed39 U.vm ∧ U.heap = h0) (fun _ _ _ _ _ => True) (fun _ U o U' => ∃ v L, o = .returned v ∧ Q_rm6_1 Z a1 a2 k3 h0 n0 v U'.heap L ∧ FrameEnd U o U' L ({ frames := 2, cells := 2, slots := 6, locals := 27 } : Room).cells ({ frames := 2, cells := 2, slots := 6, locals := 27 } : Room).slots) := by
  refine MetFree.of_bodySF (plainFor_of_name pn_0) hisR ?_
  intro p e s m args below meth c s₁ Bd hml0 hP hK
  obtain ⟨rfl, hZ, hh⟩ := hP
  have hx := Bd.exec
  have hby := Bd.bytes
  have hml : c.maxLocals = 4 := hml0
  have hown : s.vm.findClass "com/example/envelop/envelop/plan/Zone" = some m.cls := findClass_of_methodNamed Bd.named
  have hnm := (name_of_methodNamed Bd.named Bd.method).1
  have X0 : Stand p l e ({ frames := 2, cells := 2, slots := 6, locals := 27 } : Room) s m #[(.ref a1)] below meth c s₁ [] 0 0 := Stand.of_body Bd
  have e0 : s₁.heap = h0 := by rw [← hh, Bd.state]; rfl
  have N0 := Fr.nil n0
  refine Go.start (P := (fun o U' => ∃ v L, o = .returned v ∧ Q_rm6_1 Z a1 a2 k3 h0 n0 v U'.heap L ∧ FrameEnd s o U' L ({ frames := 2, cells := 2, slots := 6, locals := 27 } : Room).cells ({ frames := 2, cells := 2, slots := 6, locals := 27 } : Room).slots)) (castTop (g' := (mkF m 0 #[.val (.ref a1), .unset, .unset, .unset] [])) (by first | rfl | simp [entryFrame, mkF, argsToLocals, Value.category]) (T := s₁)) ?_
  refine Go.st (fun t k => XS.aloadN X0.here hx rfl (hb hby d6_0) rfl rfl k) ?_
  show Go p e below _ (s₁.setTop (mkF m 1 #[.val (.ref a1), .unset, .unset, .unset] [(.ref a1)]))
  obtain ⟨T1, X1, e1, st1⟩ := getF X0 hx hZ hown (host := "") (Or.inl (w15 hw)) Via.refl e0 P1 (g := (mkF m 1 #[.val (.ref a1), .unset, .unset, .unset] [(.ref a1)])) rfl rfl (hb hby d6_1)
  refine Go.st st1 ?_
  show Go p e below _ (T1.setTop (mkF m 4 #[.val (.ref a1), .unset, .unset, .unset] [(.int (1 : Int32))]))
  refine Go.st (fun t k => XS.iconst X1.here hx rfl (hb hby d6_4) k) ?_
  show Go p e below _ (T1.setTop (mkF m 5 #[.val (.ref a1), .unset, .unset, .unset] [(.int (1 : Int32)), (.int (1 : Int32))]))
  refine Go.st (fun t k => XS.iadd X1.here hx rfl (hb hby d6_5) rfl k) ?_
  show Go p e below _ (T1.setTop (mkF m 6 #[.val (.ref a1), .unset, .unset, .unset] [(.int (2 : Int32))]))
  refine Go.st (fun t k => XS.istoreN X1.here hx rfl (hb hby d6_6) rfl (l' := #[.val (.ref a1), .val (.int (2 : Int32)), .unset, .unset]) rfl k) ?_
  show Go p e below _ (T1.setTop (mkF m 7 #[.val (.ref a1), .val (.int (2 : Int32)), .unset, .unset] []))
  refine Go.st (fun t k => XS.iloadN X1.here hx rfl (hb hby d6_7) rfl k) ?_
  show Go p e below _ (T1.setTop (mkF m 8 #[.val (.ref a1), .val (.int (2 : Int32)), .unset, .unset] [(.int (2 : Int32))]))
  refine Go.st (fun t k => XS.iloadN X1.here hx rfl (hb hby d6_8) rfl k) ?_
  show Go p e below _ (T1.setTop (mkF m 9 #[.val (.ref a1), .val (.int (2 : Int32)), .unset, .unset] [(.int (2 : Int32)), (.int (2 : Int32))]))
  refine Go.st (fun t k => XS.imul X1.here hx rfl (hb hby d6_9) rfl k) ?_
  show Go p e below _ (T1.setTop (mkF m 10 #[.val (.ref a1), .val (.int (2 : Int32)), .unset, .unset] [(.int (4 : Int32))]))
  obtain ⟨T2, h2, k2, X2, e2, E2, A2, st2⟩ := newP X1 hx hZ (aty := .long) (w6 hw) e1 (g := (mkF m 10 #[.val (.ref a1), .val (.int (2 : Int32)), .unset, .unset] [(.int (4 : Int32))])) rfl (hb hby d6_10) rfl (by decide) (cap := 4) (by decide) (by decide) (by decide) (by decide)
  obtain ⟨b2, z2⟩ : ∃ z, z = h0.size := ⟨_, rfl⟩
  rw [← z2] at A2 st2
  have g_b2 : n0 ≤ b2 := Nat.le_trans (own_n0 O0) (Nat.le_of_eq z2.symm)
  have s_b2 : h0.size ≤ b2 := Nat.le_trans (Keep.refl h0 []).1 (Nat.le_of_eq z2.symm)
  have V2 : Arv Z h2 b2 k2 .long (4 : Int32) [(.long (0 : Int64)), (.long (0 : Int64)), (.long (0 : Int64)), (.long (0 : Int64))] (.long (0 : Int64)) := (Arv.new A2 (by decide)).pad (pad_rep [] (.long (0 : Int64)) 4)
  have O2 : Old Z n0 h2 := O0.ext E2
  have K2 : Keep h0 h2 [] := (Keep.refl h0 []).ext E2
  refine Go.st st2 ?_
  show Go p e below _ (T2.setTop (mkF m 12 #[.val (.ref a1), .val (.int (2 : Int32)), .unset, .unset] [(.ref b2)]))
  refine Go.st (fun t k => XS.astoreN X2.here hx rfl (hb hby d6_12) rfl rfl (l' := #[.val (.ref a1), .val (.int (2 : Int32)), .val (.ref b2), .unset]) rfl k) ?_
  show Go p e below _ (T2.setTop (mkF m 13 #[.val (.ref a1), .val (.int (2 : Int32)), .val (.ref b2), .unset] []))
  refine Go.st (fun t k => XS.iconst X2.here hx rfl (hb hby d6_13) k) ?_
  show Go p e below _ (T2.setTop (mkF m 14 #[.val (.ref a1), .val (.int (2 : Int32)), .val (.ref b2), .unset] [(.int (0 : Int32))]))
  refine Go.st (fun t k => XS.istoreN X2.here hx rfl (hb hby d6_14) rfl (l' := #[.val (.ref a1), .val (.int (2 : Int32)), .val (.ref b2), .val (.int (0 : Int32))]) rfl k) ?_
  show Go p e below _ (T2.setTop (mkF m 15 #[.val (.ref a1), .val (.int (2 : Int32)), .val (.ref b2), .val (.int (0 : Int32))] []))
  refine Go.st (fun t k => XS.iloadN X2.here hx rfl (hb hby d6_15) rfl k) ?_
  show Go p e below _ (T2.setTop (mkF m 16 #[.val (.ref a1), .val (.int (2 : Int32)), .val (.ref b2), .val (.int (0 : Int32))] [(.int (0 : Int32))]))
  refine Go.st (fun t k => XS.aloadN X2.here hx rfl (hb hby d6_16) rfl rfl k) ?_
  show Go p e below _ (T2.setTop (mkF m 17 #[.val (.ref a1), .val (.int (2 : Int32)), .val (.ref b2), .val (.int (0 : Int32))] [(.ref a1), (.int (0 : Int32))]))
  obtain ⟨T3, X3, e3, st3⟩ := getF X2 hx hZ hown (host := "") (Or.inl (w15 hw)) Via.refl e2 (P1.ext E2) (g := (mkF m 17 #[.val (.ref a1), .val (.int (2 : Int32)), .val (.ref b2), .val (.int (0 : Int32))] [(.ref a1), (.int (0 : Int32))])) rfl rfl (hb hby d6_17)
  refine Go.st st3 ?_
  show Go p e below _ (T3.setTop (mkF m 20 #[.val (.ref a1), .val (.int (2 : Int32)), .val (.ref b2), .val (.int (0 : Int32))] [(.int (1 : Int32)), (.int (0 : Int32))]))
  refine Go.st (fun t k => XS.icmpNo X3.here hx rfl (hb hby d6_20) rfl (Jvm.Free.XT.ii_ge_f (by decide : (0 : Int32) < (1 : Int32))) k) ?_
  show Go p e below _ (T3.setTop (mkF m 23 #[.val (.ref a1), .val (.int (2 : Int32)), .val (.ref b2), .val (.int (0 : Int32))] []))
  refine Go.st (fun t k => XS.aloadN X3.here hx rfl (hb hby d6_23) rfl rfl k) ?_
  show Go p e below _ (T3.setTop (mkF m 24 #[.val (.ref a1), .val (.int (2 : Int32)), .val (.ref b2), .val (.int (0 : Int32))] [(.ref a1)]))
  obtain ⟨T4, X4, e4, st4⟩ := getF X3 hx hZ hown (host := "") (Or.inl (w17 hw)) Via.refl e3 (P2.ext E2) (g := (mkF m 24 #[.val (.ref a1), .val (.int (2 : Int32)), .val (.ref b2), .val (.int (0 : Int32))] [(.ref a1)])) rfl rfl (hb hby d6_24)
  refine Go.st st4 ?_
  show Go p e below _ (T4.setTop (mkF m 27 #[.val (.ref a1), .val (.int (2 : Int32)), .val (.ref b2), .val (.int (0 : Int32))] [(.ref a2)]))
  refine Go.st (fun t k => XS.iloadN X4.here hx rfl (hb hby d6_27) rfl k) ?_
  show Go p e below _ (T4.setTop (mkF m 28 #[.val (.ref a1), .val (.int (2 : Int32)), .val (.ref b2), .val (.int (0 : Int32))] [(.int (0 : Int32)), (.ref a2)]))
  refine Go.st (fun t k => XS.aloadN X4.here hx rfl (hb hby d6_28) rfl rfl k) ?_
  show Go p e below _ (T4.setTop (mkF m 29 #[.val (.ref a1), .val (.int (2 : Int32)), .val (.ref b2), .val (.int (0 : Int32))] [(.ref a1), (.int (0 : Int32)), (.ref a2)]))
  obtain ⟨T5, X5, e5, st5⟩ := getF X4 hx hZ hown (host := "") (Or.inl (w15 hw)) Via.refl e4 (P1.ext E2) (g := (mkF m 29 #[.val (.ref a1), .val (.int (2 : Int32)), .val (.ref b2), .val (.int (0 : Int32))] [(.ref a1), (.int (0 : Int32)), (.ref a2)])) rfl rfl (hb hby d6_29)
  refine Go.st st5 ?_
  show Go p e below _ (T5.setTop (mkF m 32 #[.val (.ref a1), .val (.int (2 : Int32)), .val (.ref b2), .val (.int (0 : Int32))] [(.int (1 : Int32)), (.int (0 : Int32)), (.ref a2)]))
  refine Go.st (fun t k => XS.imul X5.here hx rfl (hb hby d6_32) rfl k) ?_
  show Go p e below _ (T5.setTop (mkF m 33 #[.val (.ref a1), .val (.int (2 : Int32)), .val (.ref b2), .val (.int (0 : Int32))] [(.int (0 : Int32)), (.ref a2)]))
  refine Go.st (fun t k => XS.aloadN X5.here hx rfl (hb hby d6_33) rfl rfl k) ?_
  show Go p e below _ (T5.setTop (mkF m 34 #[.val (.ref a1), .val (.int (2 : Int32)), .val (.ref b2), .val (.int (0 : Int32))] [(.ref b2), (.int (0 : Int32)), (.ref a2)]))
  refine Go.st (fun t k => XS.iloadN X5.here hx rfl (hb hby d6_34) rfl k) ?_
  show Go p e below _ (T5.setTop (mkF m 35 #[.val (.ref a1), .val (.int (2 : Int32)), .val (.ref b2), .val (.int (0 : Int32))] [(.int (0 : Int32)), (.ref b2), (.int (0 : Int32)), (.ref a2)]))
  refine Go.st (fun t k => XS.iloadN X5.here hx rfl (hb hby d6_35) rfl k) ?_
  show Go p e below _ (T5.setTop (mkF m 36 #[.val (.ref a1), .val (.int (2 : Int32)), .val (.ref b2), .val (.int (0 : Int32))] [(.int (2 : Int32)), (.int (0 : Int32)), (.ref b2), (.int (0 : Int32)), (.ref a2)]))
  refine Go.st (fun t k => XS.imul X5.here hx rfl (hb hby d6_36) rfl k) ?_
  show Go p e below _ (T5.setTop (mkF m 37 #[.val (.ref a1), .val (.int (2 : Int32)), .val (.ref b2), .val (.int (0 : Int32))] [(.int (0 : Int32)), (.ref b2), (.int (0 : Int32)), (.ref a2)]))
  refine Go.st (fun t k => XS.aloadN X5.here hx rfl (hb hby d6_37) rfl rfl k) ?_
  show Go p e below _ (T5.setTop (mkF m 38 #[.val (.ref a1), .val (.int (2 : Int32)), .val (.ref b2), .val (.int (0 : Int32))] [(.ref a1), (.int (0 : Int32)), (.ref b2), (.int (0 : Int32)), (.ref a2)]))
  obtain ⟨T6, X6, e6, st6⟩ := getF X5 hx hZ hown (host := "") (Or.inl (w15 hw)) Via.refl e5 (P1.ext E2) (g := (mkF m 38 #[.val (.ref a1), .val (.int (2 : Int32)), .val (.ref b2), .val (.int (0 : Int32))] [(.ref a1), (.int (0 : Int32)), (.ref b2), (.int (0 : Int32)), (.ref a2)])) rfl rfl (hb hby d6_38)
  refine Go.st st6 ?_
  show Go p e below _ (T6.setTop (mkF m 41 #[.val (.ref a1), .val (.int (2 : Int32)), .val (.ref b2), .val (.int (0 : Int32))] [(.int (1 : Int32)), (.int (0 : Int32)), (.ref b2), (.int (0 : Int32)), (.ref a2)]))
  obtain ⟨T7, h7, L7, X7, e7, N7, K7c, V70, st7⟩ := cpA X6 hx hZ hown (w34 hw) (w37 hw) (w35 hw) (w36 hw) e6 (P3.ext E2) V2 (Or.inl ⟨rfl, rfl⟩) (sp := (0 : Int32)) (dp := (0 : Int32)) (nn := (1 : Int32)) (by decide) (by decide) (by decide) (by decide) (by decide) (us := [(.long (1 : Int64))]) rfl (by decide) N0 g_b2 (g := (mkF m 41 #[.val (.ref a1), .val (.int (2 : Int32)), .val (.ref b2), .val (.int (0 : Int32))] [(.int (1 : Int32)), (.int (0 : Int32)), (.ref b2), (.int (0 : Int32)), (.ref a2)])) rfl (by rw [hml]; rfl) (rest := []) rfl (hb hby d6_41) (by decide) (W := 0) (by show 2 * 0 + _ ≤ _; exact Nat.le_of_eq rfl) (by decide)
  have V7 : Arv Z h7 b2 k2 .long (4 : Int32) [(.long (1 : Int64)), (.long (0 : Int64)), (.long (0 : Int64)), (.long (0 : Int64))] (.long (0 : Int64)) := V70
  have O7 : Old Z n0 h7 := O2.keep K7c (allS g_b2 all0)
  have K7 : Keep h0 h7 [] := K2.trans K7c (allS (Or.inr s_b2) all0)
  refine Go.st st7 ?_
  show Go p e below _ (T7.setTop (mkF m 44 #[.val (.ref a1), .val (.int (2 : Int32)), .val (.ref b2), .val (.int (0 : Int32))] []))
  refine Go.st (fun t k => XS.aloadN X7.here hx rfl (hb hby d6_44) rfl rfl k) ?_
  show Go p e below _ (T7.setTop (mkF m 45 #[.val (.ref a1), .val (.int (2 : Int32)), .val (.ref b2), .val (.int (0 : Int32))] [(.ref b2)]))
  refine Go.st (fun t k => XS.iloadN X7.here hx rfl (hb hby d6_45) rfl k) ?_
  show Go p e below _ (T7.setTop (mkF m 46 #[.val (.ref a1), .val (.int (2 : Int32)), .val (.ref b2), .val (.int (0 : Int32))] [(.int (0 : Int32)), (.ref b2)]))
  refine Go.st (fun t k => XS.iloadN X7.here hx rfl (hb hby d6_46) rfl k) ?_
  show Go p e below _ (T7.setTop (mkF m 47 #[.val (.ref a1), .val (.int (2 : Int32)), .val (.ref b2), .val (.int (0 : Int32))] [(.int (2 : Int32)), (.int (0 : Int32)), (.ref b2)]))
  refine Go.st (fun t k => XS.imul X7.here hx rfl (hb hby d6_47) rfl k) ?_
  show Go p e below _ (T7.setTop (mkF m 48 #[.val (.ref a1), .val (.int (2 : Int32)), .val (.ref b2), .val (.int (0 : Int32))] [(.int (0 : Int32)), (.ref b2)]))
  refine Go.st (fun t k => XS.aloadN X7.here hx rfl (hb hby d6_48) rfl rfl k) ?_
  show Go p e below _ (T7.setTop (mkF m 49 #[.val (.ref a1), .val (.int (2 : Int32)), .val (.ref b2), .val (.int (0 : Int32))] [(.ref a1), (.int (0 : Int32)), (.ref b2)]))
  have c8 := ((P1.ext E2).keep K7c (ninS (Nat.ne_of_lt (Nat.lt_of_lt_of_le P1.lt (Nat.le_of_eq z2.symm))) nin0))
  obtain ⟨T9, X9, e9, st9⟩ := getF X7 hx hZ hown (host := "") (Or.inl (w15 hw)) Via.refl e7 c8 (g := (mkF m 49 #[.val (.ref a1), .val (.int (2 : Int32)), .val (.ref b2), .val (.int (0 : Int32))] [(.ref a1), (.int (0 : Int32)), (.ref b2)])) rfl rfl (hb hby d6_49)
  refine Go.st st9 ?_
  show Go p e below _ (T9.setTop (mkF m 52 #[.val (.ref a1), .val (.int (2 : Int32)), .val (.ref b2), .val (.int (0 : Int32))] [(.int (1 : Int32)), (.int (0 : Int32)), (.ref b2)]))
  refine Go.st (fun t k => XS.iadd X9.here hx rfl (hb hby d6_52) rfl k) ?_
  show Go p e below _ (T9.setTop (mkF m 53 #[.val (.ref a1), .val (.int (2 : Int32)), .val (.ref b2), .val (.int (0 : Int32))] [(.int (1 : Int32)), (.ref b2)]))
  refine Go.st (fun t k => XS.aloadN X9.here hx rfl (hb hby d6_53) rfl rfl k) ?_
  show Go p e below _ (T9.setTop (mkF m 54 #[.val (.ref a1), .val (.int (2 : Int32)), .val (.ref b2), .val (.int (0 : Int32))] [(.ref a1), (.int (1 : Int32)), (.ref b2)]))
  refine Go.st (fun t k => XS.iloadN X9.here hx rfl (hb hby d6_54) rfl k) ?_
  show Go p e below _ (T9.setTop (mkF m 55 #[.val (.ref a1), .val (.int (2 : Int32)), .val (.ref b2), .val (.int (0 : Int32))] [(.int (0 : Int32)), (.ref a1), (.int (1 : Int32)), (.ref b2)]))
  refine Go.st (fun t k => XS.iconst X9.here hx rfl (hb hby d6_55) k) ?_
  show Go p e below _ (T9.setTop (mkF m 56 #[.val (.ref a1), .val (.int (2 : Int32)), .val (.ref b2), .val (.int (0 : Int32))] [(.int (0 : Int32)), (.int (0 : Int32)), (.ref a1), (.int (1 : Int32)), (.ref b2)]))
  have c10 := ((P2.ext E2).keep K7c (ninS (Nat.ne_of_lt (Nat.lt_of_lt_of_le P1.lt (Nat.le_of_eq z2.symm))) nin0))
  have c11 := ((P3.ext E2).keep K7c (ninS (Nat.ne_of_lt (Nat.lt_of_lt_of_le P3.lt (Nat.le_of_eq z2.symm))) nin0))
  obtain ⟨cq12, u12, u12'⟩ := ((P4.ext E2).keep K7c).cell
  obtain ⟨_, _, ⟨T12, L12, k12, n12⟩, -, X12, ⟨Lc12, hQ12, l12, y12, z12⟩, st12⟩ := X9.privateBack hx (y := (⟨"com/example/envelop/envelop/plan/Zone", "get", "(II)J"⟩ : MethodName)) hown (mvT hZ (w38 hw)) (mvT hZ (w39 hw)) (own_selP hZ (w5 hw) (w40 hw) (w39 hw) (by decide)) (Cond.privateMethod_at (mvP hZ (w40 hw) (args := #[]))) (mvT hZ (w41 hw)) (by decide) (backOf (W := 2) (rm7_1 l Z a0 hw [] a1 a2 k3 h7 n0 O7 c10 c8 c11) hZ (w41 hw) (w2 hw) (by decide) (by decide)) (g := (mkF m 56 #[.val (.ref a1), .val (.int (2 : Int32)), .val (.ref b2), .val (.int (0 : Int32))] [(.int (0 : Int32)), (.int (0 : Int32)), (.ref a1), (.int (1 : Int32)), (.ref b2)])) rfl (by rw [hml]; rfl) (Steps.refl _) (a := a1) (by rw [e9]; exact u12) u12' (argsL := [(.int (0 : Int32)), (.int (0 : Int32))]) (rest := [(.int (1 : Int32)), (.ref b2)]) (lenOf pd_4 rfl) rfl (by show 2 * 0 + _ ≤ _; exact Nat.le_of_eq rfl) (hb hby d6_56) (fun vm₁ hw₁ => ⟨rfl, e9, (by decide : 1 + 0 ≤ _), (by decide : 4 + 0 ≤ _)⟩)
  dsimp only [Pt.U, Pt.locs, Pt.cells, Pt.slots] at X12 l12 y12 z12 st12 hQ12
  subst l12 y12 z12
  obtain ⟨rfl, M12, eh12⟩ := hQ12
  have N12 := Fr.app N7 M12
  refine Go.tr st12 ?_
  show Go p e below _ (T12.setTop (mkF m 59 #[.val (.ref a1), .val (.int (2 : Int32)), .val (.ref b2), .val (.int (0 : Int32))] [(.long (1 : Int64)), (.int (1 : Int32)), (.ref b2)]))
  obtain ⟨cl13, Ar13, q13, S13, M13, H13, G13⟩ := id V7
  have hin13 : ¬ ((1 : Int32) < 0 ∨ cl13.slots.size ≤ ((1 : Int32)).toNatClampNeg) := inb_of S13 ⟨by decide, by decide⟩
  obtain ⟨T13, h13, X13, e13, W13, st13⟩ := stJ X12 hx hZ eh12 Ar13 (j := (1 : Int32)) hin13 (g := (mkF m 59 #[.val (.ref a1), .val (.int (2 : Int32)), .val (.ref b2), .val (.int (0 : Int32))] [(.long (1 : Int64)), (.int (1 : Int32)), (.ref b2)])) rfl rfl (hb hby d6_59)
  have V13 : Arv Z h13 b2 k2 .long (4 : Int32) [(.long (1 : Int64)), (.long (1 : Int64)), (.long (0 : Int64)), (.long (0 : Int64))] (.long (0 : Int64)) := Arv.set Ar13 q13 S13 M13 H13 G13 rfl W13 1 rfl (Nat.le_of_ble_eq_true rfl)
  have N13 := Fr.snoc X13 N12 g_b2
  have O13 : Old Z n0 h13 := O7.wr W13 g_b2
  have K13 : Keep h0 h13 [] := K7.wr W13 (Or.inr s_b2)
  refine Go.st st13 ?_
  show Go p e below _ (T13.setTop (mkF m 60 #[.val (.ref a1), .val (.int (2 : Int32)), .val (.ref b2), .val (.int (0 : Int32))] []))
  refine Go.st (fun t k => XS.aloadN X13.here hx rfl (hb hby d6_60) rfl rfl k) ?_
  show Go p e below _ (T13.setTop (mkF m 61 #[.val (.ref a1), .val (.int (2 : Int32)), .val (.ref b2), .val (.int (0 : Int32))] [(.ref b2)]))
  refine Go.st (fun t k => XS.aloadN X13.here hx rfl (hb hby d6_61) rfl rfl k) ?_
  show Go p e below _ (T13.setTop (mkF m 62 #[.val (.ref a1), .val (.int (2 : Int32)), .val (.ref b2), .val (.int (0 : Int32))] [(.ref a1), (.ref b2)]))
  have c14 := (c8.other W13 (Or.inl (Nat.ne_of_lt (Nat.lt_of_lt_of_le P1.lt (Nat.le_of_eq z2.symm)))))
  obtain ⟨T15, X15, e15, st15⟩ := getF X13 hx hZ hown (host := "") (Or.inl (w15 hw)) Via.refl e13 c14 (g := (mkF m 62 #[.val (.ref a1), .val (.int (2 : Int32)), .val (.ref b2), .val (.int (0 : Int32))] [(.ref a1), (.ref b2)])) rfl rfl (hb hby d6_62)
  refine Go.st st15 ?_
  show Go p e below _ (T15.setTop (mkF m 65 #[.val (.ref a1), .val (.int (2 : Int32)), .val (.ref b2), .val (.int (0 : Int32))] [(.int (1 : Int32)), (.ref b2)]))
  refine Go.st (fun t k => XS.iloadN X15.here hx rfl (hb hby d6_65) rfl k) ?_
  show Go p e below _ (T15.setTop (mkF m 66 #[.val (.ref a1), .val (.int (2 : Int32)), .val (.ref b2), .val (.int (0 : Int32))] [(.int (2 : Int32)), (.int (1 : Int32)), (.ref b2)]))
  refine Go.st (fun t k => XS.imul X15.here hx rfl (hb hby d6_66) rfl k) ?_
  show Go p e below _ (T15.setTop (mkF m 67 #[.val (.ref a1), .val (.int (2 : Int32)), .val (.ref b2), .val (.int (0 : Int32))] [(.int (2 : Int32)), (.ref b2)]))
  refine Go.st (fun t k => XS.iloadN X15.here hx rfl (hb hby d6_67) rfl k) ?_
  show Go p e below _ (T15.setTop (mkF m 68 #[.val (.ref a1), .val (.int (2 : Int32)), .val (.ref b2), .val (.int (0 : Int32))] [(.int (0 : Int32)), (.int (2 : Int32)), (.ref b2)]))
  refine Go.st (fun t k => XS.iadd X15.here hx rfl (hb hby d6_68) rfl k) ?_
  show Go p e below _ (T15.setTop (mkF m 69 #[.val (.ref a1), .val (.int (2 : Int32)), .val (.ref b2), .val (.int (0 : Int32))] [(.int (2 : Int32)), (.ref b2)]))
  refine Go.st (fun t k => XS.aloadN X15.here hx rfl (hb hby d6_69) rfl rfl k) ?_
  show Go p e below _ (T15.setTop (mkF m 70 #[.val (.ref a1), .val (.int (2 : Int32)), .val (.ref b2), .val (.int (0 : Int32))] [(.ref a1), (.int (2 : Int32)), (.ref b2)]))
  refine Go.st (fun t k => XS.iconst X15.here hx rfl (hb hby d6_70) k) ?_
  show Go p e below _ (T15.setTop (mkF m 71 #[.val (.ref a1), .val (.int (2 : Int32)), .val (.ref b2), .val (.int (0 : Int32))] [(.int (0 : Int32)), (.ref a1), (.int (2 : Int32)), (.ref b2)]))
  refine Go.st (fun t k => XS.iloadN X15.here hx rfl (hb hby d6_71) rfl k) ?_
  show Go p e below _ (T15.setTop (mkF m 72 #[.val (.ref a1), .val (.int (2 : Int32)), .val (.ref b2), .val (.int (0 : Int32))] [(.int (0 : Int32)), (.int (0 : Int32)), (.ref a1), (.int (2 : Int32)), (.ref b2)]))
  have c16 := (c10.other W13 (Or.inl (Nat.ne_of_lt (Nat.lt_of_lt_of_le P1.lt (Nat.le_of_eq z2.symm)))))
  have c17 := (c11.other W13 (Nat.ne_of_lt (Nat.lt_of_lt_of_le P3.lt (Nat.le_of_eq z2.symm))))
  obtain ⟨cq18, u18, u18'⟩ := (((P4.ext E2).keep K7c).wr W13).cell
  obtain ⟨_, _, ⟨T18, L18, k18, n18⟩, -, X18, ⟨Lc18, hQ18, l18, y18, z18⟩, st18⟩ := X15.privateBack hx (y := (⟨"com/example/envelop/envelop/plan/Zone", "get", "(II)J"⟩ : MethodName)) hown (mvT hZ (w38 hw)) (mvT hZ (w39 hw)) (own_selP hZ (w5 hw) (w40 hw) (w39 hw) (by decide)) (Cond.privateMethod_at (mvP hZ (w40 hw) (args := #[]))) (mvT hZ (w41 hw)) (by decide) (backOf (W := 2) (rm7_1 l Z a0 hw [] a1 a2 k3 h13 n0 O13 c16 c14 c17) hZ (w41 hw) (w2 hw) (by decide) (by decide)) (g := (mkF m 72 #[.val (.ref a1), .val (.int (2 : Int32)), .val (.ref b2), .val (.int (0 : Int32))] [(.int (0 : Int32)), (.int (0 : Int32)), (.ref a1), (.int (2 : Int32)), (.ref b2)])) rfl (by rw [hml]; rfl) (Steps.refl _) (a := a1) (by rw [e15]; exact u18) u18' (argsL := [(.int (0 : Int32)), (.int (0 : Int32))]) (rest := [(.int (2 : Int32)), (.ref b2)]) (lenOf pd_4 rfl) rfl (by show 2 * 0 + _ ≤ _; exact Nat.le_of_eq rfl) (hb hby d6_72) (fun vm₁ hw₁ => ⟨rfl, e15, (by decide : 1 + 0 ≤ _), (by decide : 4 + 0 ≤ _)⟩)
  dsimp only [Pt.U, Pt.locs, Pt.cells, Pt.slots] at X18 l18 y18 z18 st18 hQ18
  subst l18 y18 z18
  obtain ⟨rfl, M18, eh18⟩ := hQ18
  have N18 := Fr.app N13 M18
  refine Go.tr st18 ?_
  show Go p e below _ (T18.setTop (mkF m 75 #[.val (.ref a1), .val (.int (2 : Int32)), .val (.ref b2), .val (.int (0 : Int32))] [(.long (1 : Int64)), (.int (2 : Int32)), (.ref b2)]))
  obtain ⟨cl19, Ar19, q19, S19, M19, H19, G19⟩ := id V13
  have hin19 : ¬ ((2 : Int32) < 0 ∨ cl19.slots.size ≤ ((2 : Int32)).toNatClampNeg) := inb_of S19 ⟨by decide, by decide⟩
  obtain ⟨T19, h19, X19, e19, W19, st19⟩ := stJ X18 hx hZ eh18 Ar19 (j := (2 : Int32)) hin19 (g := (mkF m 75 #[.val (.ref a1), .val (.int (2 : Int32)), .val (.ref b2), .val (.int (0 : Int32))] [(.long (1 : Int64)), (.int (2 : Int32)), (.ref b2)])) rfl rfl (hb hby d6_75)
  have V19 : Arv Z h19 b2 k2 .long (4 : Int32) [(.long (1 : Int64)), (.long (1 : Int64)), (.long (1 : Int64)), (.long (0 : Int64))] (.long (0 : Int64)) := Arv.set Ar19 q19 S19 M19 H19 G19 rfl W19 2 rfl (Nat.le_of_ble_eq_true rfl)
  have N19 := Fr.snoc X19 N18 g_b2
  have O19 : Old Z n0 h19 := O13.wr W19 g_b2
  have K19 : Keep h0 h19 [] := K13.wr W19 (Or.inr s_b2)
  refine Go.st st19 ?_
  show Go p e below _ (T19.setTop (mkF m 76 #[.val (.ref a1), .val (.int (2 : Int32)), .val (.ref b2), .val (.int (0 : Int32))] []))
  refine Go.st (fun t k => XS.iinc X19.here hx rfl (hb hby d6_76) rfl (l' := #[.val (.ref a1), .val (.int (2 : Int32)), .val (.ref b2), .val (.int (1 : Int32))]) rfl k) ?_
  show Go p e below _ (T19.setTop (mkF m 79 #[.val (.ref a1), .val (.int (2 : Int32)), .val (.ref b2), .val (.int (1 : Int32))] []))
  refine Go.st (fun t k => XS.goto X19.here hx rfl (pc0 := 79) (pc' := 15) rfl (hb hby d6_79) (by decide) (by decide) k) ?_
  show Go p e below _ (T19.setTop (mkF m 15 #[.val (.ref a1), .val (.int (2 : Int32)), .val (.ref b2), .val (.int (1 : Int32))] []))
  refine Go.st (fun t k => XS.iloadN X19.here hx rfl (hb hby d6_15) rfl k) ?_
  show Go p e below _ (T19.setTop (mkF m 16 #[.val (.ref a1), .val (.int (2 : Int32)), .val (.ref b2), .val (.int (1 : Int32))] [(.int (1 : Int32))]))
  refine Go.st (fun t k => XS.aloadN X19.here hx rfl (hb hby d6_16) rfl rfl k) ?_
  show Go p e below _ (T19.setTop (mkF m 17 #[.val (.ref a1), .val (.int (2 : Int32)), .val (.ref b2), .val (.int (1 : Int32))] [(.ref a1), (.int (1 : Int32))]))
  have c20 := (c14.other W19 (Or.inl (Nat.ne_of_lt (Nat.lt_of_lt_of_le P1.lt (Nat.le_of_eq z2.symm)))))
  obtain ⟨T21, X21, e21, st21⟩ := getF X19 hx hZ hown (host := "") (Or.inl (w15 hw)) Via.refl e19 c20 (g := (mkF m 17 #[.val (.ref a1), .val (.int (2 : Int32)), .val (.ref b2), .val (.int (1 : Int32))] [(.ref a1), (.int (1 : Int32))])) rfl rfl (hb hby d6_17)
  refine Go.st st21 ?_
  show Go p e below _ (T21.setTop (mkF m 20 #[.val (.ref a1), .val (.int (2 : Int32)), .val (.ref b2), .val (.int (1 : Int32))] [(.int (1 : Int32)), (.int (1 : Int32))]))
  refine Go.st (fun t k => XS.icmpYes X21.here hx rfl (pc0 := 20) (pc' := 82) rfl (hb hby d6_20) rfl (Jvm.Free.XT.ii_ge_t (by decide : ¬ ((1 : Int32) < (1 : Int32)))) (by decide) (by decide) k) ?_
  show Go p e below _ (T21.setTop (mkF m 82 #[.val (.ref a1), .val (.int (2 : Int32)), .val (.ref b2), .val (.int (1 : Int32))] []))
  refine Go.st (fun t k => XS.aloadN X21.here hx rfl (hb hby d6_82) rfl rfl k) ?_
  show Go p e below _ (T21.setTop (mkF m 83 #[.val (.ref a1), .val (.int (2 : Int32)), .val (.ref b2), .val (.int (1 : Int32))] [(.ref b2)]))
  refine Go.st (fun t k => XS.aloadN X21.here hx rfl (hb hby d6_83) rfl rfl k) ?_
  show Go p e below _ (T21.setTop (mkF m 84 #[.val (.ref a1), .val (.int (2 : Int32)), .val (.ref b2), .val (.int (1 : Int32))] [(.ref a1), (.ref b2)]))
  obtain ⟨T22, X22, e22, st22⟩ := getF X21 hx hZ hown (host := "") (Or.inl (w15 hw)) Via.refl e21 c20 (g := (mkF m 84 #[.val (.ref a1), .val (.int (2 : Int32)), .val (.ref b2), .val (.int (1 : Int32))] [(.ref a1), (.ref b2)])) rfl rfl (hb hby d6_84)
  refine Go.st st22 ?_
  show Go p e below _ (T22.setTop (mkF m 87 #[.val (.ref a1), .val (.int (2 : Int32)), .val (.ref b2), .val (.int (1 : Int32))] [(.int (1 : Int32)), (.ref b2)]))
  refine Go.st (fun t k => XS.iloadN X22.here hx rfl (hb hby d6_87) rfl k) ?_
  show Go p e below _ (T22.setTop (mkF m 88 #[.val (.ref a1), .val (.int (2 : Int32)), .val (.ref b2), .val (.int (1 : Int32))] [(.int (2 : Int32)), (.int (1 : Int32)), (.ref b2)]))
  refine Go.st (fun t k => XS.imul X22.here hx rfl (hb hby d6_88) rfl k) ?_
  show Go p e below _ (T22.setTop (mkF m 89 #[.val (.ref a1), .val (.int (2 : Int32)), .val (.ref b2), .val (.int (1 : Int32))] [(.int (2 : Int32)), (.ref b2)]))
  refine Go.st (fun t k => XS.aloadN X22.here hx rfl (hb hby d6_89) rfl rfl k) ?_
  show Go p e below _ (T22.setTop (mkF m 90 #[.val (.ref a1), .val (.int (2 : Int32)), .val (.ref b2), .val (.int (1 : Int32))] [(.ref a1), (.int (2 : Int32)), (.ref b2)]))
  obtain ⟨T23, X23, e23, st23⟩ := getF X22 hx hZ hown (host := "") (Or.inl (w15 hw)) Via.refl e22 c20 (g := (mkF m 90 #[.val (.ref a1), .val (.int (2 : Int32)), .val (.ref b2), .val (.int (1 : Int32))] [(.ref a1), (.int (2 : Int32)), (.ref b2)])) rfl rfl (hb hby d6_90)
  refine Go.st st23 ?_
  show Go p e below _ (T23.setTop (mkF m 93 #[.val (.ref a1), .val (.int (2 : Int32)), .val (.ref b2), .val (.int (1 : Int32))] [(.int (1 : Int32)), (.int (2 : Int32)), (.ref b2)]))
  refine Go.st (fun t k => XS.iadd X23.here hx rfl (hb hby d6_93) rfl k) ?_
  show Go p e below _ (T23.setTop (mkF m 94 #[.val (.ref a1), .val (.int (2 : Int32)), .val (.ref b2), .val (.int (1 : Int32))] [(.int (3 : Int32)), (.ref b2)]))
  obtain ⟨T24, X24, e24, st24⟩ := getS2 X23 hx hZ hown (host := "") (Or.inl (w7 hw)) Via.refl e23 (P5.ext O19.2) (g := (mkF m 94 #[.val (.ref a1), .val (.int (2 : Int32)), .val (.ref b2), .val (.int (1 : Int32))] [(.int (3 : Int32)), (.ref b2)])) rfl (hb hby d6_94)
  refine Go.st st24 ?_
  show Go p e below _ (T24.setTop (mkF m 97 #[.val (.ref a1), .val (.int (2 : Int32)), .val (.ref b2), .val (.int (1 : Int32))] [(.long (1 : Int64)), (.int (3 : Int32)), (.ref b2)]))
  obtain ⟨cl25, Ar25, q25, S25, M25, H25, G25⟩ := id V19
  have hin25 : ¬ ((3 : Int32) < 0 ∨ cl25.slots.size ≤ ((3 : Int32)).toNatClampNeg) := inb_of S25 ⟨by decide, by decide⟩
  obtain ⟨T25, h25, X25, e25, W25, st25⟩ := stJ X24 hx hZ e24 Ar25 (j := (3 : Int32)) hin25 (g := (mkF m 97 #[.val (.ref a1), .val (.int (2 : Int32)), .val (.ref b2), .val (.int (1 : Int32))] [(.long (1 : Int64)), (.int (3 : Int32)), (.ref b2)])) rfl rfl (hb hby d6_97)
  have V25 : Arv Z h25 b2 k2 .long (4 : Int32) [(.long (1 : Int64)), (.long (1 : Int64)), (.long (1 : Int64)), (.long (1 : Int64))] (.long (0 : Int64)) := Arv.set Ar25 q25 S25 M25 H25 G25 rfl W25 3 rfl (Nat.le_of_ble_eq_true rfl)
  have N25 := Fr.snoc X25 N19 g_b2
  have O25 : Old Z n0 h25 := O19.wr W25 g_b2
  have K25 : Keep h0 h25 [] := K19.wr W25 (Or.inr s_b2)
  refine Go.st st25 ?_
  show Go p e below _ (T25.setTop (mkF m 98 #[.val (.ref a1), .val (.int (2 : Int32)), .val (.ref b2), .val (.int (1 : Int32))] []))
  obtain ⟨T26, h26, X26, e26, E26, A26, D26, -, st26⟩ := newO X25 hx hZ hown (w4 hw) (w5 hw) (w2 hw) e25 (g := (mkF m 98 #[.val (.ref a1), .val (.int (2 : Int32)), .val (.ref b2), .val (.int (1 : Int32))] [])) rfl (hb hby d6_98) (by decide) (by decide)
  obtain ⟨b26, z26⟩ : ∃ z, z = h25.size := ⟨_, rfl⟩
  rw [← z26] at A26 D26 st26
  have g_b26 : n0 ≤ b26 := Nat.le_trans (own_n0 O25) (Nat.le_of_eq z26.symm)
  have s_b26 : h0.size ≤ b26 := Nat.le_trans K25.1 (Nat.le_of_eq z26.symm)
  have O26 : Old Z n0 h26 := O25.ext E26
  have K26 : Keep h0 h26 [] := K25.ext E26
  have f26_16 : Fld Z h26 b26 "com/example/envelop/envelop/plan/Zone" "size" "I" (.int (0 : Int32)) := D26 (Or.inr (w16 hw)) (ty := .int) (by decide)
  have f26_18 : Fld Z h26 b26 "com/example/envelop/envelop/plan/Zone" "bounds" "[J" .null := D26 (Or.inr (w18 hw)) (ty := (.array .long)) (by decide)
  refine Go.st st26 ?_
  show Go p e below _ (T26.setTop (mkF m 101 #[.val (.ref a1), .val (.int (2 : Int32)), .val (.ref b2), .val (.int (1 : Int32))] [(.ref b26)]))
  refine Go.st (fun t k => XS.dup X26.here hx rfl (hb hby d6_101) rfl rfl k) ?_
  show Go p e below _ (T26.setTop (mkF m 102 #[.val (.ref a1), .val (.int (2 : Int32)), .val (.ref b2), .val (.int (1 : Int32))] [(.ref b26), (.ref b26)]))
  refine Go.st (fun t k => XS.iloadN X26.here hx rfl (hb hby d6_102) rfl k) ?_
  show Go p e below _ (T26.setTop (mkF m 103 #[.val (.ref a1), .val (.int (2 : Int32)), .val (.ref b2), .val (.int (1 : Int32))] [(.int (2 : Int32)), (.ref b26), (.ref b26)]))
  refine Go.st (fun t k => XS.aloadN X26.here hx rfl (hb hby d6_103) rfl rfl k) ?_
  show Go p e below _ (T26.setTop (mkF m 104 #[.val (.ref a1), .val (.int (2 : Int32)), .val (.ref b2), .val (.int (1 : Int32))] [(.ref b2), (.int (2 : Int32)), (.ref b26), (.ref b26)]))
  obtain ⟨_, _, ⟨T27, L27, k27, n27⟩, -, X27, ⟨Lc27, hQ27, l27, y27, z27⟩, st27⟩ := X26.specialBack hx (y := (⟨"com/example/envelop/envelop/plan/Zone", "<init>", "(I[J)V"⟩ : MethodName)) rfl hown (mvT hZ (w9 hw)) (mvT hZ (w10 hw)) (mvT hZ (w11 hw)) (by decide) (backOf (W := 1) (rm2_2 l Z a0 hw [] b26 b2 h26 n0 O26 A26 f26_16 g_b26 f26_18) hZ (w11 hw) (w2 hw) (by decide) (by decide)) (g := (mkF m 104 #[.val (.ref a1), .val (.int (2 : Int32)), .val (.ref b2), .val (.int (1 : Int32))] [(.ref b2), (.int (2 : Int32)), (.ref b26), (.ref b26)])) rfl (by rw [hml]; rfl) (Steps.refl _) (a := b26) (argsL := [(.int (2 : Int32)), (.ref b2)]) (rest := [(.ref b26)]) (lenOf pd_0 rfl) rfl (by show 2 * 0 + _ ≤ _; exact Nat.le_of_eq rfl) (hb hby d6_104) (fun vm₁ hw₁ => ⟨rfl, e26, (by decide : 2 + 0 ≤ _), (by decide : 6 + 0 ≤ _)⟩)
  dsimp only [Pt.U, Pt.locs, Pt.cells, Pt.slots] at X27 l27 y27 z27 st27 hQ27
  subst l27 y27 z27
  obtain ⟨rfl, M27, K27c, r27_0, r27_1⟩ := hQ27
  have N27 := Fr.app N25 M27
  have O27 : Old Z n0 T27.heap := O26.keep K27c (allS g_b26 all0)
  have K27 : Keep h0 T27.heap [] := K26.trans K27c (allS (Or.inr s_b26) all0)
  refine Go.tr st27 ?_
  show Go p e below _ (T27.setTop (mkF m 107 #[.val (.ref a1), .val (.int (2 : Int32)), .val (.ref b2), .val (.int (1 : Int32))] [(.ref b26)]))
  obtain ⟨fs, hr, hrun, hended, hWd, hsame⟩ := X27.leave (v := some (.ref b26)) (fun h => by rw [Bd.returns] at h; cases h)
  have c28 := ((V25.ext E26).keep K27c (ninS (Nat.ne_of_lt (Nat.lt_of_lt_of_le (Nat.lt_of_lt_of_le (Nat.lt_of_lt_of_le (Nat.lt_of_lt_of_le (Nat.lt_of_lt_of_le V2.lt K7c.1) (Nat.le_of_eq W13.size.symm)) (Nat.le_of_eq W19.size.symm)) (Nat.le_of_eq W25.size.symm)) (Nat.le_of_eq z26.symm))) nin0))
  refine ⟨_, _, ?_, hrun, hended, _, _, rfl, ?_, ⟨⟨_, rfl⟩, hWd, hsame.mono (by decide) (by decide)⟩⟩
  · exact own_retA X27 hx Bd.returns rfl rfl (hb hby d6_107) hr
  · show Q_rm6_1 Z a1 a2 k3 h0 n0 _ T27.heap _
    exact ⟨b2, b26, k2, rfl, N27, K27, s_b2, s_b26, (Nat.ne_of_lt (Nat.lt_of_lt_of_le (Nat.lt_of_lt_of_le (Nat.lt_of_lt_of_le (Nat.lt_of_lt_of_le (Nat.lt_of_lt_of_le V2.lt K7c.1) (Nat.le_of_eq W13.size.symm)) (Nat.le_of_eq W19.size.symm)) (Nat.le_of_eq W25.size.symm)) (Nat.le_of_eq z26.symm))), (A26.keep K27c), r27_0, r27_1, c28⟩
def Q_rm4_2 (Z : State) (a1 : Addr) (h0 : Heap) (n0 : Nat) (v : Option Value) (h : Heap) (L : List Loc) : Prop := v = some (.int (1 : Int32)) ∧ Fr n0 L ∧ h = h0
set_option maxRecDepth 65536 in
set_option maxHeartbeats 40000000 in
theorem rm4_2 (l : Launch) (Z : State) (a0 : Array Value) (hw : ∀ d ∈ tables_1, d.before a0 Z = true) (ws : List Jvm.Cond) (a1 : Addr) (h0 : Heap) (n0 : Nat) (O0 : Old Z n0 h0) (P1 : Fld Z h0 a1 "com/example/envelop/envelop/plan/Zone" "size" "I" (.int (2 : Int32))) :
    MetFree l (⟨"com/example/envelop/envelop/plan/Zone", "clocks", "()I"⟩ : MethodName) (head1 (Jvm.Cond.code (⟨"com/example/envelop/envelop/plan/Zone", "clocks", "()I"⟩ : MethodName) prog_71_method_6_code 1 (some .int) :: ws) ({ frames := 0, cells := 0, slots := 0, locals := 0 } : Room)) (fun a U => a = #[(.ref a1)] ∧ Z.Warmed39 U.vm ∧ U.heap = h0) (fun _ _ _ _ _ => True) (fun _ U o U' => ∃ v L, o = .returned v ∧ Q_rm4_2 Z a1 h0 n0 v U'.heap L ∧ FrameEnd U o U' L ({ frames := 0, cells := 0, slots := 0, locals := 0 } : Room).cells ({ frames := 0, cells := 0, slots := 0, locals := 0 } : Room).slots) := by
  refine MetFree.of_bodySF (plainFor_of_name pn_0) hisR ?_
  intro p e s m args below meth c s₁ Bd hml0 hP hK
  obtain ⟨rfl, hZ, hh⟩ := hP
  have hx := Bd.exec
  have hby := Bd.bytes
  have hml : c.maxLocals = 1 := hml0
  have hown : s.vm.findClass "com/example/envelop/envelop/plan/Zone" = some m.cls := findClass_of_methodNamed Bd.named
  have hnm := (name_of_methodNamed Bd.named Bd.method).1
  have X0 : Stand p l e ({ frames := 0, cells := 0, slots := 0, locals := 0 } : Room) s m #[(.ref a1)] below meth c s₁ [] 0 0 := Stand.of_body Bd
  have e0 : s₁.heap = h0 := by rw [← hh, Bd.state]; rfl
  have N0 := Fr.nil n0
  refine Go.start (P := (fun o U' => ∃ v L, o = .returned v ∧ Q_rm4_2 Z a1 h0 n0 v U'.heap L ∧ FrameEnd s o U' L ({ frames := 0, cells := 0, slots := 0, locals := 0 } : Room).cells ({ frames := 0, cells := 0, slots := 0, locals := 0 } : Room).slots)) (castTop (g' := (mkF m 0 #[.val (.ref a1)] [])) (by first | rfl | simp [entryFrame, mkF, argsToLocals, Value.category]) (T := s₁)) ?_
  refine Go.st (fun t k => XS.aloadN X0.here hx rfl (hb hby d4_0) rfl rfl k) ?_
  show Go p e below _ (s₁.setTop (mkF m 1 #[.val (.ref a1)] [(.ref a1)]))
  obtain ⟨T1, X1, e1, st1⟩ := getF X0 hx hZ hown (host := "") (Or.inl (w15 hw)) Via.refl e0 P1 (g := (mkF m 1 #[.val (.ref a1)] [(.ref a1)])) rfl rfl (hb hby d4_1)
  refine Go.st st1 ?_
  show Go p e below _ (T1.setTop (mkF m 4 #[.val (.ref a1)] [(.int (2 : Int32))]))
  refine Go.st (fun t k => XS.iconst X1.here hx rfl (hb hby d4_4) k) ?_
  show Go p e below _ (T1.setTop (mkF m 5 #[.val (.ref a1)] [(.int (1 : Int32)), (.int (2 : Int32))]))
  refine Go.st (fun t k => XS.isub X1.here hx rfl (hb hby d4_5) rfl k) ?_
  show Go p e below _ (T1.setTop (mkF m 6 #[.val (.ref a1)] [(.int (1 : Int32))]))
  obtain ⟨fs, hr, hrun, hended, hWd, hsame⟩ := X1.leave (v := some (.int (1 : Int32))) (fun h => by rw [Bd.returns] at h; cases h)
  refine ⟨_, _, ?_, hrun, hended, _, _, rfl, ?_, ⟨⟨_, rfl⟩, hWd, hsame.mono (by decide) (by decide)⟩⟩
  · exact retI X1 hx Bd.returns (hb hby d4_6) hr
  · show Q_rm4_2 Z a1 h0 n0 _ T1.heap _
    rw [e1]
    exact ⟨rfl, N0, rfl⟩
def Q_rm7_2 (Z : State) (a1 : Addr) (a2 : Addr) (k3 : ClassId) (h0 : Heap) (n0 : Nat) (v : Option Value) (h : Heap) (L : List Loc) : Prop := v = some (.long (1 : Int64)) ∧ Fr n0 L ∧ h = h0
set_option maxRecDepth 65536 in
set_option maxHeartbeats 40000000 in
theorem rm7_2 (l : Launch) (Z : State) (a0 : Array Value) (hw : ∀ d ∈ tables_1, d.before a0 Z = true) (ws : List Jvm.Cond) (a1 : Addr) (a2 : Addr) (k3 : ClassId) (h0 : Heap) (n0 : Nat) (O0 : Old Z n0 h0) (P1 : Fld Z h0 a1 "com/example/envelop/envelop/plan/Zone" "bounds" "[J" (.ref a2)) (P2 : Fld Z h0 a1 "com/example/envelop/envelop/plan/Zone" "size" "I" (.int (2 : Int32))) (P3 : Arv Z h0 a2 k3 .long (4 : Int32) [(.long (1 : Int64)), (.long (1 : Int64)), (.long (1 : Int64)), (.long (1 : Int64))] (.long (0 : Int64))) :
    MetFree l (⟨"com/example/envelop/envelop/plan/Zone", "get", "(II)J"⟩ : MethodName) (head1 (Jvm.Cond.code (⟨"com/example/envelop/envelop/plan/Zone", "get", "(II)J"⟩ : MethodName) prog_71_method_7_code 3 (some .long) :: ws) ({ frames := 0, cells := 0, slots := 0, locals := 0 } : Room)) (fun a U => a = #[(.ref a1), (.int (0 : Int32)), (.int (1 : Int32))] ∧ Z.Warmed39 U.vm ∧ U.heap = h0) (fun _ _ _ _ _ => True) (fun _ U o U' => ∃ v L, o = .returned v ∧ Q_rm7_2 Z a1 a2 k3 h0 n0 v U'.heap L ∧ FrameEnd U o U' L ({ frames := 0, cells := 0, slots := 0, locals := 0 } : Room).cells ({ frames := 0, cells := 0, slots := 0, locals := 0 } : Room).slots) := by
  refine MetFree.of_bodySF (plainFor_of_name pn_0) hisR ?_
  intro p e s m args below meth c s₁ Bd hml0 hP hK
  obtain ⟨rfl, hZ, hh⟩ := hP
  have hx := Bd.exec
  have hby := Bd.bytes
  have hml : c.maxLocals = 3 := hml0
  have hown : s.vm.findClass "com/example/envelop/envelop/plan/Zone" = some m.cls := findClass_of_methodNamed Bd.named
  have hnm := (name_of_methodNamed Bd.named Bd.method).1
  have X0 : Stand p l e ({ frames := 0, cells := 0, slots := 0, locals := 0 } : Room) s m #[(.ref a1), (.int (0 : Int32)), (.int (1 : Int32))] below meth c s₁ [] 0 0 := Stand.of_body Bd
  have e0 : s₁.heap = h0 := by rw [← hh, Bd.state]; rfl
  have N0 := Fr.nil n0
  refine Go.start (P := (fun o U' => ∃ v L, o = .returned v ∧ Q_rm7_2 Z a1 a2 k3 h0 n0 v U'.heap L ∧ FrameEnd s o U' L ({ frames := 0, cells := 0, slots := 0, locals := 0 } : Room).cells ({ frames := 0, cells := 0, slots := 0, locals := 0 } : Room).slots)) (castTop (g' := (mkF m 0 #[.val (.ref a1), .val (.int (0 : Int32)), .val (.int (1 : Int32))] [])) (by first | rfl | simp [entryFrame, mkF, argsToLocals, Value.category]) (T := s₁)) ?_
  refine Go.st (fun t k => XS.aloadN X0.here hx rfl (hb hby d7_0) rfl rfl k) ?_
  show Go p e below _ (s₁.setTop (mkF m 1 #[.val (.ref a1), .val (.int (0 : Int32)), .val (.int (1 : Int32))] [(.ref a1)]))
  obtain ⟨T1, X1, e1, st1⟩ := getF X0 hx hZ hown (host := "") (Or.inl (w17 hw)) Via.refl e0 P1 (g := (mkF m 1 #[.val (.ref a1), .val (.int (0 : Int32)), .val (.int (1 : Int32))] [(.ref a1)])) rfl rfl (hb hby d7_1)
  refine Go.st st1 ?_
  show Go p e below _ (T1.setTop (mkF m 4 #[.val (.ref a1), .val (.int (0 : Int32)), .val (.int (1 : Int32))] [(.ref a2)]))
  refine Go.st (fun t k => XS.iloadN X1.here hx rfl (hb hby d7_4) rfl k) ?_
  show Go p e below _ (T1.setTop (mkF m 5 #[.val (.ref a1), .val (.int (0 : Int32)), .val (.int (1 : Int32))] [(.int (0 : Int32)), (.ref a2)]))
  refine Go.st (fun t k => XS.aloadN X1.here hx rfl (hb hby d7_5) rfl rfl k) ?_
  show Go p e below _ (T1.setTop (mkF m 6 #[.val (.ref a1), .val (.int (0 : Int32)), .val (.int (1 : Int32))] [(.ref a1), (.int (0 : Int32)), (.ref a2)]))
  obtain ⟨T2, X2, e2, st2⟩ := getF X1 hx hZ hown (host := "") (Or.inl (w15 hw)) Via.refl e1 P2 (g := (mkF m 6 #[.val (.ref a1), .val (.int (0 : Int32)), .val (.int (1 : Int32))] [(.ref a1), (.int (0 : Int32)), (.ref a2)])) rfl rfl (hb hby d7_6)
  refine Go.st st2 ?_
  show Go p e below _ (T2.setTop (mkF m 9 #[.val (.ref a1), .val (.int (0 : Int32)), .val (.int (1 : Int32))] [(.int (2 : Int32)), (.int (0 : Int32)), (.ref a2)]))
  refine Go.st (fun t k => XS.imul X2.here hx rfl (hb hby d7_9) rfl k) ?_
  show Go p e below _ (T2.setTop (mkF m 10 #[.val (.ref a1), .val (.int (0 : Int32)), .val (.int (1 : Int32))] [(.int (0 : Int32)), (.ref a2)]))
  refine Go.st (fun t k => XS.iloadN X2.here hx rfl (hb hby d7_10) rfl k) ?_
  show Go p e below _ (T2.setTop (mkF m 11 #[.val (.ref a1), .val (.int (0 : Int32)), .val (.int (1 : Int32))] [(.int (1 : Int32)), (.int (0 : Int32)), (.ref a2)]))
  refine Go.st (fun t k => XS.iadd X2.here hx rfl (hb hby d7_11) rfl k) ?_
  show Go p e below _ (T2.setTop (mkF m 12 #[.val (.ref a1), .val (.int (0 : Int32)), .val (.int (1 : Int32))] [(.int (1 : Int32)), (.ref a2)]))
  obtain ⟨cl3, Ar3, q3, S3, M3, H3, G3⟩ := id P3
  have hin3 : ¬ ((1 : Int32) < 0 ∨ cl3.slots.size ≤ ((1 : Int32)).toNatClampNeg) := inb_of S3 ⟨by decide, by decide⟩
  have hat3 : cl3.slots[((1 : Int32)).toNatClampNeg]? = some (.long (1 : Int64)) := H3.at hin3 rfl
  refine Go.st (fun t k => X2.laload hx (j := (1 : Int32)) (v := (.long (1 : Int64))) (by rw [e2]; exact Ar3.1) (State.isArrayOf_alike hZ.alike Ar3.2.1) Ar3.2.2 hin3 hat3 (g := (mkF m 12 #[.val (.ref a1), .val (.int (0 : Int32)), .val (.int (1 : Int32))] [(.int (1 : Int32)), (.ref a2)])) rfl rfl (hb hby d7_12) t k) ?_
  show Go p e below _ (T2.setTop (mkF m 13 #[.val (.ref a1), .val (.int (0 : Int32)), .val (.int (1 : Int32))] [(.long (1 : Int64))]))
  obtain ⟨fs, hr, hrun, hended, hWd, hsame⟩ := X2.leave (v := some (.long (1 : Int64))) (fun h => by rw [Bd.returns] at h; cases h)
  refine ⟨_, _, ?_, hrun, hended, _, _, rfl, ?_, ⟨⟨_, rfl⟩, hWd, hsame.mono (by decide) (by decide)⟩⟩
  · exact X2.lreturnOut hx Bd.returns (hb hby d7_13) hr
  · show Q_rm7_2 Z a1 a2 k3 h0 n0 _ T2.heap _
    rw [e2]
    exact ⟨rfl, N0, rfl⟩
def Q_rm9_1 (Z : State) (q1 : Int64) (h0 : Heap) (n0 : Nat) (v : Option Value) (h : Heap) (L : List Loc) : Prop := v = some (.long ((q1 <<< ((1 : Int32) &&& 0x3f).toInt64) ||| (1 : Int64))) ∧ Fr n0 L ∧ h = h0
set_option maxRecDepth 65536 in
set_option maxHeartbeats 40000000 in
theorem rm9_1 (l : Launch) (Z : State) (a0 : Array Value) (hw : ∀ d ∈ tables_1, d.before a0 Z = true) (ws : List Jvm.Cond) (q1 : Int64) (h0 : Heap) (n0 : Nat) (O0 : Old Z n0 h0) :
    MetFree l (⟨"com/example/envelop/envelop/plan/Zone", "atMost", "(J)J"⟩ : MethodName) (head1 (Jvm.Cond.code (⟨"com/example/envelop/envelop/plan/Zone", "atMost", "(J)J"⟩ : MethodName) prog_71_method_3_code 2 (some .long) :: ws) ({ frames := 0, cells := 0, slots := 0, locals := 0 } : Room)) (fun a U => a = #[(.long q1)] ∧ Z.Warmed39 U.vm ∧ U.heap = h0) (fun _ _ _ _ _ => True) (fun _ U o U' => ∃ v L, o = .returned v ∧ Q_rm9_1 Z q1 h0 n0 v U'.heap L ∧ FrameEnd U o U' L ({ frames := 0, cells := 0, slots := 0, locals := 0 } : Room).cells ({ frames := 0, cells := 0, slots := 0, locals := 0 } : Room).slots) := by
  refine MetFree.of_bodySF (plainFor_of_name pn_0) hisR ?_
  intro p e s m args below meth c s₁ Bd hml0 hP hK
  obtain ⟨rfl, hZ, hh⟩ := hP
  have hx := Bd.exec
  have hby := Bd.bytes
  have hml : c.maxLocals = 2 := hml0
  have hown : s.vm.findClass "com/example/envelop/envelop/plan/Zone" = some m.cls := findClass_of_methodNamed Bd.named
  have hnm := (name_of_methodNamed Bd.named Bd.method).1
  have X0 : Stand p l e ({ frames := 0, cells := 0, slots := 0, locals := 0 } : Room) s m #[(.long q1)] below meth c s₁ [] 0 0 := Stand.of_body Bd
  have e0 : s₁.heap = h0 := by rw [← hh, Bd.state]; rfl
  have N0 := Fr.nil n0
  refine Go.start (P := (fun o U' => ∃ v L, o = .returned v ∧ Q_rm9_1 Z q1 h0 n0 v U'.heap L ∧ FrameEnd s o U' L ({ frames := 0, cells := 0, slots := 0, locals := 0 } : Room).cells ({ frames := 0, cells := 0, slots := 0, locals := 0 } : Room).slots)) (castTop (g' := (mkF m 0 #[.val (.long q1), .second] [])) (by first | rfl | simp [entryFrame, mkF, argsToLocals, Value.category]) (T := s₁)) ?_
  refine Go.st (fun t k => XS.lloadN X0.here hx rfl (hb hby d9_0) rfl k) ?_
  show Go p e below _ (s₁.setTop (mkF m 1 #[.val (.long q1), .second] [(.long q1)]))
  refine Go.st (fun t k => XS.iconst X0.here hx rfl (hb hby d9_1) k) ?_
  show Go p e below _ (s₁.setTop (mkF m 2 #[.val (.long q1), .second] [(.int (1 : Int32)), (.long q1)]))
  refine Go.st (fun t k => XS.lshl X0.here hx rfl (hb hby d9_2) rfl k) ?_
  show Go p e below _ (s₁.setTop (mkF m 3 #[.val (.long q1), .second] [(.long (q1 <<< ((1 : Int32) &&& 0x3f).toInt64))]))
  refine Go.st (fun t k => XS.lconst X0.here hx rfl (hb hby d9_3) k) ?_
  show Go p e below _ (s₁.setTop (mkF m 4 #[.val (.long q1), .second] [(.long (1 : Int64)), (.long (q1 <<< ((1 : Int32) &&& 0x3f).toInt64))]))
  refine Go.st (fun t k => XS.lor X0.here hx rfl (hb hby d9_4) rfl k) ?_
  show Go p e below _ (s₁.setTop (mkF m 5 #[.val (.long q1), .second] [(.long ((q1 <<< ((1 : Int32) &&& 0x3f).toInt64) ||| (1 : Int64)))]))
  obtain ⟨fs, hr, hrun, hended, hWd, hsame⟩ := X0.leave (v := some (.long ((q1 <<< ((1 : Int32) &&& 0x3f).toInt64) ||| (1 : Int64)))) (fun h => by rw [Bd.returns] at h; cases h)
  refine ⟨_, _, ?_, hrun, hended, _, _, rfl, ?_, ⟨⟨_, rfl⟩, hWd, hsame.mono (by decide) (by decide)⟩⟩
  · exact X0.lreturnOut hx Bd.returns (hb hby d9_5) hr
  · show Q_rm9_1 Z q1 h0 n0 _ s₁.heap _
    rw [e0]
    exact ⟨rfl, N0, rfl⟩
def Q_rm8_1 (Z : State) (a1 : Addr) (q2 : Int64) (a3 : Addr) (k4 : ClassId) (h0 : Heap) (n0 : Nat) (v : Option Value) (h : Heap) (L : List Loc) : Prop := v = some (.int (1 : Int32)) ∧ Fr n0 L ∧ h = h0
set_option maxRecDepth 65536 in
set_option maxHeartbeats 40000000 in
theorem rm8_1 (l : Launch) (Z : State) (a0 : Array Value) (hw : ∀ d ∈ tables_1, d.before a0 Z = true) (ws : List Jvm.Cond) (a1 : Addr) (q2 : Int64) (a3 : Addr) (k4 : ClassId) (h0 : Heap) (n0 : Nat) (O0 : Old Z n0 h0) (P1 : Exa Z h0 a1 "com/example/envelop/envelop/plan/Zone") (P2 : Fld Z h0 a1 "com/example/envelop/envelop/plan/Zone" "bounds" "[J" (.ref a3)) (P3 : Fld Z h0 a1 "com/example/envelop/envelop/plan/Zone" "size" "I" (.int (2 : Int32))) (P4 : Arv Z h0 a3 k4 .long (4 : Int32) [(.long (1 : Int64)), (.long (1 : Int64)), (.long (1 : Int64)), (.long (1 : Int64))] (.long (0 : Int64))) (P5 : ¬ ((((-q2) <<< ((1 : Int32) &&& 0x3f).toInt64) ||| (1 : Int64)) < (1 : Int64))) :
    MetFree l (⟨"com/example/envelop/envelop/plan/Zone", "impliesAtLeast", "(IJ)Z"⟩ : MethodName) (head1 (Jvm.Cond.code (⟨"com/example/envelop/envelop/plan/Zone", "impliesAtLeast", "(IJ)Z"⟩ : MethodName) prog_71_method_11_code 4 (some .boolean) :: ws) ({ frames := 1, cells := 0, slots := 0, locals := 15 } : Room)) (fun a U => a = #[(.ref a1), (.int (1 : Int32)), (.long q2)] ∧ Z.Warmed39 U.vm ∧ U.heap = h0) (fun _ _ _ _ _ => True) (fun _ U o U' => ∃ v L, o = .returned v ∧ Q_rm8_1 Z a1 q2 a3 k4 h0 n0 v U'.heap L ∧ FrameEnd U o U' L ({ frames := 1, cells := 0, slots := 0, locals := 15 } : Room).cells ({ frames := 1, cells := 0, slots := 0, locals := 15 } : Room).slots) := by
  refine MetFree.of_bodySF (plainFor_of_name pn_0) hisR ?_
  intro p e s m args below meth c s₁ Bd hml0 hP hK
  obtain ⟨rfl, hZ, hh⟩ := hP
  have hx := Bd.exec
  have hby := Bd.bytes
  have hml : c.maxLocals = 4 := hml0
  have hown : s.vm.findClass "com/example/envelop/envelop/plan/Zone" = some m.cls := findClass_of_methodNamed Bd.named
  have hnm := (name_of_methodNamed Bd.named Bd.method).1
  have X0 : Stand p l e ({ frames := 1, cells := 0, slots := 0, locals := 15 } : Room) s m #[(.ref a1), (.int (1 : Int32)), (.long q2)] below meth c s₁ [] 0 0 := Stand.of_body Bd
  have e0 : s₁.heap = h0 := by rw [← hh, Bd.state]; rfl
  have N0 := Fr.nil n0
  refine Go.start (P := (fun o U' => ∃ v L, o = .returned v ∧ Q_rm8_1 Z a1 q2 a3 k4 h0 n0 v U'.heap L ∧ FrameEnd s o U' L ({ frames := 1, cells := 0, slots := 0, locals := 15 } : Room).cells ({ frames := 1, cells := 0, slots := 0, locals := 15 } : Room).slots)) (castTop (g' := (mkF m 0 #[.val (.ref a1), .val (.int (1 : Int32)), .val (.long q2), .second] [])) (by first | rfl | simp [entryFrame, mkF, argsToLocals, Value.category]) (T := s₁)) ?_
  refine Go.st (fun t k => XS.aloadN X0.here hx rfl (hb hby d8_0) rfl rfl k) ?_
  show Go p e below _ (s₁.setTop (mkF m 1 #[.val (.ref a1), .val (.int (1 : Int32)), .val (.long q2), .second] [(.ref a1)]))
  refine Go.st (fun t k => XS.iconst X0.here hx rfl (hb hby d8_1) k) ?_
  show Go p e below _ (s₁.setTop (mkF m 2 #[.val (.ref a1), .val (.int (1 : Int32)), .val (.long q2), .second] [(.int (0 : Int32)), (.ref a1)]))
  refine Go.st (fun t k => XS.iloadN X0.here hx rfl (hb hby d8_2) rfl k) ?_
  show Go p e below _ (s₁.setTop (mkF m 3 #[.val (.ref a1), .val (.int (1 : Int32)), .val (.long q2), .second] [(.int (1 : Int32)), (.int (0 : Int32)), (.ref a1)]))
  obtain ⟨cq1, u1, u1'⟩ := P1.cell
  obtain ⟨_, _, ⟨T1, L1, k1, n1⟩, -, X1, ⟨Lc1, hQ1, l1, y1, z1⟩, st1⟩ := X0.privateBack hx (y := (⟨"com/example/envelop/envelop/plan/Zone", "get", "(II)J"⟩ : MethodName)) hown (mvT hZ (w38 hw)) (mvT hZ (w39 hw)) (own_selP hZ (w5 hw) (w40 hw) (w39 hw) (by decide)) (Cond.privateMethod_at (mvP hZ (w40 hw) (args := #[]))) (mvT hZ (w41 hw)) (by decide) (backOf (W := 0) (rm7_2 l Z a0 hw [] a1 a3 k4 h0 n0 O0 P2 P3 P4) hZ (w41 hw) (w2 hw) (by decide) (by decide)) (g := (mkF m 3 #[.val (.ref a1), .val (.int (1 : Int32)), .val (.long q2), .second] [(.int (1 : Int32)), (.int (0 : Int32)), (.ref a1)])) rfl (by rw [hml]; rfl) (Steps.refl _) (a := a1) (by rw [e0]; exact u1) u1' (argsL := [(.int (0 : Int32)), (.int (1 : Int32))]) (rest := []) (lenOf pd_4 rfl) rfl (by show 2 * 0 + _ ≤ _; exact Nat.le_of_eq rfl) (hb hby d8_3) (fun vm₁ hw₁ => ⟨rfl, e0, (by decide : 0 + 0 ≤ _), (by decide : 0 + 0 ≤ _)⟩)
  dsimp only [Pt.U, Pt.locs, Pt.cells, Pt.slots] at X1 l1 y1 z1 st1 hQ1
  subst l1 y1 z1
  obtain ⟨rfl, M1, eh1⟩ := hQ1
  have N1 := Fr.app N0 M1
  refine Go.tr st1 ?_
  show Go p e below _ (T1.setTop (mkF m 6 #[.val (.ref a1), .val (.int (1 : Int32)), .val (.long q2), .second] [(.long (1 : Int64))]))
  refine Go.st (fun t k => XS.lloadN X1.here hx rfl (hb hby d8_6) rfl k) ?_
  show Go p e below _ (T1.setTop (mkF m 7 #[.val (.ref a1), .val (.int (1 : Int32)), .val (.long q2), .second] [(.long q2), (.long (1 : Int64))]))
  refine Go.st (fun t k => XS.lneg X1.here hx rfl (hb hby d8_7) rfl k) ?_
  show Go p e below _ (T1.setTop (mkF m 8 #[.val (.ref a1), .val (.int (1 : Int32)), .val (.long q2), .second] [(.long (-q2)), (.long (1 : Int64))]))
  obtain ⟨_, _, ⟨T2, L2, k2, n2⟩, -, X2, ⟨Lc2, hQ2, l2, y2, z2⟩, st2⟩ := Jvm.LawKit.callS X1 hx (y := (⟨"com/example/envelop/envelop/plan/Zone", "atMost", "(J)J"⟩ : MethodName)) hown (mvT hZ (w47 hw)) (mvT hZ (w48 hw)) (mvT hZ (w2 hw)) (mvT hZ (w49 hw)) (by decide) (backOf (W := 2) (rm9_1 l Z a0 hw [] (-q2) h0 n0 O0 ) hZ (w49 hw) (w2 hw) (by decide) (by decide)) (g := (mkF m 8 #[.val (.ref a1), .val (.int (1 : Int32)), .val (.long q2), .second] [(.long (-q2)), (.long (1 : Int64))])) rfl (by rw [hml]; rfl) (argsL := [(.long (-q2))]) (rest := [(.long (1 : Int64))]) (lenOf pd_5 rfl) rfl (by show 2 * 0 + _ ≤ _; exact Nat.le_of_eq rfl) (hb hby d8_8) (fun vm₁ hw₁ => ⟨rfl, eh1, (by decide : 0 + 0 ≤ _), (by decide : 0 + 0 ≤ _)⟩)
  dsimp only [Pt.U, Pt.locs, Pt.cells, Pt.slots] at X2 l2 y2 z2 st2 hQ2
  subst l2 y2 z2
  obtain ⟨rfl, M2, eh2⟩ := hQ2
  have N2 := Fr.app N1 M2
  refine Go.st st2 ?_
  show Go p e below _ (T2.setTop (mkF m 11 #[.val (.ref a1), .val (.int (1 : Int32)), .val (.long q2), .second] [(.long (((-q2) <<< ((1 : Int32) &&& 0x3f).toInt64) ||| (1 : Int64))), (.long (1 : Int64))]))
  refine Go.st (fun t k => Jvm.Free.XT.lcmp X2.here hx rfl (hb hby d8_11) rfl k) ?_
  show Go p e below _ (T2.setTop (mkF m 12 #[.val (.ref a1), .val (.int (1 : Int32)), .val (.long q2), .second] [(.int (Jvm.Free.XT.cmpL (1 : Int64) (((-q2) <<< ((1 : Int32) &&& 0x3f).toInt64) ||| (1 : Int64))))]))
  refine Go.st (fun t k => XS.ifNo X2.here hx rfl (hb hby d8_12) rfl (Jvm.Free.XT.ll_gt_f P5) k) ?_
  show Go p e below _ (T2.setTop (mkF m 15 #[.val (.ref a1), .val (.int (1 : Int32)), .val (.long q2), .second] []))
  refine Go.st (fun t k => XS.iconst X2.here hx rfl (hb hby d8_15) k) ?_
  show Go p e below _ (T2.setTop (mkF m 16 #[.val (.ref a1), .val (.int (1 : Int32)), .val (.long q2), .second] [(.int (1 : Int32))]))
  refine Go.st (fun t k => XS.goto X2.here hx rfl (pc0 := 16) (pc' := 20) rfl (hb hby d8_16) (by decide) (by decide) k) ?_
  show Go p e below _ (T2.setTop (mkF m 20 #[.val (.ref a1), .val (.int (1 : Int32)), .val (.long q2), .second] [(.int (1 : Int32))]))
  obtain ⟨fs, hr, hrun, hended, hWd, hsame⟩ := X2.leave (v := some (.int (1 : Int32))) (fun h => by rw [Bd.returns] at h; cases h)
  refine ⟨_, _, ?_, hrun, hended, _, _, rfl, ?_, ⟨⟨_, rfl⟩, hWd, hsame.mono (by decide) (by decide)⟩⟩
  · exact retN X2 hx (t := .boolean) Bd.returns (by simp) (hb hby d8_20) hr
  · show Q_rm8_1 Z a1 q2 a3 k4 h0 n0 _ T2.heap _
    rw [eh2]
    exact ⟨rfl, N2, rfl⟩
def Q_rm12_1 (Z : State) (q1 : Int64) (h0 : Heap) (n0 : Nat) (v : Option Value) (h : Heap) (L : List Loc) : Prop := v = some (.long ((((q1 >>> ((1 : Int32) &&& 0x3f).toInt64) + (0 : Int64)) <<< ((1 : Int32) &&& 0x3f).toInt64) ||| ((q1 &&& (1 : Int64)) &&& (1 : Int64)))) ∧ Fr n0 L ∧ h = h0
set_option maxRecDepth 65536 in
set_option maxHeartbeats 40000000 in
theorem rm12_1 (l : Launch) (Z : State) (a0 : Array Value) (hw : ∀ d ∈ tables_1, d.before a0 Z = true) (ws : List Jvm.Cond) (q1 : Int64) (h0 : Heap) (n0 : Nat) (O0 : Old Z n0 h0) (P1 : ¬ (q1 = (9223372036854775807 : Int64))) :
    MetFree l (⟨"com/example/envelop/envelop/plan/Zone", "sum", "(JJ)J"⟩ : MethodName) (head1 (Jvm.Cond.code (⟨"com/example/envelop/envelop/plan/Zone", "sum", "(JJ)J"⟩ : MethodName) prog_71_method_5_code 4 (some .long) :: ws) ({ frames := 0, cells := 0, slots := 0, locals := 0 } : Room)) (fun a U => a = #[(.long q1), (.long (1 : Int64))] ∧ Z.Warmed39 U.vm ∧ U.heap = h0) (fun _ _ _ _ _ => True) (fun _ U o U' => ∃ v L, o = .returned v ∧ Q_rm12_1 Z q1 h0 n0 v U'.heap L ∧ FrameEnd U o U' L ({ frames := 0, cells := 0, slots := 0, locals := 0 } : Room).cells ({ frames := 0, cells := 0, slots := 0, locals := 0 } : Room).slots) := by
  refine MetFree.of_bodySF (plainFor_of_name pn_0) hisR ?_
  intro p e s m args below meth c s₁ Bd hml0 hP hK
  obtain ⟨rfl, hZ, hh⟩ := hP
  have hx := Bd.exec
  have hby := Bd.bytes
  have hml : c.maxLocals = 4 := hml0
  have hown : s.vm.findClass "com/example/envelop/envelop/plan/Zone" = some m.cls := findClass_of_methodNamed Bd.named
  have hnm := (name_of_methodNamed Bd.named Bd.method).1
  have X0 : Stand p l e ({ frames := 0, cells := 0, slots := 0, locals := 0 } : Room) s m #[(.long q1), (.long (1 : Int64))] below meth c s₁ [] 0 0 := Stand.of_body Bd
  have e0 : s₁.heap = h0 := by rw [← hh, Bd.state]; rfl
  have N0 := Fr.nil n0
  refine Go.start (P := (fun o U' => ∃ v L, o = .returned v ∧ Q_rm12_1 Z q1 h0 n0 v U'.heap L ∧ FrameEnd s o U' L ({ frames := 0, cells := 0, slots := 0, locals := 0 } : Room).cells ({ frames := 0, cells := 0, slots := 0, locals := 0 } : Room).slots)) (castTop (g' := (mkF m 0 #[.val (.long q1), .second, .val (.long (1 : Int64)), .second] [])) (by first | rfl | simp [entryFrame, mkF, argsToLocals, Value.category]) (T := s₁)) ?_
  refine Go.st (fun t k => XS.lloadN X0.here hx rfl (hb hby d12_0) rfl k) ?_
  show Go p e below _ (s₁.setTop (mkF m 1 #[.val (.long q1), .second, .val (.long (1 : Int64)), .second] [(.long q1)]))
  refine Go.st (fun t k => X0.ldc2J hx hown (mvT hZ (w62 hw)) (g := (mkF m 1 #[.val (.long q1), .second, .val (.long (1 : Int64)), .second] [(.long q1)])) rfl (hb hby d12_1) k) ?_
  show Go p e below _ (s₁.setTop (mkF m 4 #[.val (.long q1), .second, .val (.long (1 : Int64)), .second] [(.long (9223372036854775807 : Int64)), (.long q1)]))
  refine Go.st (fun t k => Jvm.Free.XT.lcmp X0.here hx rfl (hb hby d12_4) rfl k) ?_
  show Go p e below _ (s₁.setTop (mkF m 5 #[.val (.long q1), .second, .val (.long (1 : Int64)), .second] [(.int (Jvm.Free.XT.cmpL q1 (9223372036854775807 : Int64)))]))
  refine Go.st (fun t k => XS.ifNo X0.here hx rfl (hb hby d12_5) rfl (Jvm.Free.XT.ll_eq_f P1) k) ?_
  show Go p e below _ (s₁.setTop (mkF m 8 #[.val (.long q1), .second, .val (.long (1 : Int64)), .second] []))
  refine Go.st (fun t k => XS.lloadN X0.here hx rfl (hb hby d12_8) rfl k) ?_
  show Go p e below _ (s₁.setTop (mkF m 9 #[.val (.long q1), .second, .val (.long (1 : Int64)), .second] [(.long (1 : Int64))]))
  refine Go.st (fun t k => X0.ldc2J hx hown (mvT hZ (w62 hw)) (g := (mkF m 9 #[.val (.long q1), .second, .val (.long (1 : Int64)), .second] [(.long (1 : Int64))])) rfl (hb hby d12_9) k) ?_
  show Go p e below _ (s₁.setTop (mkF m 12 #[.val (.long q1), .second, .val (.long (1 : Int64)), .second] [(.long (9223372036854775807 : Int64)), (.long (1 : Int64))]))
  refine Go.st (fun t k => Jvm.Free.XT.lcmp X0.here hx rfl (hb hby d12_12) rfl k) ?_
  show Go p e below _ (s₁.setTop (mkF m 13 #[.val (.long q1), .second, .val (.long (1 : Int64)), .second] [(.int (Jvm.Free.XT.cmpL (1 : Int64) (9223372036854775807 : Int64)))]))
  refine Go.st (fun t k => XS.ifYes X0.here hx rfl (pc0 := 13) (pc' := 20) rfl (hb hby d12_13) rfl (Jvm.Free.XT.ll_ne_t (by decide : ¬ ((1 : Int64) = (9223372036854775807 : Int64)))) (by decide) (by decide) k) ?_
  show Go p e below _ (s₁.setTop (mkF m 20 #[.val (.long q1), .second, .val (.long (1 : Int64)), .second] []))
  refine Go.st (fun t k => XS.lloadN X0.here hx rfl (hb hby d12_20) rfl k) ?_
  show Go p e below _ (s₁.setTop (mkF m 21 #[.val (.long q1), .second, .val (.long (1 : Int64)), .second] [(.long q1)]))
  refine Go.st (fun t k => XS.iconst X0.here hx rfl (hb hby d12_21) k) ?_
  show Go p e below _ (s₁.setTop (mkF m 22 #[.val (.long q1), .second, .val (.long (1 : Int64)), .second] [(.int (1 : Int32)), (.long q1)]))
  refine Go.st (fun t k => XS.lshr X0.here hx rfl (hb hby d12_22) rfl k) ?_
  show Go p e below _ (s₁.setTop (mkF m 23 #[.val (.long q1), .second, .val (.long (1 : Int64)), .second] [(.long (q1 >>> ((1 : Int32) &&& 0x3f).toInt64))]))
  refine Go.st (fun t k => XS.lloadN X0.here hx rfl (hb hby d12_23) rfl k) ?_
  show Go p e below _ (s₁.setTop (mkF m 24 #[.val (.long q1), .second, .val (.long (1 : Int64)), .second] [(.long (1 : Int64)), (.long (q1 >>> ((1 : Int32) &&& 0x3f).toInt64))]))
  refine Go.st (fun t k => XS.iconst X0.here hx rfl (hb hby d12_24) k) ?_
  show Go p e below _ (s₁.setTop (mkF m 25 #[.val (.long q1), .second, .val (.long (1 : Int64)), .second] [(.int (1 : Int32)), (.long (1 : Int64)), (.long (q1 >>> ((1 : Int32) &&& 0x3f).toInt64))]))
  refine Go.st (fun t k => XS.lshr X0.here hx rfl (hb hby d12_25) rfl k) ?_
  show Go p e below _ (s₁.setTop (mkF m 26 #[.val (.long q1), .second, .val (.long (1 : Int64)), .second] [(.long (0 : Int64)), (.long (q1 >>> ((1 : Int32) &&& 0x3f).toInt64))]))
  refine Go.st (fun t k => XS.ladd X0.here hx rfl (hb hby d12_26) rfl k) ?_
  show Go p e below _ (s₁.setTop (mkF m 27 #[.val (.long q1), .second, .val (.long (1 : Int64)), .second] [(.long ((q1 >>> ((1 : Int32) &&& 0x3f).toInt64) + (0 : Int64)))]))
  refine Go.st (fun t k => XS.iconst X0.here hx rfl (hb hby d12_27) k) ?_
  show Go p e below _ (s₁.setTop (mkF m 28 #[.val (.long q1), .second, .val (.long (1 : Int64)), .second] [(.int (1 : Int32)), (.long ((q1 >>> ((1 : Int32) &&& 0x3f).toInt64) + (0 : Int64)))]))
  refine Go.st (fun t k => XS.lshl X0.here hx rfl (hb hby d12_28) rfl k) ?_
  show Go p e below _ (s₁.setTop (mkF m 29 #[.val (.long q1), .second, .val (.long (1 : Int64)), .second] [(.long (((q1 >>> ((1 : Int32) &&& 0x3f).toInt64) + (0 : Int64)) <<< ((1 : Int32) &&& 0x3f).toInt64))]))
  refine Go.st (fun t k => XS.lloadN X0.here hx rfl (hb hby d12_29) rfl k) ?_
  show Go p e below _ (s₁.setTop (mkF m 30 #[.val (.long q1), .second, .val (.long (1 : Int64)), .second] [(.long q1), (.long (((q1 >>> ((1 : Int32) &&& 0x3f).toInt64) + (0 : Int64)) <<< ((1 : Int32) &&& 0x3f).toInt64))]))
  refine Go.st (fun t k => XS.lloadN X0.here hx rfl (hb hby d12_30) rfl k) ?_
  show Go p e below _ (s₁.setTop (mkF m 31 #[.val (.long q1), .second, .val (.long (1 : Int64)), .second] [(.long (1 : Int64)), (.long q1), (.long (((q1 >>> ((1 : Int32) &&& 0x3f).toInt64) + (0 : Int64)) <<< ((1 : Int32) &&& 0x3f).toInt64))]))
  refine Go.st (fun t k => XS.land X0.here hx rfl (hb hby d12_31) rfl k) ?_
  show Go p e below _ (s₁.setTop (mkF m 32 #[.val (.long q1), .second, .val (.long (1 : Int64)), .second] [(.long (q1 &&& (1 : Int64))), (.long (((q1 >>> ((1 : Int32) &&& 0x3f).toInt64) + (0 : Int64)) <<< ((1 : Int32) &&& 0x3f).toInt64))]))
  refine Go.st (fun t k => XS.lconst X0.here hx rfl (hb hby d12_32) k) ?_
  show Go p e below _ (s₁.setTop (mkF m 33 #[.val (.long q1), .second, .val (.long (1 : Int64)), .second] [(.long (1 : Int64)), (.long (q1 &&& (1 : Int64))), (.long (((q1 >>> ((1 : Int32) &&& 0x3f).toInt64) + (0 : Int64)) <<< ((1 : Int32) &&& 0x3f).toInt64))]))
  refine Go.st (fun t k => XS.land X0.here hx rfl (hb hby d12_33) rfl k) ?_
  show Go p e below _ (s₁.setTop (mkF m 34 #[.val (.long q1), .second, .val (.long (1 : Int64)), .second] [(.long ((q1 &&& (1 : Int64)) &&& (1 : Int64))), (.long (((q1 >>> ((1 : Int32) &&& 0x3f).toInt64) + (0 : Int64)) <<< ((1 : Int32) &&& 0x3f).toInt64))]))
  refine Go.st (fun t k => XS.lor X0.here hx rfl (hb hby d12_34) rfl k) ?_
  show Go p e below _ (s₁.setTop (mkF m 35 #[.val (.long q1), .second, .val (.long (1 : Int64)), .second] [(.long ((((q1 >>> ((1 : Int32) &&& 0x3f).toInt64) + (0 : Int64)) <<< ((1 : Int32) &&& 0x3f).toInt64) ||| ((q1 &&& (1 : Int64)) &&& (1 : Int64))))]))
  obtain ⟨fs, hr, hrun, hended, hWd, hsame⟩ := X0.leave (v := some (.long ((((q1 >>> ((1 : Int32) &&& 0x3f).toInt64) + (0 : Int64)) <<< ((1 : Int32) &&& 0x3f).toInt64) ||| ((q1 &&& (1 : Int64)) &&& (1 : Int64))))) (fun h => by rw [Bd.returns] at h; cases h)
  refine ⟨_, _, ?_, hrun, hended, _, _, rfl, ?_, ⟨⟨_, rfl⟩, hWd, hsame.mono (by decide) (by decide)⟩⟩
  · exact X0.lreturnOut hx Bd.returns (hb hby d12_35) hr
  · show Q_rm12_1 Z q1 h0 n0 _ s₁.heap _
    rw [e0]
    exact ⟨rfl, N0, rfl⟩
def Q_rm11_1 (Z : State) (a1 : Addr) (q2 : Int64) (a3 : Addr) (k4 : ClassId) (h0 : Heap) (n0 : Nat) (v : Option Value) (h : Heap) (L : List Loc) : Prop := v = some .null ∧ Fr n0 L ∧ h = h0
set_option maxRecDepth 65536 in
set_option maxHeartbeats 40000000 in
theorem rm11_1 (l : Launch) (Z : State) (a0 : Array Value) (hw : ∀ d ∈ tables_1, d.before a0 Z = true) (ws : List Jvm.Cond) (a1 : Addr) (q2 : Int64) (a3 : Addr) (k4 : ClassId) (h0 : Heap) (n0 : Nat) (O0 : Old Z n0 h0) (P1 : Exa Z h0 a1 "com/example/envelop/envelop/plan/Zone") (P2 : Fld Z h0 a1 "com/example/envelop/envelop/plan/Zone" "bounds" "[J" (.ref a3)) (P3 : Fld Z h0 a1 "com/example/envelop/envelop/plan/Zone" "size" "I" (.int (2 : Int32))) (P4 : Arv Z h0 a3 k4 .long (4 : Int32) [(.long (1 : Int64)), (.long (1 : Int64)), (.long (1 : Int64)), (.long (1 : Int64))] (.long (0 : Int64))) (P5 : ¬ (q2 = (9223372036854775807 : Int64))) (P6 : Sta Z Z.heap "com/example/envelop/envelop/plan/Zone" "ZERO" "J" (.long (1 : Int64))) (P7 : ((((q2 >>> ((1 : Int32) &&& 0x3f).toInt64) + (0 : Int64)) <<< ((1 : Int32) &&& 0x3f).toInt64) ||| ((q2 &&& (1 : Int64)) &&& (1 : Int64))) < (1 : Int64)) :
    MetFree l (⟨"com/example/envelop/envelop/plan/Zone", "constrain", "(IIJ)Lcom/example/envelop/envelop/plan/Zone;"⟩ : MethodName) (head1 (Jvm.Cond.code (⟨"com/example/envelop/envelop/plan/Zone", "constrain", "(IIJ)Lcom/example/envelop/envelop/plan/Zone;"⟩ : MethodName) prog_71_method_12_code 15 (some (.object "com/example/envelop/envelop/plan/Zone")) :: ws) ({ frames := 1, cells := 0, slots := 0, locals := 16 } : Room)) (fun a U => a = #[(.ref a1), (.int (1 : Int32)), (.int (0 : Int32)), (.long q2)] ∧ Z.Warmed39 U.vm ∧ U.heap = h0) (fun _ _ _ _ _ => True) (fun _ U o U' => ∃ v L, o = .returned v ∧ Q_rm11_1 Z a1 q2 a3 k4 h0 n0 v U'.heap L ∧ FrameEnd U o U' L ({ frames := 1, cells := 0, slots := 0, locals := 16 } : Room).cells ({ frames := 1, cells := 0, slots := 0, locals := 16 } : Room).slots) := by
  refine MetFree.of_bodySF (plainFor_of_name pn_0) hisR ?_
  intro p e s m args below meth c s₁ Bd hml0 hP hK
  obtain ⟨rfl, hZ, hh⟩ := hP
  have hx := Bd.exec
  have hby := Bd.bytes
  have hml : c.maxLocals = 15 := hml0
  have hown : s.vm.findClass "com/example/envelop/envelop/plan/Zone" = some m.cls := findClass_of_methodNamed Bd.named
  have hnm := (name_of_methodNamed Bd.named Bd.method).1
  have X0 : Stand p l e ({ frames := 1, cells := 0, slots := 0, locals := 16 } : Room) s m #[(.ref a1), (.int (1 : Int32)), (.int (0 : Int32)), (.long q2)] below meth c s₁ [] 0 0 := Stand.of_body Bd
  have e0 : s₁.heap = h0 := by rw [← hh, Bd.state]; rfl
  have N0 := Fr.nil n0
  refine Go.start (P := (fun o U' => ∃ v L, o = .returned v ∧ Q_rm11_1 Z a1 q2 a3 k4 h0 n0 v U'.heap L ∧ FrameEnd s o U' L ({ frames := 1, cells := 0, slots := 0, locals := 16 } : Room).cells ({ frames := 1, cells := 0, slots := 0, locals := 16 } : Room).slots)) (castTop (g' := (mkF m 0 #[.val (.ref a1), .val (.int (1 : Int32)), .val (.int (0 : Int32)), .val (.long q2), .second, .unset, .unset, .unset, .unset, .unset, .unset, .unset, .unset, .unset, .unset] [])) (by first | rfl | simp [entryFrame, mkF, argsToLocals, Value.category]) (T := s₁)) ?_
  refine Go.st (fun t k => XS.lloadN X0.here hx rfl (hb hby d11_0) rfl k) ?_
  show Go p e below _ (s₁.setTop (mkF m 1 #[.val (.ref a1), .val (.int (1 : Int32)), .val (.int (0 : Int32)), .val (.long q2), .second, .unset, .unset, .unset, .unset, .unset, .unset, .unset, .unset, .unset, .unset] [(.long q2)]))
  refine Go.st (fun t k => XS.aloadN X0.here hx rfl (hb hby d11_1) rfl rfl k) ?_
  show Go p e below _ (s₁.setTop (mkF m 2 #[.val (.ref a1), .val (.int (1 : Int32)), .val (.int (0 : Int32)), .val (.long q2), .second, .unset, .unset, .unset, .unset, .unset, .unset, .unset, .unset, .unset, .unset] [(.ref a1), (.long q2)]))
  refine Go.st (fun t k => XS.iloadN X0.here hx rfl (hb hby d11_2) rfl k) ?_
  show Go p e below _ (s₁.setTop (mkF m 3 #[.val (.ref a1), .val (.int (1 : Int32)), .val (.int (0 : Int32)), .val (.long q2), .second, .unset, .unset, .unset, .unset, .unset, .unset, .unset, .unset, .unset, .unset] [(.int (0 : Int32)), (.ref a1), (.long q2)]))
  refine Go.st (fun t k => XS.iloadN X0.here hx rfl (hb hby d11_3) rfl k) ?_
  show Go p e below _ (s₁.setTop (mkF m 4 #[.val (.ref a1), .val (.int (1 : Int32)), .val (.int (0 : Int32)), .val (.long q2), .second, .unset, .unset, .unset, .unset, .unset, .unset, .unset, .unset, .unset, .unset] [(.int (1 : Int32)), (.int (0 : Int32)), (.ref a1), (.long q2)]))
  obtain ⟨cq1, u1, u1'⟩ := P1.cell
  obtain ⟨_, _, ⟨T1, L1, k1, n1⟩, -, X1, ⟨Lc1, hQ1, l1, y1, z1⟩, st1⟩ := X0.privateBack hx (y := (⟨"com/example/envelop/envelop/plan/Zone", "get", "(II)J"⟩ : MethodName)) hown (mvT hZ (w38 hw)) (mvT hZ (w39 hw)) (own_selP hZ (w5 hw) (w40 hw) (w39 hw) (by decide)) (Cond.privateMethod_at (mvP hZ (w40 hw) (args := #[]))) (mvT hZ (w41 hw)) (by decide) (backOf (W := 2) (rm7_2 l Z a0 hw [] a1 a3 k4 h0 n0 O0 P2 P3 P4) hZ (w41 hw) (w2 hw) (by decide) (by decide)) (g := (mkF m 4 #[.val (.ref a1), .val (.int (1 : Int32)), .val (.int (0 : Int32)), .val (.long q2), .second, .unset, .unset, .unset, .unset, .unset, .unset, .unset, .unset, .unset, .unset] [(.int (1 : Int32)), (.int (0 : Int32)), (.ref a1), (.long q2)])) rfl (by rw [hml]; rfl) (Steps.refl _) (a := a1) (by rw [e0]; exact u1) u1' (argsL := [(.int (0 : Int32)), (.int (1 : Int32))]) (rest := [(.long q2)]) (lenOf pd_4 rfl) rfl (by show 2 * 0 + _ ≤ _; exact Nat.le_of_eq rfl) (hb hby d11_4) (fun vm₁ hw₁ => ⟨rfl, e0, (by decide : 0 + 0 ≤ _), (by decide : 0 + 0 ≤ _)⟩)
  dsimp only [Pt.U, Pt.locs, Pt.cells, Pt.slots] at X1 l1 y1 z1 st1 hQ1
  subst l1 y1 z1
  obtain ⟨rfl, M1, eh1⟩ := hQ1
  have N1 := Fr.app N0 M1
  refine Go.tr st1 ?_
  show Go p e below _ (T1.setTop (mkF m 7 #[.val (.ref a1), .val (.int (1 : Int32)), .val (.int (0 : Int32)), .val (.long q2), .second, .unset, .unset, .unset, .unset, .unset, .unset, .unset, .unset, .unset, .unset] [(.long (1 : Int64)), (.long q2)]))
  obtain ⟨_, _, ⟨T2, L2, k2, n2⟩, -, X2, ⟨Lc2, hQ2, l2, y2, z2⟩, st2⟩ := Jvm.LawKit.callS X1 hx (y := (⟨"com/example/envelop/envelop/plan/Zone", "sum", "(JJ)J"⟩ : MethodName)) hown (mvT hZ (w59 hw)) (mvT hZ (w60 hw)) (mvT hZ (w2 hw)) (mvT hZ (w61 hw)) (by decide) (backOf (W := 0) (rm12_1 l Z a0 hw [] q2 h0 n0 O0 P5) hZ (w61 hw) (w2 hw) (by decide) (by decide)) (g := (mkF m 7 #[.val (.ref a1), .val (.int (1 : Int32)), .val (.int (0 : Int32)), .val (.long q2), .second, .unset, .unset, .unset, .unset, .unset, .unset, .unset, .unset, .unset, .unset] [(.long (1 : Int64)), (.long q2)])) rfl (by rw [hml]; rfl) (argsL := [(.long q2), (.long (1 : Int64))]) (rest := []) (lenOf pd_7 rfl) rfl (by show 2 * 0 + _ ≤ _; exact Nat.le_of_eq rfl) (hb hby d11_7) (fun vm₁ hw₁ => ⟨rfl, eh1, (by decide : 0 + 0 ≤ _), (by decide : 0 + 0 ≤ _)⟩)
  dsimp only [Pt.U, Pt.locs, Pt.cells, Pt.slots] at X2 l2 y2 z2 st2 hQ2
  subst l2 y2 z2
  obtain ⟨rfl, M2, eh2⟩ := hQ2
  have N2 := Fr.app N1 M2
  refine Go.st st2 ?_
  show Go p e below _ (T2.setTop (mkF m 10 #[.val (.ref a1), .val (.int (1 : Int32)), .val (.int (0 : Int32)), .val (.long q2), .second, .unset, .unset, .unset, .unset, .unset, .unset, .unset, .unset, .unset, .unset] [(.long ((((q2 >>> ((1 : Int32) &&& 0x3f).toInt64) + (0 : Int64)) <<< ((1 : Int32) &&& 0x3f).toInt64) ||| ((q2 &&& (1 : Int64)) &&& (1 : Int64))))]))
  obtain ⟨T3, X3, e3, st3⟩ := getS2 X2 hx hZ hown (host := "") (Or.inl (w7 hw)) Via.refl eh2 (P6.ext O0.2) (g := (mkF m 10 #[.val (.ref a1), .val (.int (1 : Int32)), .val (.int (0 : Int32)), .val (.long q2), .second, .unset, .unset, .unset, .unset, .unset, .unset, .unset, .unset, .unset, .unset] [(.long ((((q2 >>> ((1 : Int32) &&& 0x3f).toInt64) + (0 : Int64)) <<< ((1 : Int32) &&& 0x3f).toInt64) ||| ((q2 &&& (1 : Int64)) &&& (1 : Int64))))])) rfl (hb hby d11_10)
  refine Go.st st3 ?_
  show Go p e below _ (T3.setTop (mkF m 13 #[.val (.ref a1), .val (.int (1 : Int32)), .val (.int (0 : Int32)), .val (.long q2), .second, .unset, .unset, .unset, .unset, .unset, .unset, .unset, .unset, .unset, .unset] [(.long (1 : Int64)), (.long ((((q2 >>> ((1 : Int32) &&& 0x3f).toInt64) + (0 : Int64)) <<< ((1 : Int32) &&& 0x3f).toInt64) ||| ((q2 &&& (1 : Int64)) &&& (1 : Int64))))]))
  refine Go.st (fun t k => Jvm.Free.XT.lcmp X3.here hx rfl (hb hby d11_13) rfl k) ?_
  show Go p e below _ (T3.setTop (mkF m 14 #[.val (.ref a1), .val (.int (1 : Int32)), .val (.int (0 : Int32)), .val (.long q2), .second, .unset, .unset, .unset, .unset, .unset, .unset, .unset, .unset, .unset, .unset] [(.int (Jvm.Free.XT.cmpL ((((q2 >>> ((1 : Int32) &&& 0x3f).toInt64) + (0 : Int64)) <<< ((1 : Int32) &&& 0x3f).toInt64) ||| ((q2 &&& (1 : Int64)) &&& (1 : Int64))) (1 : Int64)))]))
  refine Go.st (fun t k => XS.ifNo X3.here hx rfl (hb hby d11_14) rfl (Jvm.Free.XT.ll_ge_f P7) k) ?_
  show Go p e below _ (T3.setTop (mkF m 17 #[.val (.ref a1), .val (.int (1 : Int32)), .val (.int (0 : Int32)), .val (.long q2), .second, .unset, .unset, .unset, .unset, .unset, .unset, .unset, .unset, .unset, .unset] []))
  refine Go.st (fun t k => XS.aconstNull X3.here hx rfl (hb hby d11_17) k) ?_
  show Go p e below _ (T3.setTop (mkF m 18 #[.val (.ref a1), .val (.int (1 : Int32)), .val (.int (0 : Int32)), .val (.long q2), .second, .unset, .unset, .unset, .unset, .unset, .unset, .unset, .unset, .unset, .unset] [.null]))
  obtain ⟨fs, hr, hrun, hended, hWd, hsame⟩ := X3.leave (v := some .null) (fun h => by rw [Bd.returns] at h; cases h)
  refine ⟨_, _, ?_, hrun, hended, _, _, rfl, ?_, ⟨⟨_, rfl⟩, hWd, hsame.mono (by decide) (by decide)⟩⟩
  · exact own_retA X3 hx Bd.returns rfl rfl (hb hby d11_18) hr
  · show Q_rm11_1 Z a1 q2 a3 k4 h0 n0 _ T3.heap _
    rw [e3]
    exact ⟨rfl, N2, rfl⟩
def Q_rm10_1 (Z : State) (a1 : Addr) (q2 : Int64) (a3 : Addr) (k4 : ClassId) (h0 : Heap) (n0 : Nat) (v : Option Value) (h : Heap) (L : List Loc) : Prop := v = some .null ∧ Fr n0 L ∧ h = h0
set_option maxRecDepth 65536 in
set_option maxHeartbeats 40000000 in
theorem rm10_1 (l : Launch) (Z : State) (a0 : Array Value) (hw : ∀ d ∈ tables_1, d.before a0 Z = true) (ws : List Jvm.Cond) (a1 : Addr) (q2 : Int64) (a3 : Addr) (k4 : ClassId) (h0 : Heap) (n0 : Nat) (O0 : Old Z n0 h0) (P1 : Exa Z h0 a1 "com/example/envelop/envelop/plan/Zone") (P2 : Fld Z h0 a1 "com/example/envelop/envelop/plan/Zone" "bounds" "[J" (.ref a3)) (P3 : Fld Z h0 a1 "com/example/envelop/envelop/plan/Zone" "size" "I" (.int (2 : Int32))) (P4 : Arv Z h0 a3 k4 .long (4 : Int32) [(.long (1 : Int64)), (.long (1 : Int64)), (.long (1 : Int64)), (.long (1 : Int64))] (.long (0 : Int64))) (P5 : ¬ (((q2 <<< ((1 : Int32) &&& 0x3f).toInt64) ||| (1 : Int64)) = (9223372036854775807 : Int64))) (P6 : Sta Z Z.heap "com/example/envelop/envelop/plan/Zone" "ZERO" "J" (.long (1 : Int64))) (P7 : ((((((q2 <<< ((1 : Int32) &&& 0x3f).toInt64) ||| (1 : Int64)) >>> ((1 : Int32) &&& 0x3f).toInt64) + (0 : Int64)) <<< ((1 : Int32) &&& 0x3f).toInt64) ||| ((((q2 <<< ((1 : Int32) &&& 0x3f).toInt64) ||| (1 : Int64)) &&& (1 : Int64)) &&& (1 : Int64))) < (1 : Int64)) :
    MetFree l (⟨"com/example/envelop/envelop/plan/Zone", "atMost", "(IJ)Lcom/example/envelop/envelop/plan/Zone;"⟩ : MethodName) (head1 (Jvm.Cond.code (⟨"com/example/envelop/envelop/plan/Zone", "atMost", "(IJ)Lcom/example/envelop/envelop/plan/Zone;"⟩ : MethodName) prog_71_method_9_code 4 (some (.object "com/example/envelop/envelop/plan/Zone")) :: ws) ({ frames := 2, cells := 0, slots := 0, locals := 42 } : Room)) (fun a U => a = #[(.ref a1), (.int (1 : Int32)), (.long q2)] ∧ Z.Warmed39 U.vm ∧ U.heap = h0) (fun _ _ _ _ _ => True) (fun _ U o U' => ∃ v L, o = .returned v ∧ Q_rm10_1 Z a1 q2 a3 k4 h0 n0 v U'.heap L ∧ FrameEnd U o U' L ({ frames := 2, cells := 0, slots := 0, locals := 42 } : Room).cells ({ frames := 2, cells := 0, slots := 0, locals := 42 } : Room).slots) := by
  refine MetFree.of_bodySF (plainFor_of_name pn_0) hisR ?_
  intro p e s m args below meth c s₁ Bd hml0 hP hK
  obtain ⟨rfl, hZ, hh⟩ := hP
  have hx := Bd.exec
  have hby := Bd.bytes
  have hml : c.maxLocals = 4 := hml0
  have hown : s.vm.findClass "com/example/envelop/envelop/plan/Zone" = some m.cls := findClass_of_methodNamed Bd.named
  have hnm := (name_of_methodNamed Bd.named Bd.method).1
  have X0 : Stand p l e ({ frames := 2, cells := 0, slots := 0, locals := 42 } : Room) s m #[(.ref a1), (.int (1 : Int32)), (.long q2)] below meth c s₁ [] 0 0 := Stand.of_body Bd
  have e0 : s₁.heap = h0 := by rw [← hh, Bd.state]; rfl
  have N0 := Fr.nil n0
  refine Go.start (P := (fun o U' => ∃ v L, o = .returned v ∧ Q_rm10_1 Z a1 q2 a3 k4 h0 n0 v U'.heap L ∧ FrameEnd s o U' L ({ frames := 2, cells := 0, slots := 0, locals := 42 } : Room).cells ({ frames := 2, cells := 0, slots := 0, locals := 42 } : Room).slots)) (castTop (g' := (mkF m 0 #[.val (.ref a1), .val (.int (1 : Int32)), .val (.long q2), .second] [])) (by first | rfl | simp [entryFrame, mkF, argsToLocals, Value.category]) (T := s₁)) ?_
  refine Go.st (fun t k => XS.aloadN X0.here hx rfl (hb hby d10_0) rfl rfl k) ?_
  show Go p e below _ (s₁.setTop (mkF m 1 #[.val (.ref a1), .val (.int (1 : Int32)), .val (.long q2), .second] [(.ref a1)]))
  refine Go.st (fun t k => XS.iloadN X0.here hx rfl (hb hby d10_1) rfl k) ?_
  show Go p e below _ (s₁.setTop (mkF m 2 #[.val (.ref a1), .val (.int (1 : Int32)), .val (.long q2), .second] [(.int (1 : Int32)), (.ref a1)]))
  refine Go.st (fun t k => XS.iconst X0.here hx rfl (hb hby d10_2) k) ?_
  show Go p e below _ (s₁.setTop (mkF m 3 #[.val (.ref a1), .val (.int (1 : Int32)), .val (.long q2), .second] [(.int (0 : Int32)), (.int (1 : Int32)), (.ref a1)]))
  refine Go.st (fun t k => XS.lloadN X0.here hx rfl (hb hby d10_3) rfl k) ?_
  show Go p e below _ (s₁.setTop (mkF m 4 #[.val (.ref a1), .val (.int (1 : Int32)), .val (.long q2), .second] [(.long q2), (.int (0 : Int32)), (.int (1 : Int32)), (.ref a1)]))
  obtain ⟨_, _, ⟨T1, L1, k1, n1⟩, -, X1, ⟨Lc1, hQ1, l1, y1, z1⟩, st1⟩ := Jvm.LawKit.callS X0 hx (y := (⟨"com/example/envelop/envelop/plan/Zone", "atMost", "(J)J"⟩ : MethodName)) hown (mvT hZ (w47 hw)) (mvT hZ (w48 hw)) (mvT hZ (w2 hw)) (mvT hZ (w49 hw)) (by decide) (backOf (W := 3) (rm9_1 l Z a0 hw [] q2 h0 n0 O0 ) hZ (w49 hw) (w2 hw) (by decide) (by decide)) (g := (mkF m 4 #[.val (.ref a1), .val (.int (1 : Int32)), .val (.long q2), .second] [(.long q2), (.int (0 : Int32)), (.int (1 : Int32)), (.ref a1)])) rfl (by rw [hml]; rfl) (argsL := [(.long q2)]) (rest := [(.int (0 : Int32)), (.int (1 : Int32)), (.ref a1)]) (lenOf pd_5 rfl) rfl (by show 2 * 0 + _ ≤ _; exact Nat.le_of_eq rfl) (hb hby d10_4) (fun vm₁ hw₁ => ⟨rfl, e0, (by decide : 0 + 0 ≤ _), (by decide : 0 + 0 ≤ _)⟩)
  dsimp only [Pt.U, Pt.locs, Pt.cells, Pt.slots] at X1 l1 y1 z1 st1 hQ1
  subst l1 y1 z1
  obtain ⟨rfl, M1, eh1⟩ := hQ1
  have N1 := Fr.app N0 M1
  refine Go.st st1 ?_
  show Go p e below _ (T1.setTop (mkF m 7 #[.val (.ref a1), .val (.int (1 : Int32)), .val (.long q2), .second] [(.long ((q2 <<< ((1 : Int32) &&& 0x3f).toInt64) ||| (1 : Int64))), (.int (0 : Int32)), (.int (1 : Int32)), (.ref a1)]))
  obtain ⟨cq2, u2, u2'⟩ := P1.cell
  obtain ⟨_, _, ⟨T2, L2, k2, n2⟩, -, X2, ⟨Lc2, hQ2, l2, y2, z2⟩, st2⟩ := X1.privateBack hx (y := (⟨"com/example/envelop/envelop/plan/Zone", "constrain", "(IIJ)Lcom/example/envelop/envelop/plan/Zone;"⟩ : MethodName)) hown (mvT hZ (w55 hw)) (mvT hZ (w56 hw)) (own_selP hZ (w5 hw) (w57 hw) (w56 hw) (by decide)) (Cond.privateMethod_at (mvP hZ (w57 hw) (args := #[]))) (mvT hZ (w58 hw)) (by decide) (backOf (W := 0) (rm11_1 l Z a0 hw [] a1 ((q2 <<< ((1 : Int32) &&& 0x3f).toInt64) ||| (1 : Int64)) a3 k4 h0 n0 O0 P1 P2 P3 P4 P5 P6 P7) hZ (w58 hw) (w2 hw) (by decide) (by decide)) (g := (mkF m 7 #[.val (.ref a1), .val (.int (1 : Int32)), .val (.long q2), .second] [(.long ((q2 <<< ((1 : Int32) &&& 0x3f).toInt64) ||| (1 : Int64))), (.int (0 : Int32)), (.int (1 : Int32)), (.ref a1)])) rfl (by rw [hml]; rfl) (Steps.refl _) (a := a1) (by rw [eh1]; exact u2) u2' (argsL := [(.int (1 : Int32)), (.int (0 : Int32)), (.long ((q2 <<< ((1 : Int32) &&& 0x3f).toInt64) ||| (1 : Int64)))]) (rest := []) (lenOf pd_8 rfl) rfl (by show 2 * 0 + _ ≤ _; exact Nat.le_of_eq rfl) (hb hby d10_7) (fun vm₁ hw₁ => ⟨rfl, eh1, (by decide : 0 + 0 ≤ _), (by decide : 0 + 0 ≤ _)⟩)
  dsimp only [Pt.U, Pt.locs, Pt.cells, Pt.slots] at X2 l2 y2 z2 st2 hQ2
  subst l2 y2 z2
  obtain ⟨rfl, M2, eh2⟩ := hQ2
  have N2 := Fr.app N1 M2
  refine Go.tr st2 ?_
  show Go p e below _ (T2.setTop (mkF m 10 #[.val (.ref a1), .val (.int (1 : Int32)), .val (.long q2), .second] [.null]))
  obtain ⟨fs, hr, hrun, hended, hWd, hsame⟩ := X2.leave (v := some .null) (fun h => by rw [Bd.returns] at h; cases h)
  refine ⟨_, _, ?_, hrun, hended, _, _, rfl, ?_, ⟨⟨_, rfl⟩, hWd, hsame.mono (by decide) (by decide)⟩⟩
  · exact own_retA X2 hx Bd.returns rfl rfl (hb hby d10_10) hr
  · show Q_rm10_1 Z a1 q2 a3 k4 h0 n0 _ T2.heap _
    rw [eh2]
    exact ⟨rfl, N2, rfl⟩
def Q_rm7_3 (Z : State) (a1 : Addr) (a2 : Addr) (k3 : ClassId) (h0 : Heap) (n0 : Nat) (v : Option Value) (h : Heap) (L : List Loc) : Prop := v = some (.long (1 : Int64)) ∧ Fr n0 L ∧ h = h0
set_option maxRecDepth 65536 in
set_option maxHeartbeats 40000000 in
theorem rm7_3 (l : Launch) (Z : State) (a0 : Array Value) (hw : ∀ d ∈ tables_1, d.before a0 Z = true) (ws : List Jvm.Cond) (a1 : Addr) (a2 : Addr) (k3 : ClassId) (h0 : Heap) (n0 : Nat) (O0 : Old Z n0 h0) (P1 : Fld Z h0 a1 "com/example/envelop/envelop/plan/Zone" "bounds" "[J" (.ref a2)) (P2 : Fld Z h0 a1 "com/example/envelop/envelop/plan/Zone" "size" "I" (.int (2 : Int32))) (P3 : Arv Z h0 a2 k3 .long (4 : Int32) [(.long (1 : Int64)), (.long (1 : Int64)), (.long (1 : Int64)), (.long (1 : Int64))] (.long (0 : Int64))) :
    MetFree l (⟨"com/example/envelop/envelop/plan/Zone", "get", "(II)J"⟩ : MethodName) (head1 (Jvm.Cond.code (⟨"com/example/envelop/envelop/plan/Zone", "get", "(II)J"⟩ : MethodName) prog_71_method_7_code 3 (some .long) :: ws) ({ frames := 0, cells := 0, slots := 0, locals := 0 } : Room)) (fun a U => a = #[(.ref a1), (.int (1 : Int32)), (.int (0 : Int32))] ∧ Z.Warmed39 U.vm ∧ U.heap = h0) (fun _ _ _ _ _ => True) (fun _ U o U' => ∃ v L, o = .returned v ∧ Q_rm7_3 Z a1 a2 k3 h0 n0 v U'.heap L ∧ FrameEnd U o U' L ({ frames := 0, cells := 0, slots := 0, locals := 0 } : Room).cells ({ frames := 0, cells := 0, slots := 0, locals := 0 } : Room).slots) := by
  refine MetFree.of_bodySF (plainFor_of_name pn_0) hisR ?_
  intro p e s m args below meth c s₁ Bd hml0 hP hK
  obtain ⟨rfl, hZ, hh⟩ := hP
  have hx := Bd.exec
  have hby := Bd.bytes
  have hml : c.maxLocals = 3 := hml0
  have hown : s.vm.findClass "com/example/envelop/envelop/plan/Zone" = some m.cls := findClass_of_methodNamed Bd.named
  have hnm := (name_of_methodNamed Bd.named Bd.method).1
  have X0 : Stand p l e ({ frames := 0, cells := 0, slots := 0, locals := 0 } : Room) s m #[(.ref a1), (.int (1 : Int32)), (.int (0 : Int32))] below meth c s₁ [] 0 0 := Stand.of_body Bd
  have e0 : s₁.heap = h0 := by rw [← hh, Bd.state]; rfl
  have N0 := Fr.nil n0
  refine Go.start (P := (fun o U' => ∃ v L, o = .returned v ∧ Q_rm7_3 Z a1 a2 k3 h0 n0 v U'.heap L ∧ FrameEnd s o U' L ({ frames := 0, cells := 0, slots := 0, locals := 0 } : Room).cells ({ frames := 0, cells := 0, slots := 0, locals := 0 } : Room).slots)) (castTop (g' := (mkF m 0 #[.val (.ref a1), .val (.int (1 : Int32)), .val (.int (0 : Int32))] [])) (by first | rfl | simp [entryFrame, mkF, argsToLocals, Value.category]) (T := s₁)) ?_
  refine Go.st (fun t k => XS.aloadN X0.here hx rfl (hb hby d7_0) rfl rfl k) ?_
  show Go p e below _ (s₁.setTop (mkF m 1 #[.val (.ref a1), .val (.int (1 : Int32)), .val (.int (0 : Int32))] [(.ref a1)]))
  obtain ⟨T1, X1, e1, st1⟩ := getF X0 hx hZ hown (host := "") (Or.inl (w17 hw)) Via.refl e0 P1 (g := (mkF m 1 #[.val (.ref a1), .val (.int (1 : Int32)), .val (.int (0 : Int32))] [(.ref a1)])) rfl rfl (hb hby d7_1)
  refine Go.st st1 ?_
  show Go p e below _ (T1.setTop (mkF m 4 #[.val (.ref a1), .val (.int (1 : Int32)), .val (.int (0 : Int32))] [(.ref a2)]))
  refine Go.st (fun t k => XS.iloadN X1.here hx rfl (hb hby d7_4) rfl k) ?_
  show Go p e below _ (T1.setTop (mkF m 5 #[.val (.ref a1), .val (.int (1 : Int32)), .val (.int (0 : Int32))] [(.int (1 : Int32)), (.ref a2)]))
  refine Go.st (fun t k => XS.aloadN X1.here hx rfl (hb hby d7_5) rfl rfl k) ?_
  show Go p e below _ (T1.setTop (mkF m 6 #[.val (.ref a1), .val (.int (1 : Int32)), .val (.int (0 : Int32))] [(.ref a1), (.int (1 : Int32)), (.ref a2)]))
  obtain ⟨T2, X2, e2, st2⟩ := getF X1 hx hZ hown (host := "") (Or.inl (w15 hw)) Via.refl e1 P2 (g := (mkF m 6 #[.val (.ref a1), .val (.int (1 : Int32)), .val (.int (0 : Int32))] [(.ref a1), (.int (1 : Int32)), (.ref a2)])) rfl rfl (hb hby d7_6)
  refine Go.st st2 ?_
  show Go p e below _ (T2.setTop (mkF m 9 #[.val (.ref a1), .val (.int (1 : Int32)), .val (.int (0 : Int32))] [(.int (2 : Int32)), (.int (1 : Int32)), (.ref a2)]))
  refine Go.st (fun t k => XS.imul X2.here hx rfl (hb hby d7_9) rfl k) ?_
  show Go p e below _ (T2.setTop (mkF m 10 #[.val (.ref a1), .val (.int (1 : Int32)), .val (.int (0 : Int32))] [(.int (2 : Int32)), (.ref a2)]))
  refine Go.st (fun t k => XS.iloadN X2.here hx rfl (hb hby d7_10) rfl k) ?_
  show Go p e below _ (T2.setTop (mkF m 11 #[.val (.ref a1), .val (.int (1 : Int32)), .val (.int (0 : Int32))] [(.int (0 : Int32)), (.int (2 : Int32)), (.ref a2)]))
  refine Go.st (fun t k => XS.iadd X2.here hx rfl (hb hby d7_11) rfl k) ?_
  show Go p e below _ (T2.setTop (mkF m 12 #[.val (.ref a1), .val (.int (1 : Int32)), .val (.int (0 : Int32))] [(.int (2 : Int32)), (.ref a2)]))
  obtain ⟨cl3, Ar3, q3, S3, M3, H3, G3⟩ := id P3
  have hin3 : ¬ ((2 : Int32) < 0 ∨ cl3.slots.size ≤ ((2 : Int32)).toNatClampNeg) := inb_of S3 ⟨by decide, by decide⟩
  have hat3 : cl3.slots[((2 : Int32)).toNatClampNeg]? = some (.long (1 : Int64)) := H3.at hin3 rfl
  refine Go.st (fun t k => X2.laload hx (j := (2 : Int32)) (v := (.long (1 : Int64))) (by rw [e2]; exact Ar3.1) (State.isArrayOf_alike hZ.alike Ar3.2.1) Ar3.2.2 hin3 hat3 (g := (mkF m 12 #[.val (.ref a1), .val (.int (1 : Int32)), .val (.int (0 : Int32))] [(.int (2 : Int32)), (.ref a2)])) rfl rfl (hb hby d7_12) t k) ?_
  show Go p e below _ (T2.setTop (mkF m 13 #[.val (.ref a1), .val (.int (1 : Int32)), .val (.int (0 : Int32))] [(.long (1 : Int64))]))
  obtain ⟨fs, hr, hrun, hended, hWd, hsame⟩ := X2.leave (v := some (.long (1 : Int64))) (fun h => by rw [Bd.returns] at h; cases h)
  refine ⟨_, _, ?_, hrun, hended, _, _, rfl, ?_, ⟨⟨_, rfl⟩, hWd, hsame.mono (by decide) (by decide)⟩⟩
  · exact X2.lreturnOut hx Bd.returns (hb hby d7_13) hr
  · show Q_rm7_3 Z a1 a2 k3 h0 n0 _ T2.heap _
    rw [e2]
    exact ⟨rfl, N0, rfl⟩
def Q_rm11_2 (Z : State) (a1 : Addr) (q2 : Int64) (a3 : Addr) (k4 : ClassId) (h0 : Heap) (n0 : Nat) (v : Option Value) (h : Heap) (L : List Loc) : Prop := v = some (.ref a1) ∧ Fr n0 L ∧ h = h0
set_option maxRecDepth 65536 in
set_option maxHeartbeats 40000000 in
theorem rm11_2 (l : Launch) (Z : State) (a0 : Array Value) (hw : ∀ d ∈ tables_1, d.before a0 Z = true) (ws : List Jvm.Cond) (a1 : Addr) (q2 : Int64) (a3 : Addr) (k4 : ClassId) (h0 : Heap) (n0 : Nat) (O0 : Old Z n0 h0) (P1 : Exa Z h0 a1 "com/example/envelop/envelop/plan/Zone") (P2 : Fld Z h0 a1 "com/example/envelop/envelop/plan/Zone" "bounds" "[J" (.ref a3)) (P3 : Fld Z h0 a1 "com/example/envelop/envelop/plan/Zone" "size" "I" (.int (2 : Int32))) (P4 : Arv Z h0 a3 k4 .long (4 : Int32) [(.long (1 : Int64)), (.long (1 : Int64)), (.long (1 : Int64)), (.long (1 : Int64))] (.long (0 : Int64))) (P5 : ¬ (q2 = (9223372036854775807 : Int64))) (P6 : Sta Z Z.heap "com/example/envelop/envelop/plan/Zone" "ZERO" "J" (.long (1 : Int64))) (P7 : ¬ (((((q2 >>> ((1 : Int32) &&& 0x3f).toInt64) + (0 : Int64)) <<< ((1 : Int32) &&& 0x3f).toInt64) ||| ((q2 &&& (1 : Int64)) &&& (1 : Int64))) < (1 : Int64))) (P8 : ¬ (q2 < (1 : Int64))) :
    MetFree l (⟨"com/example/envelop/envelop/plan/Zone", "constrain", "(IIJ)Lcom/example/envelop/envelop/plan/Zone;"⟩ : MethodName) (head1 (Jvm.Cond.code (⟨"com/example/envelop/envelop/plan/Zone", "constrain", "(IIJ)Lcom/example/envelop/envelop/plan/Zone;"⟩ : MethodName) prog_71_method_12_code 15 (some (.object "com/example/envelop/envelop/plan/Zone")) :: ws) ({ frames := 1, cells := 0, slots := 0, locals := 16 } : Room)) (fun a U => a = #[(.ref a1), (.int (0 : Int32)), (.int (1 : Int32)), (.long q2)] ∧ Z.Warmed39 U.vm ∧ U.heap = h0) (fun _ _ _ _ _ => True) (fun _ U o U' => ∃ v L, o = .returned v ∧ Q_rm11_2 Z a1 q2 a3 k4 h0 n0 v U'.heap L ∧ FrameEnd U o U' L ({ frames := 1, cells := 0, slots := 0, locals := 16 } : Room).cells ({ frames := 1, cells := 0, slots := 0, locals := 16 } : Room).slots) := by
  refine MetFree.of_bodySF (plainFor_of_name pn_0) hisR ?_
  intro p e s m args below meth c s₁ Bd hml0 hP hK
  obtain ⟨rfl, hZ, hh⟩ := hP
  have hx := Bd.exec
  have hby := Bd.bytes
  have hml : c.maxLocals = 15 := hml0
  have hown : s.vm.findClass "com/example/envelop/envelop/plan/Zone" = some m.cls := findClass_of_methodNamed Bd.named
  have hnm := (name_of_methodNamed Bd.named Bd.method).1
  have X0 : Stand p l e ({ frames := 1, cells := 0, slots := 0, locals := 16 } : Room) s m #[(.ref a1), (.int (0 : Int32)), (.int (1 : Int32)), (.long q2)] below meth c s₁ [] 0 0 := Stand.of_body Bd
  have e0 : s₁.heap = h0 := by rw [← hh, Bd.state]; rfl
  have N0 := Fr.nil n0
  refine Go.start (P := (fun o U' => ∃ v L, o = .returned v ∧ Q_rm11_2 Z a1 q2 a3 k4 h0 n0 v U'.heap L ∧ FrameEnd s o U' L ({ frames := 1, cells := 0, slots := 0, locals := 16 } : Room).cells ({ frames := 1, cells := 0, slots := 0, locals := 16 } : Room).slots)) (castTop (g' := (mkF m 0 #[.val (.ref a1), .val (.int (0 : Int32)), .val (.int (1 : Int32)), .val (.long q2), .second, .unset, .unset, .unset, .unset, .unset, .unset, .unset, .unset, .unset, .unset] [])) (by first | rfl | simp [entryFrame, mkF, argsToLocals, Value.category]) (T := s₁)) ?_
  refine Go.st (fun t k => XS.lloadN X0.here hx rfl (hb hby d11_0) rfl k) ?_
  show Go p e below _ (s₁.setTop (mkF m 1 #[.val (.ref a1), .val (.int (0 : Int32)), .val (.int (1 : Int32)), .val (.long q2), .second, .unset, .unset, .unset, .unset, .unset, .unset, .unset, .unset, .unset, .unset] [(.long q2)]))
  refine Go.st (fun t k => XS.aloadN X0.here hx rfl (hb hby d11_1) rfl rfl k) ?_
  show Go p e below _ (s₁.setTop (mkF m 2 #[.val (.ref a1), .val (.int (0 : Int32)), .val (.int (1 : Int32)), .val (.long q2), .second, .unset, .unset, .unset, .unset, .unset, .unset, .unset, .unset, .unset, .unset] [(.ref a1), (.long q2)]))
  refine Go.st (fun t k => XS.iloadN X0.here hx rfl (hb hby d11_2) rfl k) ?_
  show Go p e below _ (s₁.setTop (mkF m 3 #[.val (.ref a1), .val (.int (0 : Int32)), .val (.int (1 : Int32)), .val (.long q2), .second, .unset, .unset, .unset, .unset, .unset, .unset, .unset, .unset, .unset, .unset] [(.int (1 : Int32)), (.ref a1), (.long q2)]))
  refine Go.st (fun t k => XS.iloadN X0.here hx rfl (hb hby d11_3) rfl k) ?_
  show Go p e below _ (s₁.setTop (mkF m 4 #[.val (.ref a1), .val (.int (0 : Int32)), .val (.int (1 : Int32)), .val (.long q2), .second, .unset, .unset, .unset, .unset, .unset, .unset, .unset, .unset, .unset, .unset] [(.int (0 : Int32)), (.int (1 : Int32)), (.ref a1), (.long q2)]))
  obtain ⟨cq1, u1, u1'⟩ := P1.cell
  obtain ⟨_, _, ⟨T1, L1, k1, n1⟩, -, X1, ⟨Lc1, hQ1, l1, y1, z1⟩, st1⟩ := X0.privateBack hx (y := (⟨"com/example/envelop/envelop/plan/Zone", "get", "(II)J"⟩ : MethodName)) hown (mvT hZ (w38 hw)) (mvT hZ (w39 hw)) (own_selP hZ (w5 hw) (w40 hw) (w39 hw) (by decide)) (Cond.privateMethod_at (mvP hZ (w40 hw) (args := #[]))) (mvT hZ (w41 hw)) (by decide) (backOf (W := 2) (rm7_3 l Z a0 hw [] a1 a3 k4 h0 n0 O0 P2 P3 P4) hZ (w41 hw) (w2 hw) (by decide) (by decide)) (g := (mkF m 4 #[.val (.ref a1), .val (.int (0 : Int32)), .val (.int (1 : Int32)), .val (.long q2), .second, .unset, .unset, .unset, .unset, .unset, .unset, .unset, .unset, .unset, .unset] [(.int (0 : Int32)), (.int (1 : Int32)), (.ref a1), (.long q2)])) rfl (by rw [hml]; rfl) (Steps.refl _) (a := a1) (by rw [e0]; exact u1) u1' (argsL := [(.int (1 : Int32)), (.int (0 : Int32))]) (rest := [(.long q2)]) (lenOf pd_4 rfl) rfl (by show 2 * 0 + _ ≤ _; exact Nat.le_of_eq rfl) (hb hby d11_4) (fun vm₁ hw₁ => ⟨rfl, e0, (by decide : 0 + 0 ≤ _), (by decide : 0 + 0 ≤ _)⟩)
  dsimp only [Pt.U, Pt.locs, Pt.cells, Pt.slots] at X1 l1 y1 z1 st1 hQ1
  subst l1 y1 z1
  obtain ⟨rfl, M1, eh1⟩ := hQ1
  have N1 := Fr.app N0 M1
  refine Go.tr st1 ?_
  show Go p e below _ (T1.setTop (mkF m 7 #[.val (.ref a1), .val (.int (0 : Int32)), .val (.int (1 : Int32)), .val (.long q2), .second, .unset, .unset, .unset, .unset, .unset, .unset, .unset, .unset, .unset, .unset] [(.long (1 : Int64)), (.long q2)]))
  obtain ⟨_, _, ⟨T2, L2, k2, n2⟩, -, X2, ⟨Lc2, hQ2, l2, y2, z2⟩, st2⟩ := Jvm.LawKit.callS X1 hx (y := (⟨"com/example/envelop/envelop/plan/Zone", "sum", "(JJ)J"⟩ : MethodName)) hown (mvT hZ (w59 hw)) (mvT hZ (w60 hw)) (mvT hZ (w2 hw)) (mvT hZ (w61 hw)) (by decide) (backOf (W := 0) (rm12_1 l Z a0 hw [] q2 h0 n0 O0 P5) hZ (w61 hw) (w2 hw) (by decide) (by decide)) (g := (mkF m 7 #[.val (.ref a1), .val (.int (0 : Int32)), .val (.int (1 : Int32)), .val (.long q2), .second, .unset, .unset, .unset, .unset, .unset, .unset, .unset, .unset, .unset, .unset] [(.long (1 : Int64)), (.long q2)])) rfl (by rw [hml]; rfl) (argsL := [(.long q2), (.long (1 : Int64))]) (rest := []) (lenOf pd_7 rfl) rfl (by show 2 * 0 + _ ≤ _; exact Nat.le_of_eq rfl) (hb hby d11_7) (fun vm₁ hw₁ => ⟨rfl, eh1, (by decide : 0 + 0 ≤ _), (by decide : 0 + 0 ≤ _)⟩)
  dsimp only [Pt.U, Pt.locs, Pt.cells, Pt.slots] at X2 l2 y2 z2 st2 hQ2
  subst l2 y2 z2
  obtain ⟨rfl, M2, eh2⟩ := hQ2
  have N2 := Fr.app N1 M2
  refine Go.st st2 ?_
  show Go p e below _ (T2.setTop (mkF m 10 #[.val (.ref a1), .val (.int (0 : Int32)), .val (.int (1 : Int32)), .val (.long q2), .second, .unset, .unset, .unset, .unset, .unset, .unset, .unset, .unset, .unset, .unset] [(.long ((((q2 >>> ((1 : Int32) &&& 0x3f).toInt64) + (0 : Int64)) <<< ((1 : Int32) &&& 0x3f).toInt64) ||| ((q2 &&& (1 : Int64)) &&& (1 : Int64))))]))
  obtain ⟨T3, X3, e3, st3⟩ := getS2 X2 hx hZ hown (host := "") (Or.inl (w7 hw)) Via.refl eh2 (P6.ext O0.2) (g := (mkF m 10 #[.val (.ref a1), .val (.int (0 : Int32)), .val (.int (1 : Int32)), .val (.long q2), .second, .unset, .unset, .unset, .unset, .unset, .unset, .unset, .unset, .unset, .unset] [(.long ((((q2 >>> ((1 : Int32) &&& 0x3f).toInt64) + (0 : Int64)) <<< ((1 : Int32) &&& 0x3f).toInt64) ||| ((q2 &&& (1 : Int64)) &&& (1 : Int64))))])) rfl (hb hby d11_10)
  refine Go.st st3 ?_
  show Go p e below _ (T3.setTop (mkF m 13 #[.val (.ref a1), .val (.int (0 : Int32)), .val (.int (1 : Int32)), .val (.long q2), .second, .unset, .unset, .unset, .unset, .unset, .unset, .unset, .unset, .unset, .unset] [(.long (1 : Int64)), (.long ((((q2 >>> ((1 : Int32) &&& 0x3f).toInt64) + (0 : Int64)) <<< ((1 : Int32) &&& 0x3f).toInt64) ||| ((q2 &&& (1 : Int64)) &&& (1 : Int64))))]))
  refine Go.st (fun t k => Jvm.Free.XT.lcmp X3.here hx rfl (hb hby d11_13) rfl k) ?_
  show Go p e below _ (T3.setTop (mkF m 14 #[.val (.ref a1), .val (.int (0 : Int32)), .val (.int (1 : Int32)), .val (.long q2), .second, .unset, .unset, .unset, .unset, .unset, .unset, .unset, .unset, .unset, .unset] [(.int (Jvm.Free.XT.cmpL ((((q2 >>> ((1 : Int32) &&& 0x3f).toInt64) + (0 : Int64)) <<< ((1 : Int32) &&& 0x3f).toInt64) ||| ((q2 &&& (1 : Int64)) &&& (1 : Int64))) (1 : Int64)))]))
  refine Go.st (fun t k => XS.ifYes X3.here hx rfl (pc0 := 14) (pc' := 19) rfl (hb hby d11_14) rfl (Jvm.Free.XT.ll_ge_t P7) (by decide) (by decide) k) ?_
  show Go p e below _ (T3.setTop (mkF m 19 #[.val (.ref a1), .val (.int (0 : Int32)), .val (.int (1 : Int32)), .val (.long q2), .second, .unset, .unset, .unset, .unset, .unset, .unset, .unset, .unset, .unset, .unset] []))
  refine Go.st (fun t k => XS.aloadN X3.here hx rfl (hb hby d11_19) rfl rfl k) ?_
  show Go p e below _ (T3.setTop (mkF m 20 #[.val (.ref a1), .val (.int (0 : Int32)), .val (.int (1 : Int32)), .val (.long q2), .second, .unset, .unset, .unset, .unset, .unset, .unset, .unset, .unset, .unset, .unset] [(.ref a1)]))
  refine Go.st (fun t k => XS.astore X3.here hx rfl (hb hby d11_20) rfl rfl (l' := #[.val (.ref a1), .val (.int (0 : Int32)), .val (.int (1 : Int32)), .val (.long q2), .second, .val (.ref a1), .unset, .unset, .unset, .unset, .unset, .unset, .unset, .unset, .unset]) rfl k) ?_
  show Go p e below _ (T3.setTop (mkF m 22 #[.val (.ref a1), .val (.int (0 : Int32)), .val (.int (1 : Int32)), .val (.long q2), .second, .val (.ref a1), .unset, .unset, .unset, .unset, .unset, .unset, .unset, .unset, .unset] []))
  refine Go.st (fun t k => XS.lloadN X3.here hx rfl (hb hby d11_22) rfl k) ?_
  show Go p e below _ (T3.setTop (mkF m 23 #[.val (.ref a1), .val (.int (0 : Int32)), .val (.int (1 : Int32)), .val (.long q2), .second, .val (.ref a1), .unset, .unset, .unset, .unset, .unset, .unset, .unset, .unset, .unset] [(.long q2)]))
  refine Go.st (fun t k => XS.aloadN X3.here hx rfl (hb hby d11_23) rfl rfl k) ?_
  show Go p e below _ (T3.setTop (mkF m 24 #[.val (.ref a1), .val (.int (0 : Int32)), .val (.int (1 : Int32)), .val (.long q2), .second, .val (.ref a1), .unset, .unset, .unset, .unset, .unset, .unset, .unset, .unset, .unset] [(.ref a1), (.long q2)]))
  refine Go.st (fun t k => XS.iloadN X3.here hx rfl (hb hby d11_24) rfl k) ?_
  show Go p e below _ (T3.setTop (mkF m 25 #[.val (.ref a1), .val (.int (0 : Int32)), .val (.int (1 : Int32)), .val (.long q2), .second, .val (.ref a1), .unset, .unset, .unset, .unset, .unset, .unset, .unset, .unset, .unset] [(.int (0 : Int32)), (.ref a1), (.long q2)]))
  refine Go.st (fun t k => XS.iloadN X3.here hx rfl (hb hby d11_25) rfl k) ?_
  show Go p e below _ (T3.setTop (mkF m 26 #[.val (.ref a1), .val (.int (0 : Int32)), .val (.int (1 : Int32)), .val (.long q2), .second, .val (.ref a1), .unset, .unset, .unset, .unset, .unset, .unset, .unset, .unset, .unset] [(.int (1 : Int32)), (.int (0 : Int32)), (.ref a1), (.long q2)]))
  obtain ⟨cq4, u4, u4'⟩ := P1.cell
  obtain ⟨_, _, ⟨T4, L4, k4, n4⟩, -, X4, ⟨Lc4, hQ4, l4, y4, z4⟩, st4⟩ := X3.privateBack hx (y := (⟨"com/example/envelop/envelop/plan/Zone", "get", "(II)J"⟩ : MethodName)) hown (mvT hZ (w38 hw)) (mvT hZ (w39 hw)) (own_selP hZ (w5 hw) (w40 hw) (w39 hw) (by decide)) (Cond.privateMethod_at (mvP hZ (w40 hw) (args := #[]))) (mvT hZ (w41 hw)) (by decide) (backOf (W := 2) (rm7_2 l Z a0 hw [] a1 a3 k4 h0 n0 O0 P2 P3 P4) hZ (w41 hw) (w2 hw) (by decide) (by decide)) (g := (mkF m 26 #[.val (.ref a1), .val (.int (0 : Int32)), .val (.int (1 : Int32)), .val (.long q2), .second, .val (.ref a1), .unset, .unset, .unset, .unset, .unset, .unset, .unset, .unset, .unset] [(.int (1 : Int32)), (.int (0 : Int32)), (.ref a1), (.long q2)])) rfl (by rw [hml]; rfl) (Steps.refl _) (a := a1) (by rw [e3]; exact u4) u4' (argsL := [(.int (0 : Int32)), (.int (1 : Int32))]) (rest := [(.long q2)]) (lenOf pd_4 rfl) rfl (by show 2 * 0 + _ ≤ _; exact Nat.le_of_eq rfl) (hb hby d11_26) (fun vm₁ hw₁ => ⟨rfl, e3, (by decide : 0 + 0 ≤ _), (by decide : 0 + 0 ≤ _)⟩)
  dsimp only [Pt.U, Pt.locs, Pt.cells, Pt.slots] at X4 l4 y4 z4 st4 hQ4
  subst l4 y4 z4
  obtain ⟨rfl, M4, eh4⟩ := hQ4
  have N4 := Fr.app N2 M4
  refine Go.tr st4 ?_
  show Go p e below _ (T4.setTop (mkF m 29 #[.val (.ref a1), .val (.int (0 : Int32)), .val (.int (1 : Int32)), .val (.long q2), .second, .val (.ref a1), .unset, .unset, .unset, .unset, .unset, .unset, .unset, .unset, .unset] [(.long (1 : Int64)), (.long q2)]))
  refine Go.st (fun t k => Jvm.Free.XT.lcmp X4.here hx rfl (hb hby d11_29) rfl k) ?_
  show Go p e below _ (T4.setTop (mkF m 30 #[.val (.ref a1), .val (.int (0 : Int32)), .val (.int (1 : Int32)), .val (.long q2), .second, .val (.ref a1), .unset, .unset, .unset, .unset, .unset, .unset, .unset, .unset, .unset] [(.int (Jvm.Free.XT.cmpL q2 (1 : Int64)))]))
  refine Go.st (fun t k => XS.ifYes X4.here hx rfl (pc0 := 30) (pc' := 178) rfl (hb hby d11_30) rfl (Jvm.Free.XT.ll_ge_t P8) (by decide) (by decide) k) ?_
  show Go p e below _ (T4.setTop (mkF m 178 #[.val (.ref a1), .val (.int (0 : Int32)), .val (.int (1 : Int32)), .val (.long q2), .second, .val (.ref a1), .unset, .unset, .unset, .unset, .unset, .unset, .unset, .unset, .unset] []))
  refine Go.st (fun t k => XS.aload X4.here hx rfl (hb hby d11_178) rfl rfl k) ?_
  show Go p e below _ (T4.setTop (mkF m 180 #[.val (.ref a1), .val (.int (0 : Int32)), .val (.int (1 : Int32)), .val (.long q2), .second, .val (.ref a1), .unset, .unset, .unset, .unset, .unset, .unset, .unset, .unset, .unset] [(.ref a1)]))
  obtain ⟨fs, hr, hrun, hended, hWd, hsame⟩ := X4.leave (v := some (.ref a1)) (fun h => by rw [Bd.returns] at h; cases h)
  refine ⟨_, _, ?_, hrun, hended, _, _, rfl, ?_, ⟨⟨_, rfl⟩, hWd, hsame.mono (by decide) (by decide)⟩⟩
  · exact own_retA X4 hx Bd.returns rfl rfl (hb hby d11_180) hr
  · show Q_rm11_2 Z a1 q2 a3 k4 h0 n0 _ T4.heap _
    rw [eh4]
    exact ⟨rfl, N4, rfl⟩
def Q_rm13_1 (Z : State) (a1 : Addr) (q2 : Int64) (a3 : Addr) (k4 : ClassId) (h0 : Heap) (n0 : Nat) (v : Option Value) (h : Heap) (L : List Loc) : Prop := v = some (.ref a1) ∧ Fr n0 L ∧ h = h0
set_option maxRecDepth 65536 in
set_option maxHeartbeats 40000000 in
theorem rm13_1 (l : Launch) (Z : State) (a0 : Array Value) (hw : ∀ d ∈ tables_1, d.before a0 Z = true) (ws : List Jvm.Cond) (a1 : Addr) (q2 : Int64) (a3 : Addr) (k4 : ClassId) (h0 : Heap) (n0 : Nat) (O0 : Old Z n0 h0) (P1 : Exa Z h0 a1 "com/example/envelop/envelop/plan/Zone") (P2 : Fld Z h0 a1 "com/example/envelop/envelop/plan/Zone" "bounds" "[J" (.ref a3)) (P3 : Fld Z h0 a1 "com/example/envelop/envelop/plan/Zone" "size" "I" (.int (2 : Int32))) (P4 : Arv Z h0 a3 k4 .long (4 : Int32) [(.long (1 : Int64)), (.long (1 : Int64)), (.long (1 : Int64)), (.long (1 : Int64))] (.long (0 : Int64))) (P5 : ¬ ((((-q2) <<< ((1 : Int32) &&& 0x3f).toInt64) ||| (1 : Int64)) = (9223372036854775807 : Int64))) (P6 : Sta Z Z.heap "com/example/envelop/envelop/plan/Zone" "ZERO" "J" (.long (1 : Int64))) (P7 : ¬ ((((((((-q2) <<< ((1 : Int32) &&& 0x3f).toInt64) ||| (1 : Int64)) >>> ((1 : Int32) &&& 0x3f).toInt64) + (0 : Int64)) <<< ((1 : Int32) &&& 0x3f).toInt64) ||| (((((-q2) <<< ((1 : Int32) &&& 0x3f).toInt64) ||| (1 : Int64)) &&& (1 : Int64)) &&& (1 : Int64))) < (1 : Int64))) (P8 : ¬ ((((-q2) <<< ((1 : Int32) &&& 0x3f).toInt64) ||| (1 : Int64)) < (1 : Int64))) :
    MetFree l (⟨"com/example/envelop/envelop/plan/Zone", "atLeast", "(IJ)Lcom/example/envelop/envelop/plan/Zone;"⟩ : MethodName) (head1 (Jvm.Cond.code (⟨"com/example/envelop/envelop/plan/Zone", "atLeast", "(IJ)Lcom/example/envelop/envelop/plan/Zone;"⟩ : MethodName) prog_71_method_10_code 4 (some (.object "com/example/envelop/envelop/plan/Zone")) :: ws) ({ frames := 2, cells := 0, slots := 0, locals := 42 } : Room)) (fun a U => a = #[(.ref a1), (.int (1 : Int32)), (.long q2)] ∧ Z.Warmed39 U.vm ∧ U.heap = h0) (fun _ _ _ _ _ => True) (fun _ U o U' => ∃ v L, o = .returned v ∧ Q_rm13_1 Z a1 q2 a3 k4 h0 n0 v U'.heap L ∧ FrameEnd U o U' L ({ frames := 2, cells := 0, slots := 0, locals := 42 } : Room).cells ({ frames := 2, cells := 0, slots := 0, locals := 42 } : Room).slots) := by
  refine MetFree.of_bodySF (plainFor_of_name pn_0) hisR ?_
  intro p e s m args below meth c s₁ Bd hml0 hP hK
  obtain ⟨rfl, hZ, hh⟩ := hP
  have hx := Bd.exec
  have hby := Bd.bytes
  have hml : c.maxLocals = 4 := hml0
  have hown : s.vm.findClass "com/example/envelop/envelop/plan/Zone" = some m.cls := findClass_of_methodNamed Bd.named
  have hnm := (name_of_methodNamed Bd.named Bd.method).1
  have X0 : Stand p l e ({ frames := 2, cells := 0, slots := 0, locals := 42 } : Room) s m #[(.ref a1), (.int (1 : Int32)), (.long q2)] below meth c s₁ [] 0 0 := Stand.of_body Bd
  have e0 : s₁.heap = h0 := by rw [← hh, Bd.state]; rfl
  have N0 := Fr.nil n0
  refine Go.start (P := (fun o U' => ∃ v L, o = .returned v ∧ Q_rm13_1 Z a1 q2 a3 k4 h0 n0 v U'.heap L ∧ FrameEnd s o U' L ({ frames := 2, cells := 0, slots := 0, locals := 42 } : Room).cells ({ frames := 2, cells := 0, slots := 0, locals := 42 } : Room).slots)) (castTop (g' := (mkF m 0 #[.val (.ref a1), .val (.int (1 : Int32)), .val (.long q2), .second] [])) (by first | rfl | simp [entryFrame, mkF, argsToLocals, Value.category]) (T := s₁)) ?_
  refine Go.st (fun t k => XS.aloadN X0.here hx rfl (hb hby d13_0) rfl rfl k) ?_
  show Go p e below _ (s₁.setTop (mkF m 1 #[.val (.ref a1), .val (.int (1 : Int32)), .val (.long q2), .second] [(.ref a1)]))
  refine Go.st (fun t k => XS.iconst X0.here hx rfl (hb hby d13_1) k) ?_
  show Go p e below _ (s₁.setTop (mkF m 2 #[.val (.ref a1), .val (.int (1 : Int32)), .val (.long q2), .second] [(.int (0 : Int32)), (.ref a1)]))
  refine Go.st (fun t k => XS.iloadN X0.here hx rfl (hb hby d13_2) rfl k) ?_
  show Go p e below _ (s₁.setTop (mkF m 3 #[.val (.ref a1), .val (.int (1 : Int32)), .val (.long q2), .second] [(.int (1 : Int32)), (.int (0 : Int32)), (.ref a1)]))
  refine Go.st (fun t k => XS.lloadN X0.here hx rfl (hb hby d13_3) rfl k) ?_
  show Go p e below _ (s₁.setTop (mkF m 4 #[.val (.ref a1), .val (.int (1 : Int32)), .val (.long q2), .second] [(.long q2), (.int (1 : Int32)), (.int (0 : Int32)), (.ref a1)]))
  refine Go.st (fun t k => XS.lneg X0.here hx rfl (hb hby d13_4) rfl k) ?_
  show Go p e below _ (s₁.setTop (mkF m 5 #[.val (.ref a1), .val (.int (1 : Int32)), .val (.long q2), .second] [(.long (-q2)), (.int (1 : Int32)), (.int (0 : Int32)), (.ref a1)]))
  obtain ⟨_, _, ⟨T1, L1, k1, n1⟩, -, X1, ⟨Lc1, hQ1, l1, y1, z1⟩, st1⟩ := Jvm.LawKit.callS X0 hx (y := (⟨"com/example/envelop/envelop/plan/Zone", "atMost", "(J)J"⟩ : MethodName)) hown (mvT hZ (w47 hw)) (mvT hZ (w48 hw)) (mvT hZ (w2 hw)) (mvT hZ (w49 hw)) (by decide) (backOf (W := 3) (rm9_1 l Z a0 hw [] (-q2) h0 n0 O0 ) hZ (w49 hw) (w2 hw) (by decide) (by decide)) (g := (mkF m 5 #[.val (.ref a1), .val (.int (1 : Int32)), .val (.long q2), .second] [(.long (-q2)), (.int (1 : Int32)), (.int (0 : Int32)), (.ref a1)])) rfl (by rw [hml]; rfl) (argsL := [(.long (-q2))]) (rest := [(.int (1 : Int32)), (.int (0 : Int32)), (.ref a1)]) (lenOf pd_5 rfl) rfl (by show 2 * 0 + _ ≤ _; exact Nat.le_of_eq rfl) (hb hby d13_5) (fun vm₁ hw₁ => ⟨rfl, e0, (by decide : 0 + 0 ≤ _), (by decide : 0 + 0 ≤ _)⟩)
  dsimp only [Pt.U, Pt.locs, Pt.cells, Pt.slots] at X1 l1 y1 z1 st1 hQ1
  subst l1 y1 z1
  obtain ⟨rfl, M1, eh1⟩ := hQ1
  have N1 := Fr.app N0 M1
  refine Go.st st1 ?_
  show Go p e below _ (T1.setTop (mkF m 8 #[.val (.ref a1), .val (.int (1 : Int32)), .val (.long q2), .second] [(.long (((-q2) <<< ((1 : Int32) &&& 0x3f).toInt64) ||| (1 : Int64))), (.int (1 : Int32)), (.int (0 : Int32)), (.ref a1)]))
  obtain ⟨cq2, u2, u2'⟩ := P1.cell
  obtain ⟨_, _, ⟨T2, L2, k2, n2⟩, -, X2, ⟨Lc2, hQ2, l2, y2, z2⟩, st2⟩ := X1.privateBack hx (y := (⟨"com/example/envelop/envelop/plan/Zone", "constrain", "(IIJ)Lcom/example/envelop/envelop/plan/Zone;"⟩ : MethodName)) hown (mvT hZ (w55 hw)) (mvT hZ (w56 hw)) (own_selP hZ (w5 hw) (w57 hw) (w56 hw) (by decide)) (Cond.privateMethod_at (mvP hZ (w57 hw) (args := #[]))) (mvT hZ (w58 hw)) (by decide) (backOf (W := 0) (rm11_2 l Z a0 hw [] a1 (((-q2) <<< ((1 : Int32) &&& 0x3f).toInt64) ||| (1 : Int64)) a3 k4 h0 n0 O0 P1 P2 P3 P4 P5 P6 P7 P8) hZ (w58 hw) (w2 hw) (by decide) (by decide)) (g := (mkF m 8 #[.val (.ref a1), .val (.int (1 : Int32)), .val (.long q2), .second] [(.long (((-q2) <<< ((1 : Int32) &&& 0x3f).toInt64) ||| (1 : Int64))), (.int (1 : Int32)), (.int (0 : Int32)), (.ref a1)])) rfl (by rw [hml]; rfl) (Steps.refl _) (a := a1) (by rw [eh1]; exact u2) u2' (argsL := [(.int (0 : Int32)), (.int (1 : Int32)), (.long (((-q2) <<< ((1 : Int32) &&& 0x3f).toInt64) ||| (1 : Int64)))]) (rest := []) (lenOf pd_8 rfl) rfl (by show 2 * 0 + _ ≤ _; exact Nat.le_of_eq rfl) (hb hby d13_8) (fun vm₁ hw₁ => ⟨rfl, eh1, (by decide : 0 + 0 ≤ _), (by decide : 0 + 0 ≤ _)⟩)
  dsimp only [Pt.U, Pt.locs, Pt.cells, Pt.slots] at X2 l2 y2 z2 st2 hQ2
  subst l2 y2 z2
  obtain ⟨rfl, M2, eh2⟩ := hQ2
  have N2 := Fr.app N1 M2
  refine Go.tr st2 ?_
  show Go p e below _ (T2.setTop (mkF m 11 #[.val (.ref a1), .val (.int (1 : Int32)), .val (.long q2), .second] [(.ref a1)]))
  obtain ⟨fs, hr, hrun, hended, hWd, hsame⟩ := X2.leave (v := some (.ref a1)) (fun h => by rw [Bd.returns] at h; cases h)
  refine ⟨_, _, ?_, hrun, hended, _, _, rfl, ?_, ⟨⟨_, rfl⟩, hWd, hsame.mono (by decide) (by decide)⟩⟩
  · exact own_retA X2 hx Bd.returns rfl rfl (hb hby d13_11) hr
  · show Q_rm13_1 Z a1 q2 a3 k4 h0 n0 _ T2.heap _
    rw [eh2]
    exact ⟨rfl, N2, rfl⟩
def Q_rm8_2 (Z : State) (a1 : Addr) (q2 : Int64) (a3 : Addr) (k4 : ClassId) (h0 : Heap) (n0 : Nat) (v : Option Value) (h : Heap) (L : List Loc) : Prop := v = some (.int (0 : Int32)) ∧ Fr n0 L ∧ h = h0
set_option maxRecDepth 65536 in
set_option maxHeartbeats 40000000 in
theorem rm8_2 (l : Launch) (Z : State) (a0 : Array Value) (hw : ∀ d ∈ tables_1, d.before a0 Z = true) (ws : List Jvm.Cond) (a1 : Addr) (q2 : Int64) (a3 : Addr) (k4 : ClassId) (h0 : Heap) (n0 : Nat) (O0 : Old Z n0 h0) (P1 : Exa Z h0 a1 "com/example/envelop/envelop/plan/Zone") (P2 : Fld Z h0 a1 "com/example/envelop/envelop/plan/Zone" "bounds" "[J" (.ref a3)) (P3 : Fld Z h0 a1 "com/example/envelop/envelop/plan/Zone" "size" "I" (.int (2 : Int32))) (P4 : Arv Z h0 a3 k4 .long (4 : Int32) [(.long (1 : Int64)), (.long (1 : Int64)), (.long (1 : Int64)), (.long (1 : Int64))] (.long (0 : Int64))) (P5 : (((-q2) <<< ((1 : Int32) &&& 0x3f).toInt64) ||| (1 : Int64)) < (1 : Int64)) :
    MetFree l (⟨"com/example/envelop/envelop/plan/Zone", "impliesAtLeast", "(IJ)Z"⟩ : MethodName) (head1 (Jvm.Cond.code (⟨"com/example/envelop/envelop/plan/Zone", "impliesAtLeast", "(IJ)Z"⟩ : MethodName) prog_71_method_11_code 4 (some .boolean) :: ws) ({ frames := 1, cells := 0, slots := 0, locals := 15 } : Room)) (fun a U => a = #[(.ref a1), (.int (1 : Int32)), (.long q2)] ∧ Z.Warmed39 U.vm ∧ U.heap = h0) (fun _ _ _ _ _ => True) (fun _ U o U' => ∃ v L, o = .returned v ∧ Q_rm8_2 Z a1 q2 a3 k4 h0 n0 v U'.heap L ∧ FrameEnd U o U' L ({ frames := 1, cells := 0, slots := 0, locals := 15 } : Room).cells ({ frames := 1, cells := 0, slots := 0, locals := 15 } : Room).slots) := by
  refine MetFree.of_bodySF (plainFor_of_name pn_0) hisR ?_
  intro p e s m args below meth c s₁ Bd hml0 hP hK
  obtain ⟨rfl, hZ, hh⟩ := hP
  have hx := Bd.exec
  have hby := Bd.bytes
  have hml : c.maxLocals = 4 := hml0
  have hown : s.vm.findClass "com/example/envelop/envelop/plan/Zone" = some m.cls := findClass_of_methodNamed Bd.named
  have hnm := (name_of_methodNamed Bd.named Bd.method).1
  have X0 : Stand p l e ({ frames := 1, cells := 0, slots := 0, locals := 15 } : Room) s m #[(.ref a1), (.int (1 : Int32)), (.long q2)] below meth c s₁ [] 0 0 := Stand.of_body Bd
  have e0 : s₁.heap = h0 := by rw [← hh, Bd.state]; rfl
  have N0 := Fr.nil n0
  refine Go.start (P := (fun o U' => ∃ v L, o = .returned v ∧ Q_rm8_2 Z a1 q2 a3 k4 h0 n0 v U'.heap L ∧ FrameEnd s o U' L ({ frames := 1, cells := 0, slots := 0, locals := 15 } : Room).cells ({ frames := 1, cells := 0, slots := 0, locals := 15 } : Room).slots)) (castTop (g' := (mkF m 0 #[.val (.ref a1), .val (.int (1 : Int32)), .val (.long q2), .second] [])) (by first | rfl | simp [entryFrame, mkF, argsToLocals, Value.category]) (T := s₁)) ?_
  refine Go.st (fun t k => XS.aloadN X0.here hx rfl (hb hby d8_0) rfl rfl k) ?_
  show Go p e below _ (s₁.setTop (mkF m 1 #[.val (.ref a1), .val (.int (1 : Int32)), .val (.long q2), .second] [(.ref a1)]))
  refine Go.st (fun t k => XS.iconst X0.here hx rfl (hb hby d8_1) k) ?_
  show Go p e below _ (s₁.setTop (mkF m 2 #[.val (.ref a1), .val (.int (1 : Int32)), .val (.long q2), .second] [(.int (0 : Int32)), (.ref a1)]))
  refine Go.st (fun t k => XS.iloadN X0.here hx rfl (hb hby d8_2) rfl k) ?_
  show Go p e below _ (s₁.setTop (mkF m 3 #[.val (.ref a1), .val (.int (1 : Int32)), .val (.long q2), .second] [(.int (1 : Int32)), (.int (0 : Int32)), (.ref a1)]))
  obtain ⟨cq1, u1, u1'⟩ := P1.cell
  obtain ⟨_, _, ⟨T1, L1, k1, n1⟩, -, X1, ⟨Lc1, hQ1, l1, y1, z1⟩, st1⟩ := X0.privateBack hx (y := (⟨"com/example/envelop/envelop/plan/Zone", "get", "(II)J"⟩ : MethodName)) hown (mvT hZ (w38 hw)) (mvT hZ (w39 hw)) (own_selP hZ (w5 hw) (w40 hw) (w39 hw) (by decide)) (Cond.privateMethod_at (mvP hZ (w40 hw) (args := #[]))) (mvT hZ (w41 hw)) (by decide) (backOf (W := 0) (rm7_2 l Z a0 hw [] a1 a3 k4 h0 n0 O0 P2 P3 P4) hZ (w41 hw) (w2 hw) (by decide) (by decide)) (g := (mkF m 3 #[.val (.ref a1), .val (.int (1 : Int32)), .val (.long q2), .second] [(.int (1 : Int32)), (.int (0 : Int32)), (.ref a1)])) rfl (by rw [hml]; rfl) (Steps.refl _) (a := a1) (by rw [e0]; exact u1) u1' (argsL := [(.int (0 : Int32)), (.int (1 : Int32))]) (rest := []) (lenOf pd_4 rfl) rfl (by show 2 * 0 + _ ≤ _; exact Nat.le_of_eq rfl) (hb hby d8_3) (fun vm₁ hw₁ => ⟨rfl, e0, (by decide : 0 + 0 ≤ _), (by decide : 0 + 0 ≤ _)⟩)
  dsimp only [Pt.U, Pt.locs, Pt.cells, Pt.slots] at X1 l1 y1 z1 st1 hQ1
  subst l1 y1 z1
  obtain ⟨rfl, M1, eh1⟩ := hQ1
  have N1 := Fr.app N0 M1
  refine Go.tr st1 ?_
  show Go p e below _ (T1.setTop (mkF m 6 #[.val (.ref a1), .val (.int (1 : Int32)), .val (.long q2), .second] [(.long (1 : Int64))]))
  refine Go.st (fun t k => XS.lloadN X1.here hx rfl (hb hby d8_6) rfl k) ?_
  show Go p e below _ (T1.setTop (mkF m 7 #[.val (.ref a1), .val (.int (1 : Int32)), .val (.long q2), .second] [(.long q2), (.long (1 : Int64))]))
  refine Go.st (fun t k => XS.lneg X1.here hx rfl (hb hby d8_7) rfl k) ?_
  show Go p e below _ (T1.setTop (mkF m 8 #[.val (.ref a1), .val (.int (1 : Int32)), .val (.long q2), .second] [(.long (-q2)), (.long (1 : Int64))]))
  obtain ⟨_, _, ⟨T2, L2, k2, n2⟩, -, X2, ⟨Lc2, hQ2, l2, y2, z2⟩, st2⟩ := Jvm.LawKit.callS X1 hx (y := (⟨"com/example/envelop/envelop/plan/Zone", "atMost", "(J)J"⟩ : MethodName)) hown (mvT hZ (w47 hw)) (mvT hZ (w48 hw)) (mvT hZ (w2 hw)) (mvT hZ (w49 hw)) (by decide) (backOf (W := 2) (rm9_1 l Z a0 hw [] (-q2) h0 n0 O0 ) hZ (w49 hw) (w2 hw) (by decide) (by decide)) (g := (mkF m 8 #[.val (.ref a1), .val (.int (1 : Int32)), .val (.long q2), .second] [(.long (-q2)), (.long (1 : Int64))])) rfl (by rw [hml]; rfl) (argsL := [(.long (-q2))]) (rest := [(.long (1 : Int64))]) (lenOf pd_5 rfl) rfl (by show 2 * 0 + _ ≤ _; exact Nat.le_of_eq rfl) (hb hby d8_8) (fun vm₁ hw₁ => ⟨rfl, eh1, (by decide : 0 + 0 ≤ _), (by decide : 0 + 0 ≤ _)⟩)
  dsimp only [Pt.U, Pt.locs, Pt.cells, Pt.slots] at X2 l2 y2 z2 st2 hQ2
  subst l2 y2 z2
  obtain ⟨rfl, M2, eh2⟩ := hQ2
  have N2 := Fr.app N1 M2
  refine Go.st st2 ?_
  show Go p e below _ (T2.setTop (mkF m 11 #[.val (.ref a1), .val (.int (1 : Int32)), .val (.long q2), .second] [(.long (((-q2) <<< ((1 : Int32) &&& 0x3f).toInt64) ||| (1 : Int64))), (.long (1 : Int64))]))
  refine Go.st (fun t k => Jvm.Free.XT.lcmp X2.here hx rfl (hb hby d8_11) rfl k) ?_
  show Go p e below _ (T2.setTop (mkF m 12 #[.val (.ref a1), .val (.int (1 : Int32)), .val (.long q2), .second] [(.int (Jvm.Free.XT.cmpL (1 : Int64) (((-q2) <<< ((1 : Int32) &&& 0x3f).toInt64) ||| (1 : Int64))))]))
  refine Go.st (fun t k => XS.ifYes X2.here hx rfl (pc0 := 12) (pc' := 19) rfl (hb hby d8_12) rfl (Jvm.Free.XT.ll_gt_t P5) (by decide) (by decide) k) ?_
  show Go p e below _ (T2.setTop (mkF m 19 #[.val (.ref a1), .val (.int (1 : Int32)), .val (.long q2), .second] []))
  refine Go.st (fun t k => XS.iconst X2.here hx rfl (hb hby d8_19) k) ?_
  show Go p e below _ (T2.setTop (mkF m 20 #[.val (.ref a1), .val (.int (1 : Int32)), .val (.long q2), .second] [(.int (0 : Int32))]))
  obtain ⟨fs, hr, hrun, hended, hWd, hsame⟩ := X2.leave (v := some (.int (0 : Int32))) (fun h => by rw [Bd.returns] at h; cases h)
  refine ⟨_, _, ?_, hrun, hended, _, _, rfl, ?_, ⟨⟨_, rfl⟩, hWd, hsame.mono (by decide) (by decide)⟩⟩
  · exact retN X2 hx (t := .boolean) Bd.returns (by simp) (hb hby d8_20) hr
  · show Q_rm8_2 Z a1 q2 a3 k4 h0 n0 _ T2.heap _
    rw [eh2]
    exact ⟨rfl, N2, rfl⟩
def Q_rm11_3 (Z : State) (a1 : Addr) (q2 : Int64) (a3 : Addr) (k4 : ClassId) (h0 : Heap) (n0 : Nat) (v : Option Value) (h : Heap) (L : List Loc) : Prop := v = some (.ref a1) ∧ Fr n0 L ∧ h = h0
set_option maxRecDepth 65536 in
set_option maxHeartbeats 40000000 in
theorem rm11_3 (l : Launch) (Z : State) (a0 : Array Value) (hw : ∀ d ∈ tables_1, d.before a0 Z = true) (ws : List Jvm.Cond) (a1 : Addr) (q2 : Int64) (a3 : Addr) (k4 : ClassId) (h0 : Heap) (n0 : Nat) (O0 : Old Z n0 h0) (P1 : Exa Z h0 a1 "com/example/envelop/envelop/plan/Zone") (P2 : Fld Z h0 a1 "com/example/envelop/envelop/plan/Zone" "bounds" "[J" (.ref a3)) (P3 : Fld Z h0 a1 "com/example/envelop/envelop/plan/Zone" "size" "I" (.int (2 : Int32))) (P4 : Arv Z h0 a3 k4 .long (4 : Int32) [(.long (1 : Int64)), (.long (1 : Int64)), (.long (1 : Int64)), (.long (1 : Int64))] (.long (0 : Int64))) (P5 : ¬ (q2 = (9223372036854775807 : Int64))) (P6 : Sta Z Z.heap "com/example/envelop/envelop/plan/Zone" "ZERO" "J" (.long (1 : Int64))) (P7 : ¬ (((((q2 >>> ((1 : Int32) &&& 0x3f).toInt64) + (0 : Int64)) <<< ((1 : Int32) &&& 0x3f).toInt64) ||| ((q2 &&& (1 : Int64)) &&& (1 : Int64))) < (1 : Int64))) (P8 : ¬ (q2 < (1 : Int64))) :
    MetFree l (⟨"com/example/envelop/envelop/plan/Zone", "constrain", "(IIJ)Lcom/example/envelop/envelop/plan/Zone;"⟩ : MethodName) (head1 (Jvm.Cond.code (⟨"com/example/envelop/envelop/plan/Zone", "constrain", "(IIJ)Lcom/example/envelop/envelop/plan/Zone;"⟩ : MethodName) prog_71_method_12_code 15 (some (.object "com/example/envelop/envelop/plan/Zone")) :: ws) ({ frames := 1, cells := 0, slots := 0, locals := 16 } : Room)) (fun a U => a = #[(.ref a1), (.int (1 : Int32)), (.int (0 : Int32)), (.long q2)] ∧ Z.Warmed39 U.vm ∧ U.heap = h0) (fun _ _ _ _ _ => True) (fun _ U o U' => ∃ v L, o = .returned v ∧ Q_rm11_3 Z a1 q2 a3 k4 h0 n0 v U'.heap L ∧ FrameEnd U o U' L ({ frames := 1, cells := 0, slots := 0, locals := 16 } : Room).cells ({ frames := 1, cells := 0, slots := 0, locals := 16 } : Room).slots) := by
  refine MetFree.of_bodySF (plainFor_of_name pn_0) hisR ?_
  intro p e s m args below meth c s₁ Bd hml0 hP hK
  obtain ⟨rfl, hZ, hh⟩ := hP
  have hx := Bd.exec
  have hby := Bd.bytes
  have hml : c.maxLocals = 15 := hml0
  have hown : s.vm.findClass "com/example/envelop/envelop/plan/Zone" = some m.cls := findClass_of_methodNamed Bd.named
  have hnm := (name_of_methodNamed Bd.named Bd.method).1
  have X0 : Stand p l e ({ frames := 1, cells := 0, slots := 0, locals := 16 } : Room) s m #[(.ref a1), (.int (1 : Int32)), (.int (0 : Int32)), (.long q2)] below meth c s₁ [] 0 0 := Stand.of_body Bd
  have e0 : s₁.heap = h0 := by rw [← hh, Bd.state]; rfl
  have N0 := Fr.nil n0
  refine Go.start (P := (fun o U' => ∃ v L, o = .returned v ∧ Q_rm11_3 Z a1 q2 a3 k4 h0 n0 v U'.heap L ∧ FrameEnd s o U' L ({ frames := 1, cells := 0, slots := 0, locals := 16 } : Room).cells ({ frames := 1, cells := 0, slots := 0, locals := 16 } : Room).slots)) (castTop (g' := (mkF m 0 #[.val (.ref a1), .val (.int (1 : Int32)), .val (.int (0 : Int32)), .val (.long q2), .second, .unset, .unset, .unset, .unset, .unset, .unset, .unset, .unset, .unset, .unset] [])) (by first | rfl | simp [entryFrame, mkF, argsToLocals, Value.category]) (T := s₁)) ?_
  refine Go.st (fun t k => XS.lloadN X0.here hx rfl (hb hby d11_0) rfl k) ?_
  show Go p e below _ (s₁.setTop (mkF m 1 #[.val (.ref a1), .val (.int (1 : Int32)), .val (.int (0 : Int32)), .val (.long q2), .second, .unset, .unset, .unset, .unset, .unset, .unset, .unset, .unset, .unset, .unset] [(.long q2)]))
  refine Go.st (fun t k => XS.aloadN X0.here hx rfl (hb hby d11_1) rfl rfl k) ?_
  show Go p e below _ (s₁.setTop (mkF m 2 #[.val (.ref a1), .val (.int (1 : Int32)), .val (.int (0 : Int32)), .val (.long q2), .second, .unset, .unset, .unset, .unset, .unset, .unset, .unset, .unset, .unset, .unset] [(.ref a1), (.long q2)]))
  refine Go.st (fun t k => XS.iloadN X0.here hx rfl (hb hby d11_2) rfl k) ?_
  show Go p e below _ (s₁.setTop (mkF m 3 #[.val (.ref a1), .val (.int (1 : Int32)), .val (.int (0 : Int32)), .val (.long q2), .second, .unset, .unset, .unset, .unset, .unset, .unset, .unset, .unset, .unset, .unset] [(.int (0 : Int32)), (.ref a1), (.long q2)]))
  refine Go.st (fun t k => XS.iloadN X0.here hx rfl (hb hby d11_3) rfl k) ?_
  show Go p e below _ (s₁.setTop (mkF m 4 #[.val (.ref a1), .val (.int (1 : Int32)), .val (.int (0 : Int32)), .val (.long q2), .second, .unset, .unset, .unset, .unset, .unset, .unset, .unset, .unset, .unset, .unset] [(.int (1 : Int32)), (.int (0 : Int32)), (.ref a1), (.long q2)]))
  obtain ⟨cq1, u1, u1'⟩ := P1.cell
  obtain ⟨_, _, ⟨T1, L1, k1, n1⟩, -, X1, ⟨Lc1, hQ1, l1, y1, z1⟩, st1⟩ := X0.privateBack hx (y := (⟨"com/example/envelop/envelop/plan/Zone", "get", "(II)J"⟩ : MethodName)) hown (mvT hZ (w38 hw)) (mvT hZ (w39 hw)) (own_selP hZ (w5 hw) (w40 hw) (w39 hw) (by decide)) (Cond.privateMethod_at (mvP hZ (w40 hw) (args := #[]))) (mvT hZ (w41 hw)) (by decide) (backOf (W := 2) (rm7_2 l Z a0 hw [] a1 a3 k4 h0 n0 O0 P2 P3 P4) hZ (w41 hw) (w2 hw) (by decide) (by decide)) (g := (mkF m 4 #[.val (.ref a1), .val (.int (1 : Int32)), .val (.int (0 : Int32)), .val (.long q2), .second, .unset, .unset, .unset, .unset, .unset, .unset, .unset, .unset, .unset, .unset] [(.int (1 : Int32)), (.int (0 : Int32)), (.ref a1), (.long q2)])) rfl (by rw [hml]; rfl) (Steps.refl _) (a := a1) (by rw [e0]; exact u1) u1' (argsL := [(.int (0 : Int32)), (.int (1 : Int32))]) (rest := [(.long q2)]) (lenOf pd_4 rfl) rfl (by show 2 * 0 + _ ≤ _; exact Nat.le_of_eq rfl) (hb hby d11_4) (fun vm₁ hw₁ => ⟨rfl, e0, (by decide : 0 + 0 ≤ _), (by decide : 0 + 0 ≤ _)⟩)
  dsimp only [Pt.U, Pt.locs, Pt.cells, Pt.slots] at X1 l1 y1 z1 st1 hQ1
  subst l1 y1 z1
  obtain ⟨rfl, M1, eh1⟩ := hQ1
  have N1 := Fr.app N0 M1
  refine Go.tr st1 ?_
  show Go p e below _ (T1.setTop (mkF m 7 #[.val (.ref a1), .val (.int (1 : Int32)), .val (.int (0 : Int32)), .val (.long q2), .second, .unset, .unset, .unset, .unset, .unset, .unset, .unset, .unset, .unset, .unset] [(.long (1 : Int64)), (.long q2)]))
  obtain ⟨_, _, ⟨T2, L2, k2, n2⟩, -, X2, ⟨Lc2, hQ2, l2, y2, z2⟩, st2⟩ := Jvm.LawKit.callS X1 hx (y := (⟨"com/example/envelop/envelop/plan/Zone", "sum", "(JJ)J"⟩ : MethodName)) hown (mvT hZ (w59 hw)) (mvT hZ (w60 hw)) (mvT hZ (w2 hw)) (mvT hZ (w61 hw)) (by decide) (backOf (W := 0) (rm12_1 l Z a0 hw [] q2 h0 n0 O0 P5) hZ (w61 hw) (w2 hw) (by decide) (by decide)) (g := (mkF m 7 #[.val (.ref a1), .val (.int (1 : Int32)), .val (.int (0 : Int32)), .val (.long q2), .second, .unset, .unset, .unset, .unset, .unset, .unset, .unset, .unset, .unset, .unset] [(.long (1 : Int64)), (.long q2)])) rfl (by rw [hml]; rfl) (argsL := [(.long q2), (.long (1 : Int64))]) (rest := []) (lenOf pd_7 rfl) rfl (by show 2 * 0 + _ ≤ _; exact Nat.le_of_eq rfl) (hb hby d11_7) (fun vm₁ hw₁ => ⟨rfl, eh1, (by decide : 0 + 0 ≤ _), (by decide : 0 + 0 ≤ _)⟩)
  dsimp only [Pt.U, Pt.locs, Pt.cells, Pt.slots] at X2 l2 y2 z2 st2 hQ2
  subst l2 y2 z2
  obtain ⟨rfl, M2, eh2⟩ := hQ2
  have N2 := Fr.app N1 M2
  refine Go.st st2 ?_
  show Go p e below _ (T2.setTop (mkF m 10 #[.val (.ref a1), .val (.int (1 : Int32)), .val (.int (0 : Int32)), .val (.long q2), .second, .unset, .unset, .unset, .unset, .unset, .unset, .unset, .unset, .unset, .unset] [(.long ((((q2 >>> ((1 : Int32) &&& 0x3f).toInt64) + (0 : Int64)) <<< ((1 : Int32) &&& 0x3f).toInt64) ||| ((q2 &&& (1 : Int64)) &&& (1 : Int64))))]))
  obtain ⟨T3, X3, e3, st3⟩ := getS2 X2 hx hZ hown (host := "") (Or.inl (w7 hw)) Via.refl eh2 (P6.ext O0.2) (g := (mkF m 10 #[.val (.ref a1), .val (.int (1 : Int32)), .val (.int (0 : Int32)), .val (.long q2), .second, .unset, .unset, .unset, .unset, .unset, .unset, .unset, .unset, .unset, .unset] [(.long ((((q2 >>> ((1 : Int32) &&& 0x3f).toInt64) + (0 : Int64)) <<< ((1 : Int32) &&& 0x3f).toInt64) ||| ((q2 &&& (1 : Int64)) &&& (1 : Int64))))])) rfl (hb hby d11_10)
  refine Go.st st3 ?_
  show Go p e below _ (T3.setTop (mkF m 13 #[.val (.ref a1), .val (.int (1 : Int32)), .val (.int (0 : Int32)), .val (.long q2), .second, .unset, .unset, .unset, .unset, .unset, .unset, .unset, .unset, .unset, .unset] [(.long (1 : Int64)), (.long ((((q2 >>> ((1 : Int32) &&& 0x3f).toInt64) + (0 : Int64)) <<< ((1 : Int32) &&& 0x3f).toInt64) ||| ((q2 &&& (1 : Int64)) &&& (1 : Int64))))]))
  refine Go.st (fun t k => Jvm.Free.XT.lcmp X3.here hx rfl (hb hby d11_13) rfl k) ?_
  show Go p e below _ (T3.setTop (mkF m 14 #[.val (.ref a1), .val (.int (1 : Int32)), .val (.int (0 : Int32)), .val (.long q2), .second, .unset, .unset, .unset, .unset, .unset, .unset, .unset, .unset, .unset, .unset] [(.int (Jvm.Free.XT.cmpL ((((q2 >>> ((1 : Int32) &&& 0x3f).toInt64) + (0 : Int64)) <<< ((1 : Int32) &&& 0x3f).toInt64) ||| ((q2 &&& (1 : Int64)) &&& (1 : Int64))) (1 : Int64)))]))
  refine Go.st (fun t k => XS.ifYes X3.here hx rfl (pc0 := 14) (pc' := 19) rfl (hb hby d11_14) rfl (Jvm.Free.XT.ll_ge_t P7) (by decide) (by decide) k) ?_
  show Go p e below _ (T3.setTop (mkF m 19 #[.val (.ref a1), .val (.int (1 : Int32)), .val (.int (0 : Int32)), .val (.long q2), .second, .unset, .unset, .unset, .unset, .unset, .unset, .unset, .unset, .unset, .unset] []))
  refine Go.st (fun t k => XS.aloadN X3.here hx rfl (hb hby d11_19) rfl rfl k) ?_
  show Go p e below _ (T3.setTop (mkF m 20 #[.val (.ref a1), .val (.int (1 : Int32)), .val (.int (0 : Int32)), .val (.long q2), .second, .unset, .unset, .unset, .unset, .unset, .unset, .unset, .unset, .unset, .unset] [(.ref a1)]))
  refine Go.st (fun t k => XS.astore X3.here hx rfl (hb hby d11_20) rfl rfl (l' := #[.val (.ref a1), .val (.int (1 : Int32)), .val (.int (0 : Int32)), .val (.long q2), .second, .val (.ref a1), .unset, .unset, .unset, .unset, .unset, .unset, .unset, .unset, .unset]) rfl k) ?_
  show Go p e below _ (T3.setTop (mkF m 22 #[.val (.ref a1), .val (.int (1 : Int32)), .val (.int (0 : Int32)), .val (.long q2), .second, .val (.ref a1), .unset, .unset, .unset, .unset, .unset, .unset, .unset, .unset, .unset] []))
  refine Go.st (fun t k => XS.lloadN X3.here hx rfl (hb hby d11_22) rfl k) ?_
  show Go p e below _ (T3.setTop (mkF m 23 #[.val (.ref a1), .val (.int (1 : Int32)), .val (.int (0 : Int32)), .val (.long q2), .second, .val (.ref a1), .unset, .unset, .unset, .unset, .unset, .unset, .unset, .unset, .unset] [(.long q2)]))
  refine Go.st (fun t k => XS.aloadN X3.here hx rfl (hb hby d11_23) rfl rfl k) ?_
  show Go p e below _ (T3.setTop (mkF m 24 #[.val (.ref a1), .val (.int (1 : Int32)), .val (.int (0 : Int32)), .val (.long q2), .second, .val (.ref a1), .unset, .unset, .unset, .unset, .unset, .unset, .unset, .unset, .unset] [(.ref a1), (.long q2)]))
  refine Go.st (fun t k => XS.iloadN X3.here hx rfl (hb hby d11_24) rfl k) ?_
  show Go p e below _ (T3.setTop (mkF m 25 #[.val (.ref a1), .val (.int (1 : Int32)), .val (.int (0 : Int32)), .val (.long q2), .second, .val (.ref a1), .unset, .unset, .unset, .unset, .unset, .unset, .unset, .unset, .unset] [(.int (1 : Int32)), (.ref a1), (.long q2)]))
  refine Go.st (fun t k => XS.iloadN X3.here hx rfl (hb hby d11_25) rfl k) ?_
  show Go p e below _ (T3.setTop (mkF m 26 #[.val (.ref a1), .val (.int (1 : Int32)), .val (.int (0 : Int32)), .val (.long q2), .second, .val (.ref a1), .unset, .unset, .unset, .unset, .unset, .unset, .unset, .unset, .unset] [(.int (0 : Int32)), (.int (1 : Int32)), (.ref a1), (.long q2)]))
  obtain ⟨cq4, u4, u4'⟩ := P1.cell
  obtain ⟨_, _, ⟨T4, L4, k4, n4⟩, -, X4, ⟨Lc4, hQ4, l4, y4, z4⟩, st4⟩ := X3.privateBack hx (y := (⟨"com/example/envelop/envelop/plan/Zone", "get", "(II)J"⟩ : MethodName)) hown (mvT hZ (w38 hw)) (mvT hZ (w39 hw)) (own_selP hZ (w5 hw) (w40 hw) (w39 hw) (by decide)) (Cond.privateMethod_at (mvP hZ (w40 hw) (args := #[]))) (mvT hZ (w41 hw)) (by decide) (backOf (W := 2) (rm7_3 l Z a0 hw [] a1 a3 k4 h0 n0 O0 P2 P3 P4) hZ (w41 hw) (w2 hw) (by decide) (by decide)) (g := (mkF m 26 #[.val (.ref a1), .val (.int (1 : Int32)), .val (.int (0 : Int32)), .val (.long q2), .second, .val (.ref a1), .unset, .unset, .unset, .unset, .unset, .unset, .unset, .unset, .unset] [(.int (0 : Int32)), (.int (1 : Int32)), (.ref a1), (.long q2)])) rfl (by rw [hml]; rfl) (Steps.refl _) (a := a1) (by rw [e3]; exact u4) u4' (argsL := [(.int (1 : Int32)), (.int (0 : Int32))]) (rest := [(.long q2)]) (lenOf pd_4 rfl) rfl (by show 2 * 0 + _ ≤ _; exact Nat.le_of_eq rfl) (hb hby d11_26) (fun vm₁ hw₁ => ⟨rfl, e3, (by decide : 0 + 0 ≤ _), (by decide : 0 + 0 ≤ _)⟩)
  dsimp only [Pt.U, Pt.locs, Pt.cells, Pt.slots] at X4 l4 y4 z4 st4 hQ4
  subst l4 y4 z4
  obtain ⟨rfl, M4, eh4⟩ := hQ4
  have N4 := Fr.app N2 M4
  refine Go.tr st4 ?_
  show Go p e below _ (T4.setTop (mkF m 29 #[.val (.ref a1), .val (.int (1 : Int32)), .val (.int (0 : Int32)), .val (.long q2), .second, .val (.ref a1), .unset, .unset, .unset, .unset, .unset, .unset, .unset, .unset, .unset] [(.long (1 : Int64)), (.long q2)]))
  refine Go.st (fun t k => Jvm.Free.XT.lcmp X4.here hx rfl (hb hby d11_29) rfl k) ?_
  show Go p e below _ (T4.setTop (mkF m 30 #[.val (.ref a1), .val (.int (1 : Int32)), .val (.int (0 : Int32)), .val (.long q2), .second, .val (.ref a1), .unset, .unset, .unset, .unset, .unset, .unset, .unset, .unset, .unset] [(.int (Jvm.Free.XT.cmpL q2 (1 : Int64)))]))
  refine Go.st (fun t k => XS.ifYes X4.here hx rfl (pc0 := 30) (pc' := 178) rfl (hb hby d11_30) rfl (Jvm.Free.XT.ll_ge_t P8) (by decide) (by decide) k) ?_
  show Go p e below _ (T4.setTop (mkF m 178 #[.val (.ref a1), .val (.int (1 : Int32)), .val (.int (0 : Int32)), .val (.long q2), .second, .val (.ref a1), .unset, .unset, .unset, .unset, .unset, .unset, .unset, .unset, .unset] []))
  refine Go.st (fun t k => XS.aload X4.here hx rfl (hb hby d11_178) rfl rfl k) ?_
  show Go p e below _ (T4.setTop (mkF m 180 #[.val (.ref a1), .val (.int (1 : Int32)), .val (.int (0 : Int32)), .val (.long q2), .second, .val (.ref a1), .unset, .unset, .unset, .unset, .unset, .unset, .unset, .unset, .unset] [(.ref a1)]))
  obtain ⟨fs, hr, hrun, hended, hWd, hsame⟩ := X4.leave (v := some (.ref a1)) (fun h => by rw [Bd.returns] at h; cases h)
  refine ⟨_, _, ?_, hrun, hended, _, _, rfl, ?_, ⟨⟨_, rfl⟩, hWd, hsame.mono (by decide) (by decide)⟩⟩
  · exact own_retA X4 hx Bd.returns rfl rfl (hb hby d11_180) hr
  · show Q_rm11_3 Z a1 q2 a3 k4 h0 n0 _ T4.heap _
    rw [eh4]
    exact ⟨rfl, N4, rfl⟩
def Q_rm10_2 (Z : State) (a1 : Addr) (q2 : Int64) (a3 : Addr) (k4 : ClassId) (h0 : Heap) (n0 : Nat) (v : Option Value) (h : Heap) (L : List Loc) : Prop := v = some (.ref a1) ∧ Fr n0 L ∧ h = h0
set_option maxRecDepth 65536 in
set_option maxHeartbeats 40000000 in
theorem rm10_2 (l : Launch) (Z : State) (a0 : Array Value) (hw : ∀ d ∈ tables_1, d.before a0 Z = true) (ws : List Jvm.Cond) (a1 : Addr) (q2 : Int64) (a3 : Addr) (k4 : ClassId) (h0 : Heap) (n0 : Nat) (O0 : Old Z n0 h0) (P1 : Exa Z h0 a1 "com/example/envelop/envelop/plan/Zone") (P2 : Fld Z h0 a1 "com/example/envelop/envelop/plan/Zone" "bounds" "[J" (.ref a3)) (P3 : Fld Z h0 a1 "com/example/envelop/envelop/plan/Zone" "size" "I" (.int (2 : Int32))) (P4 : Arv Z h0 a3 k4 .long (4 : Int32) [(.long (1 : Int64)), (.long (1 : Int64)), (.long (1 : Int64)), (.long (1 : Int64))] (.long (0 : Int64))) (P5 : ¬ (((q2 <<< ((1 : Int32) &&& 0x3f).toInt64) ||| (1 : Int64)) = (9223372036854775807 : Int64))) (P6 : Sta Z Z.heap "com/example/envelop/envelop/plan/Zone" "ZERO" "J" (.long (1 : Int64))) (P7 : ¬ (((((((q2 <<< ((1 : Int32) &&& 0x3f).toInt64) ||| (1 : Int64)) >>> ((1 : Int32) &&& 0x3f).toInt64) + (0 : Int64)) <<< ((1 : Int32) &&& 0x3f).toInt64) ||| ((((q2 <<< ((1 : Int32) &&& 0x3f).toInt64) ||| (1 : Int64)) &&& (1 : Int64)) &&& (1 : Int64))) < (1 : Int64))) (P8 : ¬ (((q2 <<< ((1 : Int32) &&& 0x3f).toInt64) ||| (1 : Int64)) < (1 : Int64))) :
    MetFree l (⟨"com/example/envelop/envelop/plan/Zone", "atMost", "(IJ)Lcom/example/envelop/envelop/plan/Zone;"⟩ : MethodName) (head1 (Jvm.Cond.code (⟨"com/example/envelop/envelop/plan/Zone", "atMost", "(IJ)Lcom/example/envelop/envelop/plan/Zone;"⟩ : MethodName) prog_71_method_9_code 4 (some (.object "com/example/envelop/envelop/plan/Zone")) :: ws) ({ frames := 2, cells := 0, slots := 0, locals := 42 } : Room)) (fun a U => a = #[(.ref a1), (.int (1 : Int32)), (.long q2)] ∧ Z.Warmed39 U.vm ∧ U.heap = h0) (fun _ _ _ _ _ => True) (fun _ U o U' => ∃ v L, o = .returned v ∧ Q_rm10_2 Z a1 q2 a3 k4 h0 n0 v U'.heap L ∧ FrameEnd U o U' L ({ frames := 2, cells := 0, slots := 0, locals := 42 } : Room).cells ({ frames := 2, cells := 0, slots := 0, locals := 42 } : Room).slots) := by
  refine MetFree.of_bodySF (plainFor_of_name pn_0) hisR ?_
  intro p e s m args below meth c s₁ Bd hml0 hP hK
  obtain ⟨rfl, hZ, hh⟩ := hP
  have hx := Bd.exec
  have hby := Bd.bytes
  have hml : c.maxLocals = 4 := hml0
  have hown : s.vm.findClass "com/example/envelop/envelop/plan/Zone" = some m.cls := findClass_of_methodNamed Bd.named
  have hnm := (name_of_methodNamed Bd.named Bd.method).1
  have X0 : Stand p l e ({ frames := 2, cells := 0, slots := 0, locals := 42 } : Room) s m #[(.ref a1), (.int (1 : Int32)), (.long q2)] below meth c s₁ [] 0 0 := Stand.of_body Bd
  have e0 : s₁.heap = h0 := by rw [← hh, Bd.state]; rfl
  have N0 := Fr.nil n0
  refine Go.start (P := (fun o U' => ∃ v L, o = .returned v ∧ Q_rm10_2 Z a1 q2 a3 k4 h0 n0 v U'.heap L ∧ FrameEnd s o U' L ({ frames := 2, cells := 0, slots := 0, locals := 42 } : Room).cells ({ frames := 2, cells := 0, slots := 0, locals := 42 } : Room).slots)) (castTop (g' := (mkF m 0 #[.val (.ref a1), .val (.int (1 : Int32)), .val (.long q2), .second] [])) (by first | rfl | simp [entryFrame, mkF, argsToLocals, Value.category]) (T := s₁)) ?_
  refine Go.st (fun t k => XS.aloadN X0.here hx rfl (hb hby d10_0) rfl rfl k) ?_
  show Go p e below _ (s₁.setTop (mkF m 1 #[.val (.ref a1), .val (.int (1 : Int32)), .val (.long q2), .second] [(.ref a1)]))
  refine Go.st (fun t k => XS.iloadN X0.here hx rfl (hb hby d10_1) rfl k) ?_
  show Go p e below _ (s₁.setTop (mkF m 2 #[.val (.ref a1), .val (.int (1 : Int32)), .val (.long q2), .second] [(.int (1 : Int32)), (.ref a1)]))
  refine Go.st (fun t k => XS.iconst X0.here hx rfl (hb hby d10_2) k) ?_
  show Go p e below _ (s₁.setTop (mkF m 3 #[.val (.ref a1), .val (.int (1 : Int32)), .val (.long q2), .second] [(.int (0 : Int32)), (.int (1 : Int32)), (.ref a1)]))
  refine Go.st (fun t k => XS.lloadN X0.here hx rfl (hb hby d10_3) rfl k) ?_
  show Go p e below _ (s₁.setTop (mkF m 4 #[.val (.ref a1), .val (.int (1 : Int32)), .val (.long q2), .second] [(.long q2), (.int (0 : Int32)), (.int (1 : Int32)), (.ref a1)]))
  obtain ⟨_, _, ⟨T1, L1, k1, n1⟩, -, X1, ⟨Lc1, hQ1, l1, y1, z1⟩, st1⟩ := Jvm.LawKit.callS X0 hx (y := (⟨"com/example/envelop/envelop/plan/Zone", "atMost", "(J)J"⟩ : MethodName)) hown (mvT hZ (w47 hw)) (mvT hZ (w48 hw)) (mvT hZ (w2 hw)) (mvT hZ (w49 hw)) (by decide) (backOf (W := 3) (rm9_1 l Z a0 hw [] q2 h0 n0 O0 ) hZ (w49 hw) (w2 hw) (by decide) (by decide)) (g := (mkF m 4 #[.val (.ref a1), .val (.int (1 : Int32)), .val (.long q2), .second] [(.long q2), (.int (0 : Int32)), (.int (1 : Int32)), (.ref a1)])) rfl (by rw [hml]; rfl) (argsL := [(.long q2)]) (rest := [(.int (0 : Int32)), (.int (1 : Int32)), (.ref a1)]) (lenOf pd_5 rfl) rfl (by show 2 * 0 + _ ≤ _; exact Nat.le_of_eq rfl) (hb hby d10_4) (fun vm₁ hw₁ => ⟨rfl, e0, (by decide : 0 + 0 ≤ _), (by decide : 0 + 0 ≤ _)⟩)
  dsimp only [Pt.U, Pt.locs, Pt.cells, Pt.slots] at X1 l1 y1 z1 st1 hQ1
  subst l1 y1 z1
  obtain ⟨rfl, M1, eh1⟩ := hQ1
  have N1 := Fr.app N0 M1
  refine Go.st st1 ?_
  show Go p e below _ (T1.setTop (mkF m 7 #[.val (.ref a1), .val (.int (1 : Int32)), .val (.long q2), .second] [(.long ((q2 <<< ((1 : Int32) &&& 0x3f).toInt64) ||| (1 : Int64))), (.int (0 : Int32)), (.int (1 : Int32)), (.ref a1)]))
  obtain ⟨cq2, u2, u2'⟩ := P1.cell
  obtain ⟨_, _, ⟨T2, L2, k2, n2⟩, -, X2, ⟨Lc2, hQ2, l2, y2, z2⟩, st2⟩ := X1.privateBack hx (y := (⟨"com/example/envelop/envelop/plan/Zone", "constrain", "(IIJ)Lcom/example/envelop/envelop/plan/Zone;"⟩ : MethodName)) hown (mvT hZ (w55 hw)) (mvT hZ (w56 hw)) (own_selP hZ (w5 hw) (w57 hw) (w56 hw) (by decide)) (Cond.privateMethod_at (mvP hZ (w57 hw) (args := #[]))) (mvT hZ (w58 hw)) (by decide) (backOf (W := 0) (rm11_3 l Z a0 hw [] a1 ((q2 <<< ((1 : Int32) &&& 0x3f).toInt64) ||| (1 : Int64)) a3 k4 h0 n0 O0 P1 P2 P3 P4 P5 P6 P7 P8) hZ (w58 hw) (w2 hw) (by decide) (by decide)) (g := (mkF m 7 #[.val (.ref a1), .val (.int (1 : Int32)), .val (.long q2), .second] [(.long ((q2 <<< ((1 : Int32) &&& 0x3f).toInt64) ||| (1 : Int64))), (.int (0 : Int32)), (.int (1 : Int32)), (.ref a1)])) rfl (by rw [hml]; rfl) (Steps.refl _) (a := a1) (by rw [eh1]; exact u2) u2' (argsL := [(.int (1 : Int32)), (.int (0 : Int32)), (.long ((q2 <<< ((1 : Int32) &&& 0x3f).toInt64) ||| (1 : Int64)))]) (rest := []) (lenOf pd_8 rfl) rfl (by show 2 * 0 + _ ≤ _; exact Nat.le_of_eq rfl) (hb hby d10_7) (fun vm₁ hw₁ => ⟨rfl, eh1, (by decide : 0 + 0 ≤ _), (by decide : 0 + 0 ≤ _)⟩)
  dsimp only [Pt.U, Pt.locs, Pt.cells, Pt.slots] at X2 l2 y2 z2 st2 hQ2
  subst l2 y2 z2
  obtain ⟨rfl, M2, eh2⟩ := hQ2
  have N2 := Fr.app N1 M2
  refine Go.tr st2 ?_
  show Go p e below _ (T2.setTop (mkF m 10 #[.val (.ref a1), .val (.int (1 : Int32)), .val (.long q2), .second] [(.ref a1)]))
  obtain ⟨fs, hr, hrun, hended, hWd, hsame⟩ := X2.leave (v := some (.ref a1)) (fun h => by rw [Bd.returns] at h; cases h)
  refine ⟨_, _, ?_, hrun, hended, _, _, rfl, ?_, ⟨⟨_, rfl⟩, hWd, hsame.mono (by decide) (by decide)⟩⟩
  · exact own_retA X2 hx Bd.returns rfl rfl (hb hby d10_10) hr
  · show Q_rm10_2 Z a1 q2 a3 k4 h0 n0 _ T2.heap _
    rw [eh2]
    exact ⟨rfl, N2, rfl⟩
def Q_rm11_4 (Z : State) (a1 : Addr) (q2 : Int64) (a3 : Addr) (k4 : ClassId) (h0 : Heap) (n0 : Nat) (v : Option Value) (h : Heap) (L : List Loc) : Prop := v = some .null ∧ Fr n0 L ∧ h = h0
set_option maxRecDepth 65536 in
set_option maxHeartbeats 40000000 in
theorem rm11_4 (l : Launch) (Z : State) (a0 : Array Value) (hw : ∀ d ∈ tables_1, d.before a0 Z = true) (ws : List Jvm.Cond) (a1 : Addr) (q2 : Int64) (a3 : Addr) (k4 : ClassId) (h0 : Heap) (n0 : Nat) (O0 : Old Z n0 h0) (P1 : Exa Z h0 a1 "com/example/envelop/envelop/plan/Zone") (P2 : Fld Z h0 a1 "com/example/envelop/envelop/plan/Zone" "bounds" "[J" (.ref a3)) (P3 : Fld Z h0 a1 "com/example/envelop/envelop/plan/Zone" "size" "I" (.int (2 : Int32))) (P4 : Arv Z h0 a3 k4 .long (4 : Int32) [(.long (1 : Int64)), (.long (1 : Int64)), (.long (1 : Int64)), (.long (1 : Int64))] (.long (0 : Int64))) (P5 : ¬ (q2 = (9223372036854775807 : Int64))) (P6 : Sta Z Z.heap "com/example/envelop/envelop/plan/Zone" "ZERO" "J" (.long (1 : Int64))) (P7 : ((((q2 >>> ((1 : Int32) &&& 0x3f).toInt64) + (0 : Int64)) <<< ((1 : Int32) &&& 0x3f).toInt64) ||| ((q2 &&& (1 : Int64)) &&& (1 : Int64))) < (1 : Int64)) :
    MetFree l (⟨"com/example/envelop/envelop/plan/Zone", "constrain", "(IIJ)Lcom/example/envelop/envelop/plan/Zone;"⟩ : MethodName) (head1 (Jvm.Cond.code (⟨"com/example/envelop/envelop/plan/Zone", "constrain", "(IIJ)Lcom/example/envelop/envelop/plan/Zone;"⟩ : MethodName) prog_71_method_12_code 15 (some (.object "com/example/envelop/envelop/plan/Zone")) :: ws) ({ frames := 1, cells := 0, slots := 0, locals := 16 } : Room)) (fun a U => a = #[(.ref a1), (.int (0 : Int32)), (.int (1 : Int32)), (.long q2)] ∧ Z.Warmed39 U.vm ∧ U.heap = h0) (fun _ _ _ _ _ => True) (fun _ U o U' => ∃ v L, o = .returned v ∧ Q_rm11_4 Z a1 q2 a3 k4 h0 n0 v U'.heap L ∧ FrameEnd U o U' L ({ frames := 1, cells := 0, slots := 0, locals := 16 } : Room).cells ({ frames := 1, cells := 0, slots := 0, locals := 16 } : Room).slots) := by
  refine MetFree.of_bodySF (plainFor_of_name pn_0) hisR ?_
  intro p e s m args below meth c s₁ Bd hml0 hP hK
  obtain ⟨rfl, hZ, hh⟩ := hP
  have hx := Bd.exec
  have hby := Bd.bytes
  have hml : c.maxLocals = 15 := hml0
  have hown : s.vm.findClass "com/example/envelop/envelop/plan/Zone" = some m.cls := findClass_of_methodNamed Bd.named
  have hnm := (name_of_methodNamed Bd.named Bd.method).1
  have X0 : Stand p l e ({ frames := 1, cells := 0, slots := 0, locals := 16 } : Room) s m #[(.ref a1), (.int (0 : Int32)), (.int (1 : Int32)), (.long q2)] below meth c s₁ [] 0 0 := Stand.of_body Bd
  have e0 : s₁.heap = h0 := by rw [← hh, Bd.state]; rfl
  have N0 := Fr.nil n0
  refine Go.start (P := (fun o U' => ∃ v L, o = .returned v ∧ Q_rm11_4 Z a1 q2 a3 k4 h0 n0 v U'.heap L ∧ FrameEnd s o U' L ({ frames := 1, cells := 0, slots := 0, locals := 16 } : Room).cells ({ frames := 1, cells := 0, slots := 0, locals := 16 } : Room).slots)) (castTop (g' := (mkF m 0 #[.val (.ref a1), .val (.int (0 : Int32)), .val (.int (1 : Int32)), .val (.long q2), .second, .unset, .unset, .unset, .unset, .unset, .unset, .unset, .unset, .unset, .unset] [])) (by first | rfl | simp [entryFrame, mkF, argsToLocals, Value.category]) (T := s₁)) ?_
  refine Go.st (fun t k => XS.lloadN X0.here hx rfl (hb hby d11_0) rfl k) ?_
  show Go p e below _ (s₁.setTop (mkF m 1 #[.val (.ref a1), .val (.int (0 : Int32)), .val (.int (1 : Int32)), .val (.long q2), .second, .unset, .unset, .unset, .unset, .unset, .unset, .unset, .unset, .unset, .unset] [(.long q2)]))
  refine Go.st (fun t k => XS.aloadN X0.here hx rfl (hb hby d11_1) rfl rfl k) ?_
  show Go p e below _ (s₁.setTop (mkF m 2 #[.val (.ref a1), .val (.int (0 : Int32)), .val (.int (1 : Int32)), .val (.long q2), .second, .unset, .unset, .unset, .unset, .unset, .unset, .unset, .unset, .unset, .unset] [(.ref a1), (.long q2)]))
  refine Go.st (fun t k => XS.iloadN X0.here hx rfl (hb hby d11_2) rfl k) ?_
  show Go p e below _ (s₁.setTop (mkF m 3 #[.val (.ref a1), .val (.int (0 : Int32)), .val (.int (1 : Int32)), .val (.long q2), .second, .unset, .unset, .unset, .unset, .unset, .unset, .unset, .unset, .unset, .unset] [(.int (1 : Int32)), (.ref a1), (.long q2)]))
  refine Go.st (fun t k => XS.iloadN X0.here hx rfl (hb hby d11_3) rfl k) ?_
  show Go p e below _ (s₁.setTop (mkF m 4 #[.val (.ref a1), .val (.int (0 : Int32)), .val (.int (1 : Int32)), .val (.long q2), .second, .unset, .unset, .unset, .unset, .unset, .unset, .unset, .unset, .unset, .unset] [(.int (0 : Int32)), (.int (1 : Int32)), (.ref a1), (.long q2)]))
  obtain ⟨cq1, u1, u1'⟩ := P1.cell
  obtain ⟨_, _, ⟨T1, L1, k1, n1⟩, -, X1, ⟨Lc1, hQ1, l1, y1, z1⟩, st1⟩ := X0.privateBack hx (y := (⟨"com/example/envelop/envelop/plan/Zone", "get", "(II)J"⟩ : MethodName)) hown (mvT hZ (w38 hw)) (mvT hZ (w39 hw)) (own_selP hZ (w5 hw) (w40 hw) (w39 hw) (by decide)) (Cond.privateMethod_at (mvP hZ (w40 hw) (args := #[]))) (mvT hZ (w41 hw)) (by decide) (backOf (W := 2) (rm7_3 l Z a0 hw [] a1 a3 k4 h0 n0 O0 P2 P3 P4) hZ (w41 hw) (w2 hw) (by decide) (by decide)) (g := (mkF m 4 #[.val (.ref a1), .val (.int (0 : Int32)), .val (.int (1 : Int32)), .val (.long q2), .second, .unset, .unset, .unset, .unset, .unset, .unset, .unset, .unset, .unset, .unset] [(.int (0 : Int32)), (.int (1 : Int32)), (.ref a1), (.long q2)])) rfl (by rw [hml]; rfl) (Steps.refl _) (a := a1) (by rw [e0]; exact u1) u1' (argsL := [(.int (1 : Int32)), (.int (0 : Int32))]) (rest := [(.long q2)]) (lenOf pd_4 rfl) rfl (by show 2 * 0 + _ ≤ _; exact Nat.le_of_eq rfl) (hb hby d11_4) (fun vm₁ hw₁ => ⟨rfl, e0, (by decide : 0 + 0 ≤ _), (by decide : 0 + 0 ≤ _)⟩)
  dsimp only [Pt.U, Pt.locs, Pt.cells, Pt.slots] at X1 l1 y1 z1 st1 hQ1
  subst l1 y1 z1
  obtain ⟨rfl, M1, eh1⟩ := hQ1
  have N1 := Fr.app N0 M1
  refine Go.tr st1 ?_
  show Go p e below _ (T1.setTop (mkF m 7 #[.val (.ref a1), .val (.int (0 : Int32)), .val (.int (1 : Int32)), .val (.long q2), .second, .unset, .unset, .unset, .unset, .unset, .unset, .unset, .unset, .unset, .unset] [(.long (1 : Int64)), (.long q2)]))
  obtain ⟨_, _, ⟨T2, L2, k2, n2⟩, -, X2, ⟨Lc2, hQ2, l2, y2, z2⟩, st2⟩ := Jvm.LawKit.callS X1 hx (y := (⟨"com/example/envelop/envelop/plan/Zone", "sum", "(JJ)J"⟩ : MethodName)) hown (mvT hZ (w59 hw)) (mvT hZ (w60 hw)) (mvT hZ (w2 hw)) (mvT hZ (w61 hw)) (by decide) (backOf (W := 0) (rm12_1 l Z a0 hw [] q2 h0 n0 O0 P5) hZ (w61 hw) (w2 hw) (by decide) (by decide)) (g := (mkF m 7 #[.val (.ref a1), .val (.int (0 : Int32)), .val (.int (1 : Int32)), .val (.long q2), .second, .unset, .unset, .unset, .unset, .unset, .unset, .unset, .unset, .unset, .unset] [(.long (1 : Int64)), (.long q2)])) rfl (by rw [hml]; rfl) (argsL := [(.long q2), (.long (1 : Int64))]) (rest := []) (lenOf pd_7 rfl) rfl (by show 2 * 0 + _ ≤ _; exact Nat.le_of_eq rfl) (hb hby d11_7) (fun vm₁ hw₁ => ⟨rfl, eh1, (by decide : 0 + 0 ≤ _), (by decide : 0 + 0 ≤ _)⟩)
  dsimp only [Pt.U, Pt.locs, Pt.cells, Pt.slots] at X2 l2 y2 z2 st2 hQ2
  subst l2 y2 z2
  obtain ⟨rfl, M2, eh2⟩ := hQ2
  have N2 := Fr.app N1 M2
  refine Go.st st2 ?_
  show Go p e below _ (T2.setTop (mkF m 10 #[.val (.ref a1), .val (.int (0 : Int32)), .val (.int (1 : Int32)), .val (.long q2), .second, .unset, .unset, .unset, .unset, .unset, .unset, .unset, .unset, .unset, .unset] [(.long ((((q2 >>> ((1 : Int32) &&& 0x3f).toInt64) + (0 : Int64)) <<< ((1 : Int32) &&& 0x3f).toInt64) ||| ((q2 &&& (1 : Int64)) &&& (1 : Int64))))]))
  obtain ⟨T3, X3, e3, st3⟩ := getS2 X2 hx hZ hown (host := "") (Or.inl (w7 hw)) Via.refl eh2 (P6.ext O0.2) (g := (mkF m 10 #[.val (.ref a1), .val (.int (0 : Int32)), .val (.int (1 : Int32)), .val (.long q2), .second, .unset, .unset, .unset, .unset, .unset, .unset, .unset, .unset, .unset, .unset] [(.long ((((q2 >>> ((1 : Int32) &&& 0x3f).toInt64) + (0 : Int64)) <<< ((1 : Int32) &&& 0x3f).toInt64) ||| ((q2 &&& (1 : Int64)) &&& (1 : Int64))))])) rfl (hb hby d11_10)
  refine Go.st st3 ?_
  show Go p e below _ (T3.setTop (mkF m 13 #[.val (.ref a1), .val (.int (0 : Int32)), .val (.int (1 : Int32)), .val (.long q2), .second, .unset, .unset, .unset, .unset, .unset, .unset, .unset, .unset, .unset, .unset] [(.long (1 : Int64)), (.long ((((q2 >>> ((1 : Int32) &&& 0x3f).toInt64) + (0 : Int64)) <<< ((1 : Int32) &&& 0x3f).toInt64) ||| ((q2 &&& (1 : Int64)) &&& (1 : Int64))))]))
  refine Go.st (fun t k => Jvm.Free.XT.lcmp X3.here hx rfl (hb hby d11_13) rfl k) ?_
  show Go p e below _ (T3.setTop (mkF m 14 #[.val (.ref a1), .val (.int (0 : Int32)), .val (.int (1 : Int32)), .val (.long q2), .second, .unset, .unset, .unset, .unset, .unset, .unset, .unset, .unset, .unset, .unset] [(.int (Jvm.Free.XT.cmpL ((((q2 >>> ((1 : Int32) &&& 0x3f).toInt64) + (0 : Int64)) <<< ((1 : Int32) &&& 0x3f).toInt64) ||| ((q2 &&& (1 : Int64)) &&& (1 : Int64))) (1 : Int64)))]))
  refine Go.st (fun t k => XS.ifNo X3.here hx rfl (hb hby d11_14) rfl (Jvm.Free.XT.ll_ge_f P7) k) ?_
  show Go p e below _ (T3.setTop (mkF m 17 #[.val (.ref a1), .val (.int (0 : Int32)), .val (.int (1 : Int32)), .val (.long q2), .second, .unset, .unset, .unset, .unset, .unset, .unset, .unset, .unset, .unset, .unset] []))
  refine Go.st (fun t k => XS.aconstNull X3.here hx rfl (hb hby d11_17) k) ?_
  show Go p e below _ (T3.setTop (mkF m 18 #[.val (.ref a1), .val (.int (0 : Int32)), .val (.int (1 : Int32)), .val (.long q2), .second, .unset, .unset, .unset, .unset, .unset, .unset, .unset, .unset, .unset, .unset] [.null]))
  obtain ⟨fs, hr, hrun, hended, hWd, hsame⟩ := X3.leave (v := some .null) (fun h => by rw [Bd.returns] at h; cases h)
  refine ⟨_, _, ?_, hrun, hended, _, _, rfl, ?_, ⟨⟨_, rfl⟩, hWd, hsame.mono (by decide) (by decide)⟩⟩
  · exact own_retA X3 hx Bd.returns rfl rfl (hb hby d11_18) hr
  · show Q_rm11_4 Z a1 q2 a3 k4 h0 n0 _ T3.heap _
    rw [e3]
    exact ⟨rfl, N2, rfl⟩
def Q_rm13_2 (Z : State) (a1 : Addr) (q2 : Int64) (a3 : Addr) (k4 : ClassId) (h0 : Heap) (n0 : Nat) (v : Option Value) (h : Heap) (L : List Loc) : Prop := v = some .null ∧ Fr n0 L ∧ h = h0
set_option maxRecDepth 65536 in
set_option maxHeartbeats 40000000 in
theorem rm13_2 (l : Launch) (Z : State) (a0 : Array Value) (hw : ∀ d ∈ tables_1, d.before a0 Z = true) (ws : List Jvm.Cond) (a1 : Addr) (q2 : Int64) (a3 : Addr) (k4 : ClassId) (h0 : Heap) (n0 : Nat) (O0 : Old Z n0 h0) (P1 : Exa Z h0 a1 "com/example/envelop/envelop/plan/Zone") (P2 : Fld Z h0 a1 "com/example/envelop/envelop/plan/Zone" "bounds" "[J" (.ref a3)) (P3 : Fld Z h0 a1 "com/example/envelop/envelop/plan/Zone" "size" "I" (.int (2 : Int32))) (P4 : Arv Z h0 a3 k4 .long (4 : Int32) [(.long (1 : Int64)), (.long (1 : Int64)), (.long (1 : Int64)), (.long (1 : Int64))] (.long (0 : Int64))) (P5 : ¬ ((((-q2) <<< ((1 : Int32) &&& 0x3f).toInt64) ||| (1 : Int64)) = (9223372036854775807 : Int64))) (P6 : Sta Z Z.heap "com/example/envelop/envelop/plan/Zone" "ZERO" "J" (.long (1 : Int64))) (P7 : (((((((-q2) <<< ((1 : Int32) &&& 0x3f).toInt64) ||| (1 : Int64)) >>> ((1 : Int32) &&& 0x3f).toInt64) + (0 : Int64)) <<< ((1 : Int32) &&& 0x3f).toInt64) ||| (((((-q2) <<< ((1 : Int32) &&& 0x3f).toInt64) ||| (1 : Int64)) &&& (1 : Int64)) &&& (1 : Int64))) < (1 : Int64)) :
    MetFree l (⟨"com/example/envelop/envelop/plan/Zone", "atLeast", "(IJ)Lcom/example/envelop/envelop/plan/Zone;"⟩ : MethodName) (head1 (Jvm.Cond.code (⟨"com/example/envelop/envelop/plan/Zone", "atLeast", "(IJ)Lcom/example/envelop/envelop/plan/Zone;"⟩ : MethodName) prog_71_method_10_code 4 (some (.object "com/example/envelop/envelop/plan/Zone")) :: ws) ({ frames := 2, cells := 0, slots := 0, locals := 42 } : Room)) (fun a U => a = #[(.ref a1), (.int (1 : Int32)), (.long q2)] ∧ Z.Warmed39 U.vm ∧ U.heap = h0) (fun _ _ _ _ _ => True) (fun _ U o U' => ∃ v L, o = .returned v ∧ Q_rm13_2 Z a1 q2 a3 k4 h0 n0 v U'.heap L ∧ FrameEnd U o U' L ({ frames := 2, cells := 0, slots := 0, locals := 42 } : Room).cells ({ frames := 2, cells := 0, slots := 0, locals := 42 } : Room).slots) := by
  refine MetFree.of_bodySF (plainFor_of_name pn_0) hisR ?_
  intro p e s m args below meth c s₁ Bd hml0 hP hK
  obtain ⟨rfl, hZ, hh⟩ := hP
  have hx := Bd.exec
  have hby := Bd.bytes
  have hml : c.maxLocals = 4 := hml0
  have hown : s.vm.findClass "com/example/envelop/envelop/plan/Zone" = some m.cls := findClass_of_methodNamed Bd.named
  have hnm := (name_of_methodNamed Bd.named Bd.method).1
  have X0 : Stand p l e ({ frames := 2, cells := 0, slots := 0, locals := 42 } : Room) s m #[(.ref a1), (.int (1 : Int32)), (.long q2)] below meth c s₁ [] 0 0 := Stand.of_body Bd
  have e0 : s₁.heap = h0 := by rw [← hh, Bd.state]; rfl
  have N0 := Fr.nil n0
  refine Go.start (P := (fun o U' => ∃ v L, o = .returned v ∧ Q_rm13_2 Z a1 q2 a3 k4 h0 n0 v U'.heap L ∧ FrameEnd s o U' L ({ frames := 2, cells := 0, slots := 0, locals := 42 } : Room).cells ({ frames := 2, cells := 0, slots := 0, locals := 42 } : Room).slots)) (castTop (g' := (mkF m 0 #[.val (.ref a1), .val (.int (1 : Int32)), .val (.long q2), .second] [])) (by first | rfl | simp [entryFrame, mkF, argsToLocals, Value.category]) (T := s₁)) ?_
  refine Go.st (fun t k => XS.aloadN X0.here hx rfl (hb hby d13_0) rfl rfl k) ?_
  show Go p e below _ (s₁.setTop (mkF m 1 #[.val (.ref a1), .val (.int (1 : Int32)), .val (.long q2), .second] [(.ref a1)]))
  refine Go.st (fun t k => XS.iconst X0.here hx rfl (hb hby d13_1) k) ?_
  show Go p e below _ (s₁.setTop (mkF m 2 #[.val (.ref a1), .val (.int (1 : Int32)), .val (.long q2), .second] [(.int (0 : Int32)), (.ref a1)]))
  refine Go.st (fun t k => XS.iloadN X0.here hx rfl (hb hby d13_2) rfl k) ?_
  show Go p e below _ (s₁.setTop (mkF m 3 #[.val (.ref a1), .val (.int (1 : Int32)), .val (.long q2), .second] [(.int (1 : Int32)), (.int (0 : Int32)), (.ref a1)]))
  refine Go.st (fun t k => XS.lloadN X0.here hx rfl (hb hby d13_3) rfl k) ?_
  show Go p e below _ (s₁.setTop (mkF m 4 #[.val (.ref a1), .val (.int (1 : Int32)), .val (.long q2), .second] [(.long q2), (.int (1 : Int32)), (.int (0 : Int32)), (.ref a1)]))
  refine Go.st (fun t k => XS.lneg X0.here hx rfl (hb hby d13_4) rfl k) ?_
  show Go p e below _ (s₁.setTop (mkF m 5 #[.val (.ref a1), .val (.int (1 : Int32)), .val (.long q2), .second] [(.long (-q2)), (.int (1 : Int32)), (.int (0 : Int32)), (.ref a1)]))
  obtain ⟨_, _, ⟨T1, L1, k1, n1⟩, -, X1, ⟨Lc1, hQ1, l1, y1, z1⟩, st1⟩ := Jvm.LawKit.callS X0 hx (y := (⟨"com/example/envelop/envelop/plan/Zone", "atMost", "(J)J"⟩ : MethodName)) hown (mvT hZ (w47 hw)) (mvT hZ (w48 hw)) (mvT hZ (w2 hw)) (mvT hZ (w49 hw)) (by decide) (backOf (W := 3) (rm9_1 l Z a0 hw [] (-q2) h0 n0 O0 ) hZ (w49 hw) (w2 hw) (by decide) (by decide)) (g := (mkF m 5 #[.val (.ref a1), .val (.int (1 : Int32)), .val (.long q2), .second] [(.long (-q2)), (.int (1 : Int32)), (.int (0 : Int32)), (.ref a1)])) rfl (by rw [hml]; rfl) (argsL := [(.long (-q2))]) (rest := [(.int (1 : Int32)), (.int (0 : Int32)), (.ref a1)]) (lenOf pd_5 rfl) rfl (by show 2 * 0 + _ ≤ _; exact Nat.le_of_eq rfl) (hb hby d13_5) (fun vm₁ hw₁ => ⟨rfl, e0, (by decide : 0 + 0 ≤ _), (by decide : 0 + 0 ≤ _)⟩)
  dsimp only [Pt.U, Pt.locs, Pt.cells, Pt.slots] at X1 l1 y1 z1 st1 hQ1
  subst l1 y1 z1
  obtain ⟨rfl, M1, eh1⟩ := hQ1
  have N1 := Fr.app N0 M1
  refine Go.st st1 ?_
  show Go p e below _ (T1.setTop (mkF m 8 #[.val (.ref a1), .val (.int (1 : Int32)), .val (.long q2), .second] [(.long (((-q2) <<< ((1 : Int32) &&& 0x3f).toInt64) ||| (1 : Int64))), (.int (1 : Int32)), (.int (0 : Int32)), (.ref a1)]))
  obtain ⟨cq2, u2, u2'⟩ := P1.cell
  obtain ⟨_, _, ⟨T2, L2, k2, n2⟩, -, X2, ⟨Lc2, hQ2, l2, y2, z2⟩, st2⟩ := X1.privateBack hx (y := (⟨"com/example/envelop/envelop/plan/Zone", "constrain", "(IIJ)Lcom/example/envelop/envelop/plan/Zone;"⟩ : MethodName)) hown (mvT hZ (w55 hw)) (mvT hZ (w56 hw)) (own_selP hZ (w5 hw) (w57 hw) (w56 hw) (by decide)) (Cond.privateMethod_at (mvP hZ (w57 hw) (args := #[]))) (mvT hZ (w58 hw)) (by decide) (backOf (W := 0) (rm11_4 l Z a0 hw [] a1 (((-q2) <<< ((1 : Int32) &&& 0x3f).toInt64) ||| (1 : Int64)) a3 k4 h0 n0 O0 P1 P2 P3 P4 P5 P6 P7) hZ (w58 hw) (w2 hw) (by decide) (by decide)) (g := (mkF m 8 #[.val (.ref a1), .val (.int (1 : Int32)), .val (.long q2), .second] [(.long (((-q2) <<< ((1 : Int32) &&& 0x3f).toInt64) ||| (1 : Int64))), (.int (1 : Int32)), (.int (0 : Int32)), (.ref a1)])) rfl (by rw [hml]; rfl) (Steps.refl _) (a := a1) (by rw [eh1]; exact u2) u2' (argsL := [(.int (0 : Int32)), (.int (1 : Int32)), (.long (((-q2) <<< ((1 : Int32) &&& 0x3f).toInt64) ||| (1 : Int64)))]) (rest := []) (lenOf pd_8 rfl) rfl (by show 2 * 0 + _ ≤ _; exact Nat.le_of_eq rfl) (hb hby d13_8) (fun vm₁ hw₁ => ⟨rfl, eh1, (by decide : 0 + 0 ≤ _), (by decide : 0 + 0 ≤ _)⟩)
  dsimp only [Pt.U, Pt.locs, Pt.cells, Pt.slots] at X2 l2 y2 z2 st2 hQ2
  subst l2 y2 z2
  obtain ⟨rfl, M2, eh2⟩ := hQ2
  have N2 := Fr.app N1 M2
  refine Go.tr st2 ?_
  show Go p e below _ (T2.setTop (mkF m 11 #[.val (.ref a1), .val (.int (1 : Int32)), .val (.long q2), .second] [.null]))
  obtain ⟨fs, hr, hrun, hended, hWd, hsame⟩ := X2.leave (v := some .null) (fun h => by rw [Bd.returns] at h; cases h)
  refine ⟨_, _, ?_, hrun, hended, _, _, rfl, ?_, ⟨⟨_, rfl⟩, hWd, hsame.mono (by decide) (by decide)⟩⟩
  · exact own_retA X2 hx Bd.returns rfl rfl (hb hby d13_11) hr
  · show Q_rm13_2 Z a1 q2 a3 k4 h0 n0 _ T2.heap _
    rw [eh2]
    exact ⟨rfl, N2, rfl⟩
def Q_rm0 (n0 : Nat) (v : Option Value) (L : List Loc) : Prop := v = some (.int (1 : Int32)) ∧ Fr n0 L
set_option maxRecDepth 65536 in
set_option maxHeartbeats 400000000 in
theorem rm0 (l : Launch) (Z : State) (a0 : Array Value) (hw : ∀ d ∈ tables_1, d.before a0 Z = true) (ws : List Jvm.Cond) (i0 : Int32) (h0 : Heap) (n0 : Nat) (O0 : Old Z n0 h0) (Y2 : Sta Z Z.heap "com/example/envelop/envelop/plan/Zone" "ZERO" "J" (.long (1 : Int64))) :
    MetFree l x (head1 (Jvm.Cond.code x code maxLocals ret :: ws) room_1) (fun a U => a = #[(.int i0)] ∧ Z.Warmed39 U.vm ∧ U.heap = h0) (fun _ _ _ _ _ => True) (fun _ U o U' => ∃ v L, o = .returned v ∧ Q_rm0 n0 v L ∧ FrameEnd U o U' L room_1.cells room_1.slots) := by
  refine MetFree.of_bodySF (plainFor_of_name pn_1) hisR ?_
  intro p e s m args below meth c s₁ Bd hml0 hP hK
  obtain ⟨rfl, hZ, hh⟩ := hP
  have hx := Bd.exec
  have hby := Bd.bytes
  have hml : c.maxLocals = 5 := hml0
  have hown : s.vm.findClass "com/example/envelop/envelop/plan/ZoneNonePinLaw" = some m.cls := findClass_of_methodNamed Bd.named
  have hnm := (name_of_methodNamed Bd.named Bd.method).1
  have X0 : Stand p l e room_1 s m #[(.int i0)] below meth c s₁ [] 0 0 := Stand.of_body Bd
  have e0 : s₁.heap = h0 := by rw [← hh, Bd.state]; rfl
  have N0 := Fr.nil n0
  refine Go.start (P := (fun o U' => ∃ v L, o = .returned v ∧ Q_rm0 n0 v L ∧ FrameEnd s o U' L room_1.cells room_1.slots)) (castTop (g' := (mkF m 0 #[.val (.int i0), .unset, .unset, .unset, .unset] [])) (by first | rfl | simp [entryFrame, mkF, argsToLocals, Value.category, maxLocals]) (T := s₁)) ?_
  by_cases hs1 : (i0.toInt64) < (0 : Int64)
  · show Go p e below _ (s₁.setTop (mkF m 0 #[.val (.int i0), .unset, .unset, .unset, .unset] []))
    refine Go.st (fun t k => XS.iloadN X0.here hx rfl (hb hby at_0) rfl k) ?_
    show Go p e below _ (s₁.setTop (mkF m 1 #[.val (.int i0), .unset, .unset, .unset, .unset] [(.int i0)]))
    refine Go.st (fun t k => XS.i2l X0.here hx rfl (hb hby at_1) rfl k) ?_
    show Go p e below _ (s₁.setTop (mkF m 2 #[.val (.int i0), .unset, .unset, .unset, .unset] [(.long (i0.toInt64))]))
    refine Go.st (fun t k => XS.lstoreN X0.here hx rfl (hb hby at_2) rfl (l' := #[.val (.int i0), .val (.long (i0.toInt64)), .second, .unset, .unset]) rfl k) ?_
    show Go p e below _ (s₁.setTop (mkF m 3 #[.val (.int i0), .val (.long (i0.toInt64)), .second, .unset, .unset] []))
    obtain ⟨_, _, ⟨T1, L1, k1, n1⟩, -, X1, ⟨Lc1, hQ1, l1, y1, z1⟩, st1⟩ := Jvm.LawKit.callS X0 hx (y := (⟨"com/example/envelop/envelop/plan/Zone", "none", "()Lcom/example/envelop/envelop/plan/Zone;"⟩ : MethodName)) hown (mvT hZ (w0 hw)) (mvT hZ (w1 hw)) (mvT hZ (w2 hw)) (mvT hZ (w3 hw)) (by decide) (backOf (W := 0) (rm1_1 l Z a0 hw []  h0 n0 O0 Y2) hZ (w3 hw) (w2 hw) (by decide) (by decide)) (g := (mkF m 3 #[.val (.int i0), .val (.long (i0.toInt64)), .second, .unset, .unset] [])) rfl (by rw [hml]; rfl) (argsL := []) (rest := []) (lenOf pd_1 rfl) rfl (by show 2 * 0 + _ ≤ _; exact Nat.le_of_eq rfl) (hb hby at_3) (fun vm₁ hw₁ => ⟨rfl, e0, (by decide : 0 + 2 ≤ _), (by decide : 0 + 3 ≤ _)⟩)
    dsimp only [Pt.U, Pt.locs, Pt.cells, Pt.slots] at X1 l1 y1 z1 st1 hQ1
    subst l1 y1 z1
    obtain ⟨b1_1, b2_1, k2_1, rfl, M1, K1c, r1_0, r1_1, r1_2, r1_3, r1_4, r1_5, r1_6⟩ := hQ1
    have N1 := Fr.app N0 M1
    have g_b1_1 : n0 ≤ b1_1 := Nat.le_trans (own_n0 O0) r1_0
    have g_b2_1 : n0 ≤ b2_1 := Nat.le_trans (own_n0 O0) r1_1
    have O1 : Old Z n0 T1.heap := O0.keep K1c all0
    refine Go.st st1 ?_
    show Go p e below _ (T1.setTop (mkF m 6 #[.val (.int i0), .val (.long (i0.toInt64)), .second, .unset, .unset] [(.ref b1_1)]))
    refine Go.st (fun t k => XS.astoreN X1.here hx rfl (hb hby at_6) rfl rfl (l' := #[.val (.int i0), .val (.long (i0.toInt64)), .second, .val (.ref b1_1), .unset]) rfl k) ?_
    show Go p e below _ (T1.setTop (mkF m 7 #[.val (.int i0), .val (.long (i0.toInt64)), .second, .val (.ref b1_1), .unset] []))
    refine Go.st (fun t k => XS.aloadN X1.here hx rfl (hb hby at_7) rfl rfl k) ?_
    show Go p e below _ (T1.setTop (mkF m 8 #[.val (.int i0), .val (.long (i0.toInt64)), .second, .val (.ref b1_1), .unset] [(.ref b1_1)]))
    obtain ⟨cq2, kq2, q2a, q2b, q2c⟩ := isOf hZ rfl r1_3
    obtain ⟨_, _, ⟨T2, L2, k2, n2⟩, -, X2, ⟨Lc2, hQ2, l2, y2, z2⟩, st2⟩ := X1.virtualBack hx (y := (⟨"com/example/envelop/envelop/plan/Zone", "clocks", "()I"⟩ : MethodName)) (z := (⟨"com/example/envelop/envelop/plan/Zone", "clocks", "()I"⟩ : MethodName)) hown (mvT hZ (w19 hw)) (mvT hZ (w20 hw)) (notFace_of_selects (args := #[]) (mvT hZ (w22 hw))) (mvT hZ (w22 hw)) (mvT hZ (w21 hw)) (by decide) (backOf (W := 0) (rm4_1 l Z a0 hw [] b1_1 T1.heap n0 O1 r1_4) hZ (w23 hw) (w2 hw) (by decide) (by decide)) q2a q2c (g := (mkF m 8 #[.val (.int i0), .val (.long (i0.toInt64)), .second, .val (.ref b1_1), .unset] [(.ref b1_1)])) rfl (by rw [hml]; rfl) (Steps.refl _) (argsL := []) (rest := []) (lenOf pd_2 rfl) rfl (by show 2 * 0 + _ ≤ _; exact Nat.le_of_eq rfl) (hb hby at_8) (fun vm₁ hw₁ => ⟨rfl, rfl, (by decide : 2 + 0 ≤ _), (by decide : 3 + 0 ≤ _)⟩)
    dsimp only [Pt.U, Pt.locs, Pt.cells, Pt.slots] at X2 l2 y2 z2 st2 hQ2
    subst l2 y2 z2
    obtain ⟨rfl, M2, eh2⟩ := hQ2
    have N2 := Fr.app N1 M2
    refine Go.tr st2 ?_
    show Go p e below _ (T2.setTop (mkF m 11 #[.val (.int i0), .val (.long (i0.toInt64)), .second, .val (.ref b1_1), .unset] [(.int (0 : Int32))]))
    refine Go.st (fun t k => XS.ifYes X2.here hx rfl (pc0 := 11) (pc' := 16) rfl (hb hby at_11) rfl (Jvm.Free.XT.i0_eq_t (by decide : (0 : Int32) = (0 : Int32))) (by decide) (by decide) k) ?_
    show Go p e below _ (T2.setTop (mkF m 16 #[.val (.int i0), .val (.long (i0.toInt64)), .second, .val (.ref b1_1), .unset] []))
    refine Go.st (fun t k => XS.aloadN X2.here hx rfl (hb hby at_16) rfl rfl k) ?_
    show Go p e below _ (T2.setTop (mkF m 17 #[.val (.int i0), .val (.long (i0.toInt64)), .second, .val (.ref b1_1), .unset] [(.ref b1_1)]))
    obtain ⟨_, _, ⟨T3, L3, k3, n3⟩, -, X3, ⟨Lc3, hQ3, l3, y3, z3⟩, st3⟩ := Jvm.LawKit.callS X2 hx (y := (⟨"com/example/envelop/envelop/plan/Zone", "none", "()Lcom/example/envelop/envelop/plan/Zone;"⟩ : MethodName)) hown (mvT hZ (w0 hw)) (mvT hZ (w1 hw)) (mvT hZ (w2 hw)) (mvT hZ (w3 hw)) (by decide) (backOf (W := 1) (rm1_1 l Z a0 hw []  T1.heap n0 O1 Y2) hZ (w3 hw) (w2 hw) (by decide) (by decide)) (g := (mkF m 17 #[.val (.int i0), .val (.long (i0.toInt64)), .second, .val (.ref b1_1), .unset] [(.ref b1_1)])) rfl (by rw [hml]; rfl) (argsL := []) (rest := [(.ref b1_1)]) (lenOf pd_1 rfl) rfl (by show 2 * 0 + _ ≤ _; exact Nat.le_of_eq rfl) (hb hby at_17) (fun vm₁ hw₁ => ⟨rfl, eh2, (by decide : 2 + 2 ≤ _), (by decide : 3 + 3 ≤ _)⟩)
    dsimp only [Pt.U, Pt.locs, Pt.cells, Pt.slots] at X3 l3 y3 z3 st3 hQ3
    subst l3 y3 z3
    obtain ⟨b1_3, b2_3, k2_3, rfl, M3, K3c, r3_0, r3_1, r3_2, r3_3, r3_4, r3_5, r3_6⟩ := hQ3
    have N3 := Fr.app N2 M3
    have g_b1_3 : n0 ≤ b1_3 := Nat.le_trans (own_n0 O1) r3_0
    have g_b2_3 : n0 ≤ b2_3 := Nat.le_trans (own_n0 O1) r3_1
    have O3 : Old Z n0 T3.heap := O1.keep K3c all0
    refine Go.st st3 ?_
    show Go p e below _ (T3.setTop (mkF m 20 #[.val (.int i0), .val (.long (i0.toInt64)), .second, .val (.ref b1_1), .unset] [(.ref b1_3), (.ref b1_1)]))
    obtain ⟨cq4, kq4, q4a, q4b, q4c⟩ := isOf hZ rfl (r1_3.keep K3c)
    obtain ⟨_, _, ⟨T4, L4, k4, n4⟩, -, X4, ⟨Lc4, hQ4, l4, y4, z4⟩, st4⟩ := X3.virtualBack hx (y := (⟨"com/example/envelop/envelop/plan/Zone", "within", "(Lcom/example/envelop/envelop/plan/Zone;)Z"⟩ : MethodName)) (z := (⟨"com/example/envelop/envelop/plan/Zone", "within", "(Lcom/example/envelop/envelop/plan/Zone;)Z"⟩ : MethodName)) hown (mvT hZ (w24 hw)) (mvT hZ (w25 hw)) (notFace_of_selects (args := #[]) (mvT hZ (w27 hw))) (mvT hZ (w27 hw)) (mvT hZ (w26 hw)) (by decide) (backOf (W := 0) (rm5_1 l Z a0 hw [] b1_1 b1_3 b2_1 k2_1 b2_3 k2_3 T3.heap n0 O3 (r1_5.keep K3c nin0) (r1_6.keep K3c nin0) r3_5 r3_6) hZ (w28 hw) (w2 hw) (by decide) (by decide)) q4a q4c (g := (mkF m 20 #[.val (.int i0), .val (.long (i0.toInt64)), .second, .val (.ref b1_1), .unset] [(.ref b1_3), (.ref b1_1)])) rfl (by rw [hml]; rfl) (Steps.refl _) (argsL := [(.ref b1_3)]) (rest := []) (lenOf pd_3 rfl) rfl (by show 2 * 0 + _ ≤ _; exact Nat.le_of_eq rfl) (hb hby at_20) (fun vm₁ hw₁ => ⟨rfl, rfl, (by decide : 4 + 0 ≤ _), (by decide : 6 + 0 ≤ _)⟩)
    dsimp only [Pt.U, Pt.locs, Pt.cells, Pt.slots] at X4 l4 y4 z4 st4 hQ4
    subst l4 y4 z4
    obtain ⟨rfl, M4, eh4⟩ := hQ4
    have N4 := Fr.app N3 M4
    refine Go.tr st4 ?_
    show Go p e below _ (T4.setTop (mkF m 23 #[.val (.int i0), .val (.long (i0.toInt64)), .second, .val (.ref b1_1), .unset] [(.int (1 : Int32))]))
    refine Go.st (fun t k => XS.ifYes X4.here hx rfl (pc0 := 23) (pc' := 28) rfl (hb hby at_23) rfl (Jvm.Free.XT.i0_ne_t (by decide : ¬ ((1 : Int32) = (0 : Int32)))) (by decide) (by decide) k) ?_
    show Go p e below _ (T4.setTop (mkF m 28 #[.val (.int i0), .val (.long (i0.toInt64)), .second, .val (.ref b1_1), .unset] []))
    refine Go.st (fun t k => XS.aloadN X4.here hx rfl (hb hby at_28) rfl rfl k) ?_
    show Go p e below _ (T4.setTop (mkF m 29 #[.val (.int i0), .val (.long (i0.toInt64)), .second, .val (.ref b1_1), .unset] [(.ref b1_1)]))
    obtain ⟨cq5, kq5, q5a, q5b, q5c⟩ := isOf hZ eh4 (r1_3.keep K3c)
    obtain ⟨_, _, ⟨T5, L5, k5, n5⟩, -, X5, ⟨Lc5, hQ5, l5, y5, z5⟩, st5⟩ := X4.virtualBack hx (y := (⟨"com/example/envelop/envelop/plan/Zone", "reset", "()Lcom/example/envelop/envelop/plan/Zone;"⟩ : MethodName)) (z := (⟨"com/example/envelop/envelop/plan/Zone", "reset", "()Lcom/example/envelop/envelop/plan/Zone;"⟩ : MethodName)) hown (mvT hZ (w29 hw)) (mvT hZ (w30 hw)) (notFace_of_selects (args := #[]) (mvT hZ (w32 hw))) (mvT hZ (w32 hw)) (mvT hZ (w31 hw)) (by decide) (backOf (W := 0) (rm6_1 l Z a0 hw [] b1_1 b2_1 k2_1 T3.heap n0 O3 (r1_4.keep K3c nin0) (r1_5.keep K3c nin0) (r1_6.keep K3c nin0) (r1_3.keep K3c) Y2) hZ (w33 hw) (w2 hw) (by decide) (by decide)) q5a q5c (g := (mkF m 29 #[.val (.int i0), .val (.long (i0.toInt64)), .second, .val (.ref b1_1), .unset] [(.ref b1_1)])) rfl (by rw [hml]; rfl) (Steps.refl _) (argsL := []) (rest := []) (lenOf pd_1 rfl) rfl (by show 2 * 0 + _ ≤ _; exact Nat.le_of_eq rfl) (hb hby at_29) (fun vm₁ hw₁ => ⟨rfl, eh4, (by decide : 4 + 2 ≤ _), (by decide : 6 + 6 ≤ _)⟩)
    dsimp only [Pt.U, Pt.locs, Pt.cells, Pt.slots] at X5 l5 y5 z5 st5 hQ5
    subst l5 y5 z5
    obtain ⟨b2_5, b26_5, k2_5, rfl, M5, K5c, r5_0, r5_1, r5_2, r5_3, r5_4, r5_5, r5_6⟩ := hQ5
    have N5 := Fr.app N4 M5
    have g_b2_5 : n0 ≤ b2_5 := Nat.le_trans (own_n0 O3) r5_0
    have g_b26_5 : n0 ≤ b26_5 := Nat.le_trans (own_n0 O3) r5_1
    have O5 : Old Z n0 T5.heap := O3.keep K5c all0
    refine Go.tr st5 ?_
    show Go p e below _ (T5.setTop (mkF m 32 #[.val (.int i0), .val (.long (i0.toInt64)), .second, .val (.ref b1_1), .unset] [(.ref b26_5)]))
    refine Go.st (fun t k => XS.astore X5.here hx rfl (hb hby at_32) rfl rfl (l' := #[.val (.int i0), .val (.long (i0.toInt64)), .second, .val (.ref b1_1), .val (.ref b26_5)]) rfl k) ?_
    show Go p e below _ (T5.setTop (mkF m 34 #[.val (.int i0), .val (.long (i0.toInt64)), .second, .val (.ref b1_1), .val (.ref b26_5)] []))
    refine Go.st (fun t k => XS.aload X5.here hx rfl (hb hby at_34) rfl rfl k) ?_
    show Go p e below _ (T5.setTop (mkF m 36 #[.val (.int i0), .val (.long (i0.toInt64)), .second, .val (.ref b1_1), .val (.ref b26_5)] [(.ref b26_5)]))
    obtain ⟨cq6, kq6, q6a, q6b, q6c⟩ := isOf hZ rfl r5_3
    obtain ⟨_, _, ⟨T6, L6, k6, n6⟩, -, X6, ⟨Lc6, hQ6, l6, y6, z6⟩, st6⟩ := X5.virtualBack hx (y := (⟨"com/example/envelop/envelop/plan/Zone", "clocks", "()I"⟩ : MethodName)) (z := (⟨"com/example/envelop/envelop/plan/Zone", "clocks", "()I"⟩ : MethodName)) hown (mvT hZ (w19 hw)) (mvT hZ (w20 hw)) (notFace_of_selects (args := #[]) (mvT hZ (w22 hw))) (mvT hZ (w22 hw)) (mvT hZ (w21 hw)) (by decide) (backOf (W := 0) (rm4_2 l Z a0 hw [] b26_5 T5.heap n0 O5 r5_4) hZ (w23 hw) (w2 hw) (by decide) (by decide)) q6a q6c (g := (mkF m 36 #[.val (.int i0), .val (.long (i0.toInt64)), .second, .val (.ref b1_1), .val (.ref b26_5)] [(.ref b26_5)])) rfl (by rw [hml]; rfl) (Steps.refl _) (argsL := []) (rest := []) (lenOf pd_2 rfl) rfl (by show 2 * 0 + _ ≤ _; exact Nat.le_of_eq rfl) (hb hby at_36) (fun vm₁ hw₁ => ⟨rfl, rfl, (by decide : 6 + 0 ≤ _), (by decide : 12 + 0 ≤ _)⟩)
    dsimp only [Pt.U, Pt.locs, Pt.cells, Pt.slots] at X6 l6 y6 z6 st6 hQ6
    subst l6 y6 z6
    obtain ⟨rfl, M6, eh6⟩ := hQ6
    have N6 := Fr.app N5 M6
    refine Go.tr st6 ?_
    show Go p e below _ (T6.setTop (mkF m 39 #[.val (.int i0), .val (.long (i0.toInt64)), .second, .val (.ref b1_1), .val (.ref b26_5)] [(.int (1 : Int32))]))
    refine Go.st (fun t k => XS.iconst X6.here hx rfl (hb hby at_39) k) ?_
    show Go p e below _ (T6.setTop (mkF m 40 #[.val (.int i0), .val (.long (i0.toInt64)), .second, .val (.ref b1_1), .val (.ref b26_5)] [(.int (1 : Int32)), (.int (1 : Int32))]))
    refine Go.st (fun t k => XS.icmpYes X6.here hx rfl (pc0 := 40) (pc' := 45) rfl (hb hby at_40) rfl (Jvm.Free.XT.ii_eq_t (by decide : (1 : Int32) = (1 : Int32))) (by decide) (by decide) k) ?_
    show Go p e below _ (T6.setTop (mkF m 45 #[.val (.int i0), .val (.long (i0.toInt64)), .second, .val (.ref b1_1), .val (.ref b26_5)] []))
    refine Go.st (fun t k => XS.aload X6.here hx rfl (hb hby at_45) rfl rfl k) ?_
    show Go p e below _ (T6.setTop (mkF m 47 #[.val (.int i0), .val (.long (i0.toInt64)), .second, .val (.ref b1_1), .val (.ref b26_5)] [(.ref b26_5)]))
    refine Go.st (fun t k => XS.iconst X6.here hx rfl (hb hby at_47) k) ?_
    show Go p e below _ (T6.setTop (mkF m 48 #[.val (.int i0), .val (.long (i0.toInt64)), .second, .val (.ref b1_1), .val (.ref b26_5)] [(.int (1 : Int32)), (.ref b26_5)]))
    refine Go.st (fun t k => XS.lloadN X6.here hx rfl (hb hby at_48) rfl k) ?_
    show Go p e below _ (T6.setTop (mkF m 49 #[.val (.int i0), .val (.long (i0.toInt64)), .second, .val (.ref b1_1), .val (.ref b26_5)] [(.long (i0.toInt64)), (.int (1 : Int32)), (.ref b26_5)]))
    have hp7 : ¬ ((((-(i0.toInt64)) <<< ((1 : Int32) &&& 0x3f).toInt64) ||| (1 : Int64)) < (1 : Int64)) := by
      have j1 := own_b32 i0
      have j2 := own_b64 (i0.toInt64)
      have j3 := c_i2l i0
      have j4 : ((0 : Int64)).toInt = 0 := by decide
      have j5 := Int64.lt_iff_toInt_lt.mp hs1
      have j6 := own_b64 (-(i0.toInt64))
      have j7 := c_lneg (i0.toInt64)
      have j8 := own_b64 ((-(i0.toInt64)) <<< ((1 : Int32) &&& 0x3f).toInt64)
      have j9 := own_lshl (-(i0.toInt64)) (1 : Int32) 1 2 (by decide) (by decide)
      have j10 : ((1 : Int64)).toInt = 1 := by decide
      have j11 := own_b64 (((-(i0.toInt64)) <<< ((1 : Int32) &&& 0x3f).toInt64) ||| (1 : Int64))
      have j12 := c_orL ((-(i0.toInt64)) <<< ((1 : Int32) &&& 0x3f).toInt64) (1 : Int64) 1 (by decide) 2 (by decide)
      rw [Int64.lt_iff_toInt_lt]
      omega
    obtain ⟨cq8, kq8, q8a, q8b, q8c⟩ := isOf hZ eh6 r5_3
    obtain ⟨_, _, ⟨T8, L8, k8, n8⟩, -, X8, ⟨Lc8, hQ8, l8, y8, z8⟩, st8⟩ := X6.virtualBack hx (y := (⟨"com/example/envelop/envelop/plan/Zone", "impliesAtLeast", "(IJ)Z"⟩ : MethodName)) (z := (⟨"com/example/envelop/envelop/plan/Zone", "impliesAtLeast", "(IJ)Z"⟩ : MethodName)) hown (mvT hZ (w42 hw)) (mvT hZ (w43 hw)) (notFace_of_selects (args := #[]) (mvT hZ (w45 hw))) (mvT hZ (w45 hw)) (mvT hZ (w44 hw)) (by decide) (backOf (W := 0) (rm8_1 l Z a0 hw [] b26_5 (i0.toInt64) b2_5 k2_5 T5.heap n0 O5 r5_3 r5_5 r5_4 r5_6 hp7) hZ (w46 hw) (w2 hw) (by decide) (by decide)) q8a q8c (g := (mkF m 49 #[.val (.int i0), .val (.long (i0.toInt64)), .second, .val (.ref b1_1), .val (.ref b26_5)] [(.long (i0.toInt64)), (.int (1 : Int32)), (.ref b26_5)])) rfl (by rw [hml]; rfl) (Steps.refl _) (argsL := [(.int (1 : Int32)), (.long (i0.toInt64))]) (rest := []) (lenOf pd_6 rfl) rfl (by show 2 * 0 + _ ≤ _; exact Nat.le_of_eq rfl) (hb hby at_49) (fun vm₁ hw₁ => ⟨rfl, eh6, (by decide : 6 + 0 ≤ _), (by decide : 12 + 0 ≤ _)⟩)
    dsimp only [Pt.U, Pt.locs, Pt.cells, Pt.slots] at X8 l8 y8 z8 st8 hQ8
    subst l8 y8 z8
    obtain ⟨rfl, M8, eh8⟩ := hQ8
    have N8 := Fr.app N6 M8
    refine Go.tr st8 ?_
    show Go p e below _ (T8.setTop (mkF m 52 #[.val (.int i0), .val (.long (i0.toInt64)), .second, .val (.ref b1_1), .val (.ref b26_5)] [(.int (1 : Int32))]))
    refine Go.st (fun t k => XS.lloadN X8.here hx rfl (hb hby at_52) rfl k) ?_
    show Go p e below _ (T8.setTop (mkF m 53 #[.val (.int i0), .val (.long (i0.toInt64)), .second, .val (.ref b1_1), .val (.ref b26_5)] [(.long (i0.toInt64)), (.int (1 : Int32))]))
    refine Go.st (fun t k => XS.lconst X8.here hx rfl (hb hby at_53) k) ?_
    show Go p e below _ (T8.setTop (mkF m 54 #[.val (.int i0), .val (.long (i0.toInt64)), .second, .val (.ref b1_1), .val (.ref b26_5)] [(.long (0 : Int64)), (.long (i0.toInt64)), (.int (1 : Int32))]))
    refine Go.st (fun t k => Jvm.Free.XT.lcmp X8.here hx rfl (hb hby at_54) rfl k) ?_
    show Go p e below _ (T8.setTop (mkF m 55 #[.val (.int i0), .val (.long (i0.toInt64)), .second, .val (.ref b1_1), .val (.ref b26_5)] [(.int (Jvm.Free.XT.cmpL (i0.toInt64) (0 : Int64))), (.int (1 : Int32))]))
    have hp9 : ¬ ((0 : Int64) < (i0.toInt64)) := by
      have j1 := own_b32 i0
      have j2 := own_b64 (i0.toInt64)
      have j3 := c_i2l i0
      have j4 : ((0 : Int64)).toInt = 0 := by decide
      have j5 := Int64.lt_iff_toInt_lt.mp hs1
      rw [Int64.lt_iff_toInt_lt]
      omega
    refine Go.st (fun t k => XS.ifNo X8.here hx rfl (hb hby at_55) rfl (Jvm.Free.XT.ll_gt_f hp9) k) ?_
    show Go p e below _ (T8.setTop (mkF m 58 #[.val (.int i0), .val (.long (i0.toInt64)), .second, .val (.ref b1_1), .val (.ref b26_5)] [(.int (1 : Int32))]))
    refine Go.st (fun t k => XS.iconst X8.here hx rfl (hb hby at_58) k) ?_
    show Go p e below _ (T8.setTop (mkF m 59 #[.val (.int i0), .val (.long (i0.toInt64)), .second, .val (.ref b1_1), .val (.ref b26_5)] [(.int (1 : Int32)), (.int (1 : Int32))]))
    refine Go.st (fun t k => XS.goto X8.here hx rfl (pc0 := 59) (pc' := 63) rfl (hb hby at_59) (by decide) (by decide) k) ?_
    show Go p e below _ (T8.setTop (mkF m 63 #[.val (.int i0), .val (.long (i0.toInt64)), .second, .val (.ref b1_1), .val (.ref b26_5)] [(.int (1 : Int32)), (.int (1 : Int32))]))
    refine Go.st (fun t k => XS.icmpYes X8.here hx rfl (pc0 := 63) (pc' := 68) rfl (hb hby at_63) rfl (Jvm.Free.XT.ii_eq_t (by decide : (1 : Int32) = (1 : Int32))) (by decide) (by decide) k) ?_
    show Go p e below _ (T8.setTop (mkF m 68 #[.val (.int i0), .val (.long (i0.toInt64)), .second, .val (.ref b1_1), .val (.ref b26_5)] []))
    refine Go.st (fun t k => XS.aload X8.here hx rfl (hb hby at_68) rfl rfl k) ?_
    show Go p e below _ (T8.setTop (mkF m 70 #[.val (.int i0), .val (.long (i0.toInt64)), .second, .val (.ref b1_1), .val (.ref b26_5)] [(.ref b26_5)]))
    refine Go.st (fun t k => XS.iconst X8.here hx rfl (hb hby at_70) k) ?_
    show Go p e below _ (T8.setTop (mkF m 71 #[.val (.int i0), .val (.long (i0.toInt64)), .second, .val (.ref b1_1), .val (.ref b26_5)] [(.int (1 : Int32)), (.ref b26_5)]))
    refine Go.st (fun t k => XS.lloadN X8.here hx rfl (hb hby at_71) rfl k) ?_
    show Go p e below _ (T8.setTop (mkF m 72 #[.val (.int i0), .val (.long (i0.toInt64)), .second, .val (.ref b1_1), .val (.ref b26_5)] [(.long (i0.toInt64)), (.int (1 : Int32)), (.ref b26_5)]))
    have hp10 : ¬ ((((i0.toInt64) <<< ((1 : Int32) &&& 0x3f).toInt64) ||| (1 : Int64)) = (9223372036854775807 : Int64)) := by
      have j1 := own_b32 i0
      have j2 := own_b64 (i0.toInt64)
      have j3 := c_i2l i0
      have j4 : ((0 : Int64)).toInt = 0 := by decide
      have j5 := Int64.lt_iff_toInt_lt.mp hs1
      have j6 := own_b64 ((i0.toInt64) <<< ((1 : Int32) &&& 0x3f).toInt64)
      have j7 := own_lshl (i0.toInt64) (1 : Int32) 1 2 (by decide) (by decide)
      have j8 : ((1 : Int64)).toInt = 1 := by decide
      have j9 := own_b64 (((i0.toInt64) <<< ((1 : Int32) &&& 0x3f).toInt64) ||| (1 : Int64))
      have j10 := c_orL ((i0.toInt64) <<< ((1 : Int32) &&& 0x3f).toInt64) (1 : Int64) 1 (by decide) 2 (by decide)
      have j11 : ((9223372036854775807 : Int64)).toInt = 9223372036854775807 := by decide
      rw [← Int64.toInt_inj]
      omega
    have hp11 : (((((((i0.toInt64) <<< ((1 : Int32) &&& 0x3f).toInt64) ||| (1 : Int64)) >>> ((1 : Int32) &&& 0x3f).toInt64) + (0 : Int64)) <<< ((1 : Int32) &&& 0x3f).toInt64) ||| (((((i0.toInt64) <<< ((1 : Int32) &&& 0x3f).toInt64) ||| (1 : Int64)) &&& (1 : Int64)) &&& (1 : Int64))) < (1 : Int64) := by
      have j1 := own_b32 i0
      have j2 := own_b64 (i0.toInt64)
      have j3 := c_i2l i0
      have j4 : ((0 : Int64)).toInt = 0 := by decide
      have j5 := Int64.lt_iff_toInt_lt.mp hs1
      have j6 := own_b64 ((i0.toInt64) <<< ((1 : Int32) &&& 0x3f).toInt64)
      have j7 := own_lshl (i0.toInt64) (1 : Int32) 1 2 (by decide) (by decide)
      have j8 : ((1 : Int64)).toInt = 1 := by decide
      have j9 := own_b64 (((i0.toInt64) <<< ((1 : Int32) &&& 0x3f).toInt64) ||| (1 : Int64))
      have j10 := c_orL ((i0.toInt64) <<< ((1 : Int32) &&& 0x3f).toInt64) (1 : Int64) 1 (by decide) 2 (by decide)
      have j11 := own_b64 ((((i0.toInt64) <<< ((1 : Int32) &&& 0x3f).toInt64) ||| (1 : Int64)) >>> ((1 : Int32) &&& 0x3f).toInt64)
      have j12 := own_lshr (((i0.toInt64) <<< ((1 : Int32) &&& 0x3f).toInt64) ||| (1 : Int64)) (1 : Int32) 1 2 (by decide) (by decide)
      have j13 := own_b64 (((((i0.toInt64) <<< ((1 : Int32) &&& 0x3f).toInt64) ||| (1 : Int64)) >>> ((1 : Int32) &&& 0x3f).toInt64) + (0 : Int64))
      have j14 := c_ladd ((((i0.toInt64) <<< ((1 : Int32) &&& 0x3f).toInt64) ||| (1 : Int64)) >>> ((1 : Int32) &&& 0x3f).toInt64) (0 : Int64)
      have j15 := own_b64 ((((((i0.toInt64) <<< ((1 : Int32) &&& 0x3f).toInt64) ||| (1 : Int64)) >>> ((1 : Int32) &&& 0x3f).toInt64) + (0 : Int64)) <<< ((1 : Int32) &&& 0x3f).toInt64)
      have j16 := own_lshl (((((i0.toInt64) <<< ((1 : Int32) &&& 0x3f).toInt64) ||| (1 : Int64)) >>> ((1 : Int32) &&& 0x3f).toInt64) + (0 : Int64)) (1 : Int32) 1 2 (by decide) (by decide)
      have j17 := own_b64 ((((i0.toInt64) <<< ((1 : Int32) &&& 0x3f).toInt64) ||| (1 : Int64)) &&& (1 : Int64))
      have j18 := own_mask64 (((i0.toInt64) <<< ((1 : Int32) &&& 0x3f).toInt64) ||| (1 : Int64)) (1 : Int64) 1 2 (by decide) (by decide) (by decide)
      have j19 := own_b64 (((((i0.toInt64) <<< ((1 : Int32) &&& 0x3f).toInt64) ||| (1 : Int64)) &&& (1 : Int64)) &&& (1 : Int64))
      have j20 := own_mask64 ((((i0.toInt64) <<< ((1 : Int32) &&& 0x3f).toInt64) ||| (1 : Int64)) &&& (1 : Int64)) (1 : Int64) 1 2 (by decide) (by decide) (by decide)
      have j21 := own_b64 (((((((i0.toInt64) <<< ((1 : Int32) &&& 0x3f).toInt64) ||| (1 : Int64)) >>> ((1 : Int32) &&& 0x3f).toInt64) + (0 : Int64)) <<< ((1 : Int32) &&& 0x3f).toInt64) ||| (((((i0.toInt64) <<< ((1 : Int32) &&& 0x3f).toInt64) ||| (1 : Int64)) &&& (1 : Int64)) &&& (1 : Int64)))
      have j22 := c_orL ((((((i0.toInt64) <<< ((1 : Int32) &&& 0x3f).toInt64) ||| (1 : Int64)) >>> ((1 : Int32) &&& 0x3f).toInt64) + (0 : Int64)) <<< ((1 : Int32) &&& 0x3f).toInt64) (((((i0.toInt64) <<< ((1 : Int32) &&& 0x3f).toInt64) ||| (1 : Int64)) &&& (1 : Int64)) &&& (1 : Int64)) 1 (by decide) 2 (by decide)
      rw [Int64.lt_iff_toInt_lt]
      omega
    obtain ⟨cq12, kq12, q12a, q12b, q12c⟩ := isOf hZ eh8 r5_3
    obtain ⟨_, _, ⟨T12, L12, k12, n12⟩, -, X12, ⟨Lc12, hQ12, l12, y12, z12⟩, st12⟩ := X8.virtualBack hx (y := (⟨"com/example/envelop/envelop/plan/Zone", "atMost", "(IJ)Lcom/example/envelop/envelop/plan/Zone;"⟩ : MethodName)) (z := (⟨"com/example/envelop/envelop/plan/Zone", "atMost", "(IJ)Lcom/example/envelop/envelop/plan/Zone;"⟩ : MethodName)) hown (mvT hZ (w50 hw)) (mvT hZ (w51 hw)) (notFace_of_selects (args := #[]) (mvT hZ (w53 hw))) (mvT hZ (w53 hw)) (mvT hZ (w52 hw)) (by decide) (backOf (W := 0) (rm10_1 l Z a0 hw [] b26_5 (i0.toInt64) b2_5 k2_5 T5.heap n0 O5 r5_3 r5_5 r5_4 r5_6 hp10 Y2 hp11) hZ (w54 hw) (w2 hw) (by decide) (by decide)) q12a q12c (g := (mkF m 72 #[.val (.int i0), .val (.long (i0.toInt64)), .second, .val (.ref b1_1), .val (.ref b26_5)] [(.long (i0.toInt64)), (.int (1 : Int32)), (.ref b26_5)])) rfl (by rw [hml]; rfl) (Steps.refl _) (argsL := [(.int (1 : Int32)), (.long (i0.toInt64))]) (rest := []) (lenOf pd_9 rfl) rfl (by show 2 * 0 + _ ≤ _; exact Nat.le_of_eq rfl) (hb hby at_72) (fun vm₁ hw₁ => ⟨rfl, eh8, (by decide : 6 + 0 ≤ _), (by decide : 12 + 0 ≤ _)⟩)
    dsimp only [Pt.U, Pt.locs, Pt.cells, Pt.slots] at X12 l12 y12 z12 st12 hQ12
    subst l12 y12 z12
    obtain ⟨rfl, M12, eh12⟩ := hQ12
    have N12 := Fr.app N8 M12
    refine Go.tr st12 ?_
    show Go p e below _ (T12.setTop (mkF m 75 #[.val (.int i0), .val (.long (i0.toInt64)), .second, .val (.ref b1_1), .val (.ref b26_5)] [.null]))
    refine Go.st (fun t k => XS.ifnullYes X12.here hx rfl (pc0 := 75) (pc' := 82) rfl (hb hby at_75) rfl (by decide) (by decide) k) ?_
    show Go p e below _ (T12.setTop (mkF m 82 #[.val (.int i0), .val (.long (i0.toInt64)), .second, .val (.ref b1_1), .val (.ref b26_5)] []))
    refine Go.st (fun t k => XS.iconst X12.here hx rfl (hb hby at_82) k) ?_
    show Go p e below _ (T12.setTop (mkF m 83 #[.val (.int i0), .val (.long (i0.toInt64)), .second, .val (.ref b1_1), .val (.ref b26_5)] [(.int (0 : Int32))]))
    refine Go.st (fun t k => XS.lloadN X12.here hx rfl (hb hby at_83) rfl k) ?_
    show Go p e below _ (T12.setTop (mkF m 84 #[.val (.int i0), .val (.long (i0.toInt64)), .second, .val (.ref b1_1), .val (.ref b26_5)] [(.long (i0.toInt64)), (.int (0 : Int32))]))
    refine Go.st (fun t k => XS.lconst X12.here hx rfl (hb hby at_84) k) ?_
    show Go p e below _ (T12.setTop (mkF m 85 #[.val (.int i0), .val (.long (i0.toInt64)), .second, .val (.ref b1_1), .val (.ref b26_5)] [(.long (0 : Int64)), (.long (i0.toInt64)), (.int (0 : Int32))]))
    refine Go.st (fun t k => Jvm.Free.XT.lcmp X12.here hx rfl (hb hby at_85) rfl k) ?_
    show Go p e below _ (T12.setTop (mkF m 86 #[.val (.int i0), .val (.long (i0.toInt64)), .second, .val (.ref b1_1), .val (.ref b26_5)] [(.int (Jvm.Free.XT.cmpL (i0.toInt64) (0 : Int64))), (.int (0 : Int32))]))
    refine Go.st (fun t k => XS.ifYes X12.here hx rfl (pc0 := 86) (pc' := 93) rfl (hb hby at_86) rfl (Jvm.Free.XT.ll_lt_t hs1) (by decide) (by decide) k) ?_
    show Go p e below _ (T12.setTop (mkF m 93 #[.val (.int i0), .val (.long (i0.toInt64)), .second, .val (.ref b1_1), .val (.ref b26_5)] [(.int (0 : Int32))]))
    refine Go.st (fun t k => XS.iconst X12.here hx rfl (hb hby at_93) k) ?_
    show Go p e below _ (T12.setTop (mkF m 94 #[.val (.int i0), .val (.long (i0.toInt64)), .second, .val (.ref b1_1), .val (.ref b26_5)] [(.int (0 : Int32)), (.int (0 : Int32))]))
    refine Go.st (fun t k => XS.icmpYes X12.here hx rfl (pc0 := 94) (pc' := 99) rfl (hb hby at_94) rfl (Jvm.Free.XT.ii_eq_t (by decide : (0 : Int32) = (0 : Int32))) (by decide) (by decide) k) ?_
    show Go p e below _ (T12.setTop (mkF m 99 #[.val (.int i0), .val (.long (i0.toInt64)), .second, .val (.ref b1_1), .val (.ref b26_5)] []))
    refine Go.st (fun t k => XS.aload X12.here hx rfl (hb hby at_99) rfl rfl k) ?_
    show Go p e below _ (T12.setTop (mkF m 101 #[.val (.int i0), .val (.long (i0.toInt64)), .second, .val (.ref b1_1), .val (.ref b26_5)] [(.ref b26_5)]))
    refine Go.st (fun t k => XS.iconst X12.here hx rfl (hb hby at_101) k) ?_
    show Go p e below _ (T12.setTop (mkF m 102 #[.val (.int i0), .val (.long (i0.toInt64)), .second, .val (.ref b1_1), .val (.ref b26_5)] [(.int (1 : Int32)), (.ref b26_5)]))
    refine Go.st (fun t k => XS.lloadN X12.here hx rfl (hb hby at_102) rfl k) ?_
    show Go p e below _ (T12.setTop (mkF m 103 #[.val (.int i0), .val (.long (i0.toInt64)), .second, .val (.ref b1_1), .val (.ref b26_5)] [(.long (i0.toInt64)), (.int (1 : Int32)), (.ref b26_5)]))
    have hp13 : ¬ ((((-(i0.toInt64)) <<< ((1 : Int32) &&& 0x3f).toInt64) ||| (1 : Int64)) = (9223372036854775807 : Int64)) := by
      have j1 := own_b32 i0
      have j2 := own_b64 (i0.toInt64)
      have j3 := c_i2l i0
      have j4 : ((0 : Int64)).toInt = 0 := by decide
      have j5 := Int64.lt_iff_toInt_lt.mp hs1
      have j6 := own_b64 (-(i0.toInt64))
      have j7 := c_lneg (i0.toInt64)
      have j8 := own_b64 ((-(i0.toInt64)) <<< ((1 : Int32) &&& 0x3f).toInt64)
      have j9 := own_lshl (-(i0.toInt64)) (1 : Int32) 1 2 (by decide) (by decide)
      have j10 : ((1 : Int64)).toInt = 1 := by decide
      have j11 := own_b64 (((-(i0.toInt64)) <<< ((1 : Int32) &&& 0x3f).toInt64) ||| (1 : Int64))
      have j12 := c_orL ((-(i0.toInt64)) <<< ((1 : Int32) &&& 0x3f).toInt64) (1 : Int64) 1 (by decide) 2 (by decide)
      have j13 : ((9223372036854775807 : Int64)).toInt = 9223372036854775807 := by decide
      rw [← Int64.toInt_inj]
      omega
    have hp14 : ¬ ((((((((-(i0.toInt64)) <<< ((1 : Int32) &&& 0x3f).toInt64) ||| (1 : Int64)) >>> ((1 : Int32) &&& 0x3f).toInt64) + (0 : Int64)) <<< ((1 : Int32) &&& 0x3f).toInt64) ||| (((((-(i0.toInt64)) <<< ((1 : Int32) &&& 0x3f).toInt64) ||| (1 : Int64)) &&& (1 : Int64)) &&& (1 : Int64))) < (1 : Int64)) := by
      have j1 := own_b32 i0
      have j2 := own_b64 (i0.toInt64)
      have j3 := c_i2l i0
      have j4 : ((0 : Int64)).toInt = 0 := by decide
      have j5 := Int64.lt_iff_toInt_lt.mp hs1
      have j6 := own_b64 (-(i0.toInt64))
      have j7 := c_lneg (i0.toInt64)
      have j8 := own_b64 ((-(i0.toInt64)) <<< ((1 : Int32) &&& 0x3f).toInt64)
      have j9 := own_lshl (-(i0.toInt64)) (1 : Int32) 1 2 (by decide) (by decide)
      have j10 : ((1 : Int64)).toInt = 1 := by decide
      have j11 := own_b64 (((-(i0.toInt64)) <<< ((1 : Int32) &&& 0x3f).toInt64) ||| (1 : Int64))
      have j12 := c_orL ((-(i0.toInt64)) <<< ((1 : Int32) &&& 0x3f).toInt64) (1 : Int64) 1 (by decide) 2 (by decide)
      have j13 := own_b64 ((((-(i0.toInt64)) <<< ((1 : Int32) &&& 0x3f).toInt64) ||| (1 : Int64)) >>> ((1 : Int32) &&& 0x3f).toInt64)
      have j14 := own_lshr (((-(i0.toInt64)) <<< ((1 : Int32) &&& 0x3f).toInt64) ||| (1 : Int64)) (1 : Int32) 1 2 (by decide) (by decide)
      have j15 := own_b64 (((((-(i0.toInt64)) <<< ((1 : Int32) &&& 0x3f).toInt64) ||| (1 : Int64)) >>> ((1 : Int32) &&& 0x3f).toInt64) + (0 : Int64))
      have j16 := c_ladd ((((-(i0.toInt64)) <<< ((1 : Int32) &&& 0x3f).toInt64) ||| (1 : Int64)) >>> ((1 : Int32) &&& 0x3f).toInt64) (0 : Int64)
      have j17 := own_b64 ((((((-(i0.toInt64)) <<< ((1 : Int32) &&& 0x3f).toInt64) ||| (1 : Int64)) >>> ((1 : Int32) &&& 0x3f).toInt64) + (0 : Int64)) <<< ((1 : Int32) &&& 0x3f).toInt64)
      have j18 := own_lshl (((((-(i0.toInt64)) <<< ((1 : Int32) &&& 0x3f).toInt64) ||| (1 : Int64)) >>> ((1 : Int32) &&& 0x3f).toInt64) + (0 : Int64)) (1 : Int32) 1 2 (by decide) (by decide)
      have j19 := own_b64 ((((-(i0.toInt64)) <<< ((1 : Int32) &&& 0x3f).toInt64) ||| (1 : Int64)) &&& (1 : Int64))
      have j20 := own_mask64 (((-(i0.toInt64)) <<< ((1 : Int32) &&& 0x3f).toInt64) ||| (1 : Int64)) (1 : Int64) 1 2 (by decide) (by decide) (by decide)
      have j21 := own_b64 (((((-(i0.toInt64)) <<< ((1 : Int32) &&& 0x3f).toInt64) ||| (1 : Int64)) &&& (1 : Int64)) &&& (1 : Int64))
      have j22 := own_mask64 ((((-(i0.toInt64)) <<< ((1 : Int32) &&& 0x3f).toInt64) ||| (1 : Int64)) &&& (1 : Int64)) (1 : Int64) 1 2 (by decide) (by decide) (by decide)
      have j23 := own_b64 (((((((-(i0.toInt64)) <<< ((1 : Int32) &&& 0x3f).toInt64) ||| (1 : Int64)) >>> ((1 : Int32) &&& 0x3f).toInt64) + (0 : Int64)) <<< ((1 : Int32) &&& 0x3f).toInt64) ||| (((((-(i0.toInt64)) <<< ((1 : Int32) &&& 0x3f).toInt64) ||| (1 : Int64)) &&& (1 : Int64)) &&& (1 : Int64)))
      have j24 := c_orL ((((((-(i0.toInt64)) <<< ((1 : Int32) &&& 0x3f).toInt64) ||| (1 : Int64)) >>> ((1 : Int32) &&& 0x3f).toInt64) + (0 : Int64)) <<< ((1 : Int32) &&& 0x3f).toInt64) (((((-(i0.toInt64)) <<< ((1 : Int32) &&& 0x3f).toInt64) ||| (1 : Int64)) &&& (1 : Int64)) &&& (1 : Int64)) 1 (by decide) 2 (by decide)
      rw [Int64.lt_iff_toInt_lt]
      omega
    obtain ⟨cq15, kq15, q15a, q15b, q15c⟩ := isOf hZ eh12 r5_3
    obtain ⟨_, _, ⟨T15, L15, k15, n15⟩, -, X15, ⟨Lc15, hQ15, l15, y15, z15⟩, st15⟩ := X12.virtualBack hx (y := (⟨"com/example/envelop/envelop/plan/Zone", "atLeast", "(IJ)Lcom/example/envelop/envelop/plan/Zone;"⟩ : MethodName)) (z := (⟨"com/example/envelop/envelop/plan/Zone", "atLeast", "(IJ)Lcom/example/envelop/envelop/plan/Zone;"⟩ : MethodName)) hown (mvT hZ (w63 hw)) (mvT hZ (w64 hw)) (notFace_of_selects (args := #[]) (mvT hZ (w66 hw))) (mvT hZ (w66 hw)) (mvT hZ (w65 hw)) (by decide) (backOf (W := 0) (rm13_1 l Z a0 hw [] b26_5 (i0.toInt64) b2_5 k2_5 T5.heap n0 O5 r5_3 r5_5 r5_4 r5_6 hp13 Y2 hp14 hp7) hZ (w67 hw) (w2 hw) (by decide) (by decide)) q15a q15c (g := (mkF m 103 #[.val (.int i0), .val (.long (i0.toInt64)), .second, .val (.ref b1_1), .val (.ref b26_5)] [(.long (i0.toInt64)), (.int (1 : Int32)), (.ref b26_5)])) rfl (by rw [hml]; rfl) (Steps.refl _) (argsL := [(.int (1 : Int32)), (.long (i0.toInt64))]) (rest := []) (lenOf pd_9 rfl) rfl (by show 2 * 0 + _ ≤ _; exact Nat.le_of_eq rfl) (hb hby at_103) (fun vm₁ hw₁ => ⟨rfl, eh12, (by decide : 6 + 0 ≤ _), (by decide : 12 + 0 ≤ _)⟩)
    dsimp only [Pt.U, Pt.locs, Pt.cells, Pt.slots] at X15 l15 y15 z15 st15 hQ15
    subst l15 y15 z15
    obtain ⟨rfl, M15, eh15⟩ := hQ15
    have N15 := Fr.app N12 M15
    refine Go.tr st15 ?_
    show Go p e below _ (T15.setTop (mkF m 106 #[.val (.int i0), .val (.long (i0.toInt64)), .second, .val (.ref b1_1), .val (.ref b26_5)] [(.ref b26_5)]))
    refine Go.st (fun t k => XS.ifnullNo X15.here hx rfl (hb hby at_106) rfl k) ?_
    show Go p e below _ (T15.setTop (mkF m 109 #[.val (.int i0), .val (.long (i0.toInt64)), .second, .val (.ref b1_1), .val (.ref b26_5)] []))
    refine Go.st (fun t k => XS.iconst X15.here hx rfl (hb hby at_109) k) ?_
    show Go p e below _ (T15.setTop (mkF m 110 #[.val (.int i0), .val (.long (i0.toInt64)), .second, .val (.ref b1_1), .val (.ref b26_5)] [(.int (1 : Int32))]))
    refine Go.st (fun t k => XS.goto X15.here hx rfl (pc0 := 110) (pc' := 114) rfl (hb hby at_110) (by decide) (by decide) k) ?_
    show Go p e below _ (T15.setTop (mkF m 114 #[.val (.int i0), .val (.long (i0.toInt64)), .second, .val (.ref b1_1), .val (.ref b26_5)] [(.int (1 : Int32))]))
    refine Go.st (fun t k => XS.lloadN X15.here hx rfl (hb hby at_114) rfl k) ?_
    show Go p e below _ (T15.setTop (mkF m 115 #[.val (.int i0), .val (.long (i0.toInt64)), .second, .val (.ref b1_1), .val (.ref b26_5)] [(.long (i0.toInt64)), (.int (1 : Int32))]))
    refine Go.st (fun t k => XS.lconst X15.here hx rfl (hb hby at_115) k) ?_
    show Go p e below _ (T15.setTop (mkF m 116 #[.val (.int i0), .val (.long (i0.toInt64)), .second, .val (.ref b1_1), .val (.ref b26_5)] [(.long (0 : Int64)), (.long (i0.toInt64)), (.int (1 : Int32))]))
    refine Go.st (fun t k => Jvm.Free.XT.lcmp X15.here hx rfl (hb hby at_116) rfl k) ?_
    show Go p e below _ (T15.setTop (mkF m 117 #[.val (.int i0), .val (.long (i0.toInt64)), .second, .val (.ref b1_1), .val (.ref b26_5)] [(.int (Jvm.Free.XT.cmpL (i0.toInt64) (0 : Int64))), (.int (1 : Int32))]))
    refine Go.st (fun t k => XS.ifNo X15.here hx rfl (hb hby at_117) rfl (Jvm.Free.XT.ll_gt_f hp9) k) ?_
    show Go p e below _ (T15.setTop (mkF m 120 #[.val (.int i0), .val (.long (i0.toInt64)), .second, .val (.ref b1_1), .val (.ref b26_5)] [(.int (1 : Int32))]))
    refine Go.st (fun t k => XS.iconst X15.here hx rfl (hb hby at_120) k) ?_
    show Go p e below _ (T15.setTop (mkF m 121 #[.val (.int i0), .val (.long (i0.toInt64)), .second, .val (.ref b1_1), .val (.ref b26_5)] [(.int (1 : Int32)), (.int (1 : Int32))]))
    refine Go.st (fun t k => XS.goto X15.here hx rfl (pc0 := 121) (pc' := 125) rfl (hb hby at_121) (by decide) (by decide) k) ?_
    show Go p e below _ (T15.setTop (mkF m 125 #[.val (.int i0), .val (.long (i0.toInt64)), .second, .val (.ref b1_1), .val (.ref b26_5)] [(.int (1 : Int32)), (.int (1 : Int32))]))
    refine Go.st (fun t k => XS.icmpYes X15.here hx rfl (pc0 := 125) (pc' := 130) rfl (hb hby at_125) rfl (Jvm.Free.XT.ii_eq_t (by decide : (1 : Int32) = (1 : Int32))) (by decide) (by decide) k) ?_
    show Go p e below _ (T15.setTop (mkF m 130 #[.val (.int i0), .val (.long (i0.toInt64)), .second, .val (.ref b1_1), .val (.ref b26_5)] []))
    refine Go.st (fun t k => XS.iconst X15.here hx rfl (hb hby at_130) k) ?_
    show Go p e below _ (T15.setTop (mkF m 131 #[.val (.int i0), .val (.long (i0.toInt64)), .second, .val (.ref b1_1), .val (.ref b26_5)] [(.int (1 : Int32))]))
    obtain ⟨fs, hr, hrun, hended, hWd, hsame⟩ := X15.leave (v := some (.int (1 : Int32))) (fun h => by rw [Bd.returns] at h; cases h)
    refine ⟨_, _, ?_, hrun, hended, _, _, rfl, ?_, ⟨⟨_, rfl⟩, hWd, hsame.mono (by decide) (by decide)⟩⟩
    · exact retN X15 hx (t := .boolean) Bd.returns (by simp) (hb hby at_131) hr
    · exact ⟨rfl, N15⟩
  · show Go p e below _ (s₁.setTop (mkF m 0 #[.val (.int i0), .unset, .unset, .unset, .unset] []))
    refine Go.st (fun t k => XS.iloadN X0.here hx rfl (hb hby at_0) rfl k) ?_
    show Go p e below _ (s₁.setTop (mkF m 1 #[.val (.int i0), .unset, .unset, .unset, .unset] [(.int i0)]))
    refine Go.st (fun t k => XS.i2l X0.here hx rfl (hb hby at_1) rfl k) ?_
    show Go p e below _ (s₁.setTop (mkF m 2 #[.val (.int i0), .unset, .unset, .unset, .unset] [(.long (i0.toInt64))]))
    refine Go.st (fun t k => XS.lstoreN X0.here hx rfl (hb hby at_2) rfl (l' := #[.val (.int i0), .val (.long (i0.toInt64)), .second, .unset, .unset]) rfl k) ?_
    show Go p e below _ (s₁.setTop (mkF m 3 #[.val (.int i0), .val (.long (i0.toInt64)), .second, .unset, .unset] []))
    obtain ⟨_, _, ⟨T16, L16, k16, n16⟩, -, X16, ⟨Lc16, hQ16, l16, y16, z16⟩, st16⟩ := Jvm.LawKit.callS X0 hx (y := (⟨"com/example/envelop/envelop/plan/Zone", "none", "()Lcom/example/envelop/envelop/plan/Zone;"⟩ : MethodName)) hown (mvT hZ (w0 hw)) (mvT hZ (w1 hw)) (mvT hZ (w2 hw)) (mvT hZ (w3 hw)) (by decide) (backOf (W := 0) (rm1_1 l Z a0 hw []  h0 n0 O0 Y2) hZ (w3 hw) (w2 hw) (by decide) (by decide)) (g := (mkF m 3 #[.val (.int i0), .val (.long (i0.toInt64)), .second, .unset, .unset] [])) rfl (by rw [hml]; rfl) (argsL := []) (rest := []) (lenOf pd_1 rfl) rfl (by show 2 * 0 + _ ≤ _; exact Nat.le_of_eq rfl) (hb hby at_3) (fun vm₁ hw₁ => ⟨rfl, e0, (by decide : 0 + 2 ≤ _), (by decide : 0 + 3 ≤ _)⟩)
    dsimp only [Pt.U, Pt.locs, Pt.cells, Pt.slots] at X16 l16 y16 z16 st16 hQ16
    subst l16 y16 z16
    obtain ⟨b1_16, b2_16, k2_16, rfl, M16, K16c, r16_0, r16_1, r16_2, r16_3, r16_4, r16_5, r16_6⟩ := hQ16
    have N16 := Fr.app N0 M16
    have g_b1_16 : n0 ≤ b1_16 := Nat.le_trans (own_n0 O0) r16_0
    have g_b2_16 : n0 ≤ b2_16 := Nat.le_trans (own_n0 O0) r16_1
    have O16 : Old Z n0 T16.heap := O0.keep K16c all0
    refine Go.st st16 ?_
    show Go p e below _ (T16.setTop (mkF m 6 #[.val (.int i0), .val (.long (i0.toInt64)), .second, .unset, .unset] [(.ref b1_16)]))
    refine Go.st (fun t k => XS.astoreN X16.here hx rfl (hb hby at_6) rfl rfl (l' := #[.val (.int i0), .val (.long (i0.toInt64)), .second, .val (.ref b1_16), .unset]) rfl k) ?_
    show Go p e below _ (T16.setTop (mkF m 7 #[.val (.int i0), .val (.long (i0.toInt64)), .second, .val (.ref b1_16), .unset] []))
    refine Go.st (fun t k => XS.aloadN X16.here hx rfl (hb hby at_7) rfl rfl k) ?_
    show Go p e below _ (T16.setTop (mkF m 8 #[.val (.int i0), .val (.long (i0.toInt64)), .second, .val (.ref b1_16), .unset] [(.ref b1_16)]))
    obtain ⟨cq17, kq17, q17a, q17b, q17c⟩ := isOf hZ rfl r16_3
    obtain ⟨_, _, ⟨T17, L17, k17, n17⟩, -, X17, ⟨Lc17, hQ17, l17, y17, z17⟩, st17⟩ := X16.virtualBack hx (y := (⟨"com/example/envelop/envelop/plan/Zone", "clocks", "()I"⟩ : MethodName)) (z := (⟨"com/example/envelop/envelop/plan/Zone", "clocks", "()I"⟩ : MethodName)) hown (mvT hZ (w19 hw)) (mvT hZ (w20 hw)) (notFace_of_selects (args := #[]) (mvT hZ (w22 hw))) (mvT hZ (w22 hw)) (mvT hZ (w21 hw)) (by decide) (backOf (W := 0) (rm4_1 l Z a0 hw [] b1_16 T16.heap n0 O16 r16_4) hZ (w23 hw) (w2 hw) (by decide) (by decide)) q17a q17c (g := (mkF m 8 #[.val (.int i0), .val (.long (i0.toInt64)), .second, .val (.ref b1_16), .unset] [(.ref b1_16)])) rfl (by rw [hml]; rfl) (Steps.refl _) (argsL := []) (rest := []) (lenOf pd_2 rfl) rfl (by show 2 * 0 + _ ≤ _; exact Nat.le_of_eq rfl) (hb hby at_8) (fun vm₁ hw₁ => ⟨rfl, rfl, (by decide : 2 + 0 ≤ _), (by decide : 3 + 0 ≤ _)⟩)
    dsimp only [Pt.U, Pt.locs, Pt.cells, Pt.slots] at X17 l17 y17 z17 st17 hQ17
    subst l17 y17 z17
    obtain ⟨rfl, M17, eh17⟩ := hQ17
    have N17 := Fr.app N16 M17
    refine Go.tr st17 ?_
    show Go p e below _ (T17.setTop (mkF m 11 #[.val (.int i0), .val (.long (i0.toInt64)), .second, .val (.ref b1_16), .unset] [(.int (0 : Int32))]))
    refine Go.st (fun t k => XS.ifYes X17.here hx rfl (pc0 := 11) (pc' := 16) rfl (hb hby at_11) rfl (Jvm.Free.XT.i0_eq_t (by decide : (0 : Int32) = (0 : Int32))) (by decide) (by decide) k) ?_
    show Go p e below _ (T17.setTop (mkF m 16 #[.val (.int i0), .val (.long (i0.toInt64)), .second, .val (.ref b1_16), .unset] []))
    refine Go.st (fun t k => XS.aloadN X17.here hx rfl (hb hby at_16) rfl rfl k) ?_
    show Go p e below _ (T17.setTop (mkF m 17 #[.val (.int i0), .val (.long (i0.toInt64)), .second, .val (.ref b1_16), .unset] [(.ref b1_16)]))
    obtain ⟨_, _, ⟨T18, L18, k18, n18⟩, -, X18, ⟨Lc18, hQ18, l18, y18, z18⟩, st18⟩ := Jvm.LawKit.callS X17 hx (y := (⟨"com/example/envelop/envelop/plan/Zone", "none", "()Lcom/example/envelop/envelop/plan/Zone;"⟩ : MethodName)) hown (mvT hZ (w0 hw)) (mvT hZ (w1 hw)) (mvT hZ (w2 hw)) (mvT hZ (w3 hw)) (by decide) (backOf (W := 1) (rm1_1 l Z a0 hw []  T16.heap n0 O16 Y2) hZ (w3 hw) (w2 hw) (by decide) (by decide)) (g := (mkF m 17 #[.val (.int i0), .val (.long (i0.toInt64)), .second, .val (.ref b1_16), .unset] [(.ref b1_16)])) rfl (by rw [hml]; rfl) (argsL := []) (rest := [(.ref b1_16)]) (lenOf pd_1 rfl) rfl (by show 2 * 0 + _ ≤ _; exact Nat.le_of_eq rfl) (hb hby at_17) (fun vm₁ hw₁ => ⟨rfl, eh17, (by decide : 2 + 2 ≤ _), (by decide : 3 + 3 ≤ _)⟩)
    dsimp only [Pt.U, Pt.locs, Pt.cells, Pt.slots] at X18 l18 y18 z18 st18 hQ18
    subst l18 y18 z18
    obtain ⟨b1_18, b2_18, k2_18, rfl, M18, K18c, r18_0, r18_1, r18_2, r18_3, r18_4, r18_5, r18_6⟩ := hQ18
    have N18 := Fr.app N17 M18
    have g_b1_18 : n0 ≤ b1_18 := Nat.le_trans (own_n0 O16) r18_0
    have g_b2_18 : n0 ≤ b2_18 := Nat.le_trans (own_n0 O16) r18_1
    have O18 : Old Z n0 T18.heap := O16.keep K18c all0
    refine Go.st st18 ?_
    show Go p e below _ (T18.setTop (mkF m 20 #[.val (.int i0), .val (.long (i0.toInt64)), .second, .val (.ref b1_16), .unset] [(.ref b1_18), (.ref b1_16)]))
    obtain ⟨cq19, kq19, q19a, q19b, q19c⟩ := isOf hZ rfl (r16_3.keep K18c)
    obtain ⟨_, _, ⟨T19, L19, k19, n19⟩, -, X19, ⟨Lc19, hQ19, l19, y19, z19⟩, st19⟩ := X18.virtualBack hx (y := (⟨"com/example/envelop/envelop/plan/Zone", "within", "(Lcom/example/envelop/envelop/plan/Zone;)Z"⟩ : MethodName)) (z := (⟨"com/example/envelop/envelop/plan/Zone", "within", "(Lcom/example/envelop/envelop/plan/Zone;)Z"⟩ : MethodName)) hown (mvT hZ (w24 hw)) (mvT hZ (w25 hw)) (notFace_of_selects (args := #[]) (mvT hZ (w27 hw))) (mvT hZ (w27 hw)) (mvT hZ (w26 hw)) (by decide) (backOf (W := 0) (rm5_1 l Z a0 hw [] b1_16 b1_18 b2_16 k2_16 b2_18 k2_18 T18.heap n0 O18 (r16_5.keep K18c nin0) (r16_6.keep K18c nin0) r18_5 r18_6) hZ (w28 hw) (w2 hw) (by decide) (by decide)) q19a q19c (g := (mkF m 20 #[.val (.int i0), .val (.long (i0.toInt64)), .second, .val (.ref b1_16), .unset] [(.ref b1_18), (.ref b1_16)])) rfl (by rw [hml]; rfl) (Steps.refl _) (argsL := [(.ref b1_18)]) (rest := []) (lenOf pd_3 rfl) rfl (by show 2 * 0 + _ ≤ _; exact Nat.le_of_eq rfl) (hb hby at_20) (fun vm₁ hw₁ => ⟨rfl, rfl, (by decide : 4 + 0 ≤ _), (by decide : 6 + 0 ≤ _)⟩)
    dsimp only [Pt.U, Pt.locs, Pt.cells, Pt.slots] at X19 l19 y19 z19 st19 hQ19
    subst l19 y19 z19
    obtain ⟨rfl, M19, eh19⟩ := hQ19
    have N19 := Fr.app N18 M19
    refine Go.tr st19 ?_
    show Go p e below _ (T19.setTop (mkF m 23 #[.val (.int i0), .val (.long (i0.toInt64)), .second, .val (.ref b1_16), .unset] [(.int (1 : Int32))]))
    refine Go.st (fun t k => XS.ifYes X19.here hx rfl (pc0 := 23) (pc' := 28) rfl (hb hby at_23) rfl (Jvm.Free.XT.i0_ne_t (by decide : ¬ ((1 : Int32) = (0 : Int32)))) (by decide) (by decide) k) ?_
    show Go p e below _ (T19.setTop (mkF m 28 #[.val (.int i0), .val (.long (i0.toInt64)), .second, .val (.ref b1_16), .unset] []))
    refine Go.st (fun t k => XS.aloadN X19.here hx rfl (hb hby at_28) rfl rfl k) ?_
    show Go p e below _ (T19.setTop (mkF m 29 #[.val (.int i0), .val (.long (i0.toInt64)), .second, .val (.ref b1_16), .unset] [(.ref b1_16)]))
    obtain ⟨cq20, kq20, q20a, q20b, q20c⟩ := isOf hZ eh19 (r16_3.keep K18c)
    obtain ⟨_, _, ⟨T20, L20, k20, n20⟩, -, X20, ⟨Lc20, hQ20, l20, y20, z20⟩, st20⟩ := X19.virtualBack hx (y := (⟨"com/example/envelop/envelop/plan/Zone", "reset", "()Lcom/example/envelop/envelop/plan/Zone;"⟩ : MethodName)) (z := (⟨"com/example/envelop/envelop/plan/Zone", "reset", "()Lcom/example/envelop/envelop/plan/Zone;"⟩ : MethodName)) hown (mvT hZ (w29 hw)) (mvT hZ (w30 hw)) (notFace_of_selects (args := #[]) (mvT hZ (w32 hw))) (mvT hZ (w32 hw)) (mvT hZ (w31 hw)) (by decide) (backOf (W := 0) (rm6_1 l Z a0 hw [] b1_16 b2_16 k2_16 T18.heap n0 O18 (r16_4.keep K18c nin0) (r16_5.keep K18c nin0) (r16_6.keep K18c nin0) (r16_3.keep K18c) Y2) hZ (w33 hw) (w2 hw) (by decide) (by decide)) q20a q20c (g := (mkF m 29 #[.val (.int i0), .val (.long (i0.toInt64)), .second, .val (.ref b1_16), .unset] [(.ref b1_16)])) rfl (by rw [hml]; rfl) (Steps.refl _) (argsL := []) (rest := []) (lenOf pd_1 rfl) rfl (by show 2 * 0 + _ ≤ _; exact Nat.le_of_eq rfl) (hb hby at_29) (fun vm₁ hw₁ => ⟨rfl, eh19, (by decide : 4 + 2 ≤ _), (by decide : 6 + 6 ≤ _)⟩)
    dsimp only [Pt.U, Pt.locs, Pt.cells, Pt.slots] at X20 l20 y20 z20 st20 hQ20
    subst l20 y20 z20
    obtain ⟨b2_20, b26_20, k2_20, rfl, M20, K20c, r20_0, r20_1, r20_2, r20_3, r20_4, r20_5, r20_6⟩ := hQ20
    have N20 := Fr.app N19 M20
    have g_b2_20 : n0 ≤ b2_20 := Nat.le_trans (own_n0 O18) r20_0
    have g_b26_20 : n0 ≤ b26_20 := Nat.le_trans (own_n0 O18) r20_1
    have O20 : Old Z n0 T20.heap := O18.keep K20c all0
    refine Go.tr st20 ?_
    show Go p e below _ (T20.setTop (mkF m 32 #[.val (.int i0), .val (.long (i0.toInt64)), .second, .val (.ref b1_16), .unset] [(.ref b26_20)]))
    refine Go.st (fun t k => XS.astore X20.here hx rfl (hb hby at_32) rfl rfl (l' := #[.val (.int i0), .val (.long (i0.toInt64)), .second, .val (.ref b1_16), .val (.ref b26_20)]) rfl k) ?_
    show Go p e below _ (T20.setTop (mkF m 34 #[.val (.int i0), .val (.long (i0.toInt64)), .second, .val (.ref b1_16), .val (.ref b26_20)] []))
    refine Go.st (fun t k => XS.aload X20.here hx rfl (hb hby at_34) rfl rfl k) ?_
    show Go p e below _ (T20.setTop (mkF m 36 #[.val (.int i0), .val (.long (i0.toInt64)), .second, .val (.ref b1_16), .val (.ref b26_20)] [(.ref b26_20)]))
    obtain ⟨cq21, kq21, q21a, q21b, q21c⟩ := isOf hZ rfl r20_3
    obtain ⟨_, _, ⟨T21, L21, k21, n21⟩, -, X21, ⟨Lc21, hQ21, l21, y21, z21⟩, st21⟩ := X20.virtualBack hx (y := (⟨"com/example/envelop/envelop/plan/Zone", "clocks", "()I"⟩ : MethodName)) (z := (⟨"com/example/envelop/envelop/plan/Zone", "clocks", "()I"⟩ : MethodName)) hown (mvT hZ (w19 hw)) (mvT hZ (w20 hw)) (notFace_of_selects (args := #[]) (mvT hZ (w22 hw))) (mvT hZ (w22 hw)) (mvT hZ (w21 hw)) (by decide) (backOf (W := 0) (rm4_2 l Z a0 hw [] b26_20 T20.heap n0 O20 r20_4) hZ (w23 hw) (w2 hw) (by decide) (by decide)) q21a q21c (g := (mkF m 36 #[.val (.int i0), .val (.long (i0.toInt64)), .second, .val (.ref b1_16), .val (.ref b26_20)] [(.ref b26_20)])) rfl (by rw [hml]; rfl) (Steps.refl _) (argsL := []) (rest := []) (lenOf pd_2 rfl) rfl (by show 2 * 0 + _ ≤ _; exact Nat.le_of_eq rfl) (hb hby at_36) (fun vm₁ hw₁ => ⟨rfl, rfl, (by decide : 6 + 0 ≤ _), (by decide : 12 + 0 ≤ _)⟩)
    dsimp only [Pt.U, Pt.locs, Pt.cells, Pt.slots] at X21 l21 y21 z21 st21 hQ21
    subst l21 y21 z21
    obtain ⟨rfl, M21, eh21⟩ := hQ21
    have N21 := Fr.app N20 M21
    refine Go.tr st21 ?_
    show Go p e below _ (T21.setTop (mkF m 39 #[.val (.int i0), .val (.long (i0.toInt64)), .second, .val (.ref b1_16), .val (.ref b26_20)] [(.int (1 : Int32))]))
    refine Go.st (fun t k => XS.iconst X21.here hx rfl (hb hby at_39) k) ?_
    show Go p e below _ (T21.setTop (mkF m 40 #[.val (.int i0), .val (.long (i0.toInt64)), .second, .val (.ref b1_16), .val (.ref b26_20)] [(.int (1 : Int32)), (.int (1 : Int32))]))
    refine Go.st (fun t k => XS.icmpYes X21.here hx rfl (pc0 := 40) (pc' := 45) rfl (hb hby at_40) rfl (Jvm.Free.XT.ii_eq_t (by decide : (1 : Int32) = (1 : Int32))) (by decide) (by decide) k) ?_
    show Go p e below _ (T21.setTop (mkF m 45 #[.val (.int i0), .val (.long (i0.toInt64)), .second, .val (.ref b1_16), .val (.ref b26_20)] []))
    refine Go.st (fun t k => XS.aload X21.here hx rfl (hb hby at_45) rfl rfl k) ?_
    show Go p e below _ (T21.setTop (mkF m 47 #[.val (.int i0), .val (.long (i0.toInt64)), .second, .val (.ref b1_16), .val (.ref b26_20)] [(.ref b26_20)]))
    refine Go.st (fun t k => XS.iconst X21.here hx rfl (hb hby at_47) k) ?_
    show Go p e below _ (T21.setTop (mkF m 48 #[.val (.int i0), .val (.long (i0.toInt64)), .second, .val (.ref b1_16), .val (.ref b26_20)] [(.int (1 : Int32)), (.ref b26_20)]))
    refine Go.st (fun t k => XS.lloadN X21.here hx rfl (hb hby at_48) rfl k) ?_
    show Go p e below _ (T21.setTop (mkF m 49 #[.val (.int i0), .val (.long (i0.toInt64)), .second, .val (.ref b1_16), .val (.ref b26_20)] [(.long (i0.toInt64)), (.int (1 : Int32)), (.ref b26_20)]))
    by_cases hc22 : (((-(i0.toInt64)) <<< ((1 : Int32) &&& 0x3f).toInt64) ||| (1 : Int64)) < (1 : Int64)
    · obtain ⟨cq23, kq23, q23a, q23b, q23c⟩ := isOf hZ eh21 r20_3
      obtain ⟨_, _, ⟨T23, L23, k23, n23⟩, -, X23, ⟨Lc23, hQ23, l23, y23, z23⟩, st23⟩ := X21.virtualBack hx (y := (⟨"com/example/envelop/envelop/plan/Zone", "impliesAtLeast", "(IJ)Z"⟩ : MethodName)) (z := (⟨"com/example/envelop/envelop/plan/Zone", "impliesAtLeast", "(IJ)Z"⟩ : MethodName)) hown (mvT hZ (w42 hw)) (mvT hZ (w43 hw)) (notFace_of_selects (args := #[]) (mvT hZ (w45 hw))) (mvT hZ (w45 hw)) (mvT hZ (w44 hw)) (by decide) (backOf (W := 0) (rm8_2 l Z a0 hw [] b26_20 (i0.toInt64) b2_20 k2_20 T20.heap n0 O20 r20_3 r20_5 r20_4 r20_6 hc22) hZ (w46 hw) (w2 hw) (by decide) (by decide)) q23a q23c (g := (mkF m 49 #[.val (.int i0), .val (.long (i0.toInt64)), .second, .val (.ref b1_16), .val (.ref b26_20)] [(.long (i0.toInt64)), (.int (1 : Int32)), (.ref b26_20)])) rfl (by rw [hml]; rfl) (Steps.refl _) (argsL := [(.int (1 : Int32)), (.long (i0.toInt64))]) (rest := []) (lenOf pd_6 rfl) rfl (by show 2 * 0 + _ ≤ _; exact Nat.le_of_eq rfl) (hb hby at_49) (fun vm₁ hw₁ => ⟨rfl, eh21, (by decide : 6 + 0 ≤ _), (by decide : 12 + 0 ≤ _)⟩)
      dsimp only [Pt.U, Pt.locs, Pt.cells, Pt.slots] at X23 l23 y23 z23 st23 hQ23
      subst l23 y23 z23
      obtain ⟨rfl, M23, eh23⟩ := hQ23
      have N23 := Fr.app N21 M23
      refine Go.tr st23 ?_
      show Go p e below _ (T23.setTop (mkF m 52 #[.val (.int i0), .val (.long (i0.toInt64)), .second, .val (.ref b1_16), .val (.ref b26_20)] [(.int (0 : Int32))]))
      refine Go.st (fun t k => XS.lloadN X23.here hx rfl (hb hby at_52) rfl k) ?_
      show Go p e below _ (T23.setTop (mkF m 53 #[.val (.int i0), .val (.long (i0.toInt64)), .second, .val (.ref b1_16), .val (.ref b26_20)] [(.long (i0.toInt64)), (.int (0 : Int32))]))
      refine Go.st (fun t k => XS.lconst X23.here hx rfl (hb hby at_53) k) ?_
      show Go p e below _ (T23.setTop (mkF m 54 #[.val (.int i0), .val (.long (i0.toInt64)), .second, .val (.ref b1_16), .val (.ref b26_20)] [(.long (0 : Int64)), (.long (i0.toInt64)), (.int (0 : Int32))]))
      refine Go.st (fun t k => Jvm.Free.XT.lcmp X23.here hx rfl (hb hby at_54) rfl k) ?_
      show Go p e below _ (T23.setTop (mkF m 55 #[.val (.int i0), .val (.long (i0.toInt64)), .second, .val (.ref b1_16), .val (.ref b26_20)] [(.int (Jvm.Free.XT.cmpL (i0.toInt64) (0 : Int64))), (.int (0 : Int32))]))
      have hp24 : (0 : Int64) < (i0.toInt64) := by
        have j1 := own_b32 i0
        have j2 := own_b64 (i0.toInt64)
        have j3 := c_i2l i0
        have j4 : ((0 : Int64)).toInt = 0 := by decide
        have j5 := own_nlt64 hs1
        have j6 := own_b64 (-(i0.toInt64))
        have j7 := c_lneg (i0.toInt64)
        have j8 := own_b64 ((-(i0.toInt64)) <<< ((1 : Int32) &&& 0x3f).toInt64)
        have j9 := own_lshl (-(i0.toInt64)) (1 : Int32) 1 2 (by decide) (by decide)
        have j10 : ((1 : Int64)).toInt = 1 := by decide
        have j11 := own_b64 (((-(i0.toInt64)) <<< ((1 : Int32) &&& 0x3f).toInt64) ||| (1 : Int64))
        have j12 := c_orL ((-(i0.toInt64)) <<< ((1 : Int32) &&& 0x3f).toInt64) (1 : Int64) 1 (by decide) 2 (by decide)
        have j13 := Int64.lt_iff_toInt_lt.mp hc22
        rw [Int64.lt_iff_toInt_lt]
        omega
      refine Go.st (fun t k => XS.ifYes X23.here hx rfl (pc0 := 55) (pc' := 62) rfl (hb hby at_55) rfl (Jvm.Free.XT.ll_gt_t hp24) (by decide) (by decide) k) ?_
      show Go p e below _ (T23.setTop (mkF m 62 #[.val (.int i0), .val (.long (i0.toInt64)), .second, .val (.ref b1_16), .val (.ref b26_20)] [(.int (0 : Int32))]))
      refine Go.st (fun t k => XS.iconst X23.here hx rfl (hb hby at_62) k) ?_
      show Go p e below _ (T23.setTop (mkF m 63 #[.val (.int i0), .val (.long (i0.toInt64)), .second, .val (.ref b1_16), .val (.ref b26_20)] [(.int (0 : Int32)), (.int (0 : Int32))]))
      refine Go.st (fun t k => XS.icmpYes X23.here hx rfl (pc0 := 63) (pc' := 68) rfl (hb hby at_63) rfl (Jvm.Free.XT.ii_eq_t (by decide : (0 : Int32) = (0 : Int32))) (by decide) (by decide) k) ?_
      show Go p e below _ (T23.setTop (mkF m 68 #[.val (.int i0), .val (.long (i0.toInt64)), .second, .val (.ref b1_16), .val (.ref b26_20)] []))
      refine Go.st (fun t k => XS.aload X23.here hx rfl (hb hby at_68) rfl rfl k) ?_
      show Go p e below _ (T23.setTop (mkF m 70 #[.val (.int i0), .val (.long (i0.toInt64)), .second, .val (.ref b1_16), .val (.ref b26_20)] [(.ref b26_20)]))
      refine Go.st (fun t k => XS.iconst X23.here hx rfl (hb hby at_70) k) ?_
      show Go p e below _ (T23.setTop (mkF m 71 #[.val (.int i0), .val (.long (i0.toInt64)), .second, .val (.ref b1_16), .val (.ref b26_20)] [(.int (1 : Int32)), (.ref b26_20)]))
      refine Go.st (fun t k => XS.lloadN X23.here hx rfl (hb hby at_71) rfl k) ?_
      show Go p e below _ (T23.setTop (mkF m 72 #[.val (.int i0), .val (.long (i0.toInt64)), .second, .val (.ref b1_16), .val (.ref b26_20)] [(.long (i0.toInt64)), (.int (1 : Int32)), (.ref b26_20)]))
      have hp25 : ¬ ((((i0.toInt64) <<< ((1 : Int32) &&& 0x3f).toInt64) ||| (1 : Int64)) = (9223372036854775807 : Int64)) := by
        have j1 := own_b32 i0
        have j2 := own_b64 (i0.toInt64)
        have j3 := c_i2l i0
        have j4 : ((0 : Int64)).toInt = 0 := by decide
        have j5 := own_nlt64 hs1
        have j6 := own_b64 (-(i0.toInt64))
        have j7 := c_lneg (i0.toInt64)
        have j8 := own_b64 ((-(i0.toInt64)) <<< ((1 : Int32) &&& 0x3f).toInt64)
        have j9 := own_lshl (-(i0.toInt64)) (1 : Int32) 1 2 (by decide) (by decide)
        have j10 : ((1 : Int64)).toInt = 1 := by decide
        have j11 := own_b64 (((-(i0.toInt64)) <<< ((1 : Int32) &&& 0x3f).toInt64) ||| (1 : Int64))
        have j12 := c_orL ((-(i0.toInt64)) <<< ((1 : Int32) &&& 0x3f).toInt64) (1 : Int64) 1 (by decide) 2 (by decide)
        have j13 := Int64.lt_iff_toInt_lt.mp hc22
        have j14 := own_b64 ((i0.toInt64) <<< ((1 : Int32) &&& 0x3f).toInt64)
        have j15 := own_lshl (i0.toInt64) (1 : Int32) 1 2 (by decide) (by decide)
        have j16 := own_b64 (((i0.toInt64) <<< ((1 : Int32) &&& 0x3f).toInt64) ||| (1 : Int64))
        have j17 := c_orL ((i0.toInt64) <<< ((1 : Int32) &&& 0x3f).toInt64) (1 : Int64) 1 (by decide) 2 (by decide)
        have j18 : ((9223372036854775807 : Int64)).toInt = 9223372036854775807 := by decide
        rw [← Int64.toInt_inj]
        omega
      have hp26 : ¬ ((((((((i0.toInt64) <<< ((1 : Int32) &&& 0x3f).toInt64) ||| (1 : Int64)) >>> ((1 : Int32) &&& 0x3f).toInt64) + (0 : Int64)) <<< ((1 : Int32) &&& 0x3f).toInt64) ||| (((((i0.toInt64) <<< ((1 : Int32) &&& 0x3f).toInt64) ||| (1 : Int64)) &&& (1 : Int64)) &&& (1 : Int64))) < (1 : Int64)) := by
        have j1 := own_b32 i0
        have j2 := own_b64 (i0.toInt64)
        have j3 := c_i2l i0
        have j4 : ((0 : Int64)).toInt = 0 := by decide
        have j5 := own_nlt64 hs1
        have j6 := own_b64 (-(i0.toInt64))
        have j7 := c_lneg (i0.toInt64)
        have j8 := own_b64 ((-(i0.toInt64)) <<< ((1 : Int32) &&& 0x3f).toInt64)
        have j9 := own_lshl (-(i0.toInt64)) (1 : Int32) 1 2 (by decide) (by decide)
        have j10 : ((1 : Int64)).toInt = 1 := by decide
        have j11 := own_b64 (((-(i0.toInt64)) <<< ((1 : Int32) &&& 0x3f).toInt64) ||| (1 : Int64))
        have j12 := c_orL ((-(i0.toInt64)) <<< ((1 : Int32) &&& 0x3f).toInt64) (1 : Int64) 1 (by decide) 2 (by decide)
        have j13 := Int64.lt_iff_toInt_lt.mp hc22
        have j14 := own_b64 ((i0.toInt64) <<< ((1 : Int32) &&& 0x3f).toInt64)
        have j15 := own_lshl (i0.toInt64) (1 : Int32) 1 2 (by decide) (by decide)
        have j16 := own_b64 (((i0.toInt64) <<< ((1 : Int32) &&& 0x3f).toInt64) ||| (1 : Int64))
        have j17 := c_orL ((i0.toInt64) <<< ((1 : Int32) &&& 0x3f).toInt64) (1 : Int64) 1 (by decide) 2 (by decide)
        have j18 := own_b64 ((((i0.toInt64) <<< ((1 : Int32) &&& 0x3f).toInt64) ||| (1 : Int64)) >>> ((1 : Int32) &&& 0x3f).toInt64)
        have j19 := own_lshr (((i0.toInt64) <<< ((1 : Int32) &&& 0x3f).toInt64) ||| (1 : Int64)) (1 : Int32) 1 2 (by decide) (by decide)
        have j20 := own_b64 (((((i0.toInt64) <<< ((1 : Int32) &&& 0x3f).toInt64) ||| (1 : Int64)) >>> ((1 : Int32) &&& 0x3f).toInt64) + (0 : Int64))
        have j21 := c_ladd ((((i0.toInt64) <<< ((1 : Int32) &&& 0x3f).toInt64) ||| (1 : Int64)) >>> ((1 : Int32) &&& 0x3f).toInt64) (0 : Int64)
        have j22 := own_b64 ((((((i0.toInt64) <<< ((1 : Int32) &&& 0x3f).toInt64) ||| (1 : Int64)) >>> ((1 : Int32) &&& 0x3f).toInt64) + (0 : Int64)) <<< ((1 : Int32) &&& 0x3f).toInt64)
        have j23 := own_lshl (((((i0.toInt64) <<< ((1 : Int32) &&& 0x3f).toInt64) ||| (1 : Int64)) >>> ((1 : Int32) &&& 0x3f).toInt64) + (0 : Int64)) (1 : Int32) 1 2 (by decide) (by decide)
        have j24 := own_b64 ((((i0.toInt64) <<< ((1 : Int32) &&& 0x3f).toInt64) ||| (1 : Int64)) &&& (1 : Int64))
        have j25 := own_mask64 (((i0.toInt64) <<< ((1 : Int32) &&& 0x3f).toInt64) ||| (1 : Int64)) (1 : Int64) 1 2 (by decide) (by decide) (by decide)
        have j26 := own_b64 (((((i0.toInt64) <<< ((1 : Int32) &&& 0x3f).toInt64) ||| (1 : Int64)) &&& (1 : Int64)) &&& (1 : Int64))
        have j27 := own_mask64 ((((i0.toInt64) <<< ((1 : Int32) &&& 0x3f).toInt64) ||| (1 : Int64)) &&& (1 : Int64)) (1 : Int64) 1 2 (by decide) (by decide) (by decide)
        have j28 := own_b64 (((((((i0.toInt64) <<< ((1 : Int32) &&& 0x3f).toInt64) ||| (1 : Int64)) >>> ((1 : Int32) &&& 0x3f).toInt64) + (0 : Int64)) <<< ((1 : Int32) &&& 0x3f).toInt64) ||| (((((i0.toInt64) <<< ((1 : Int32) &&& 0x3f).toInt64) ||| (1 : Int64)) &&& (1 : Int64)) &&& (1 : Int64)))
        have j29 := c_orL ((((((i0.toInt64) <<< ((1 : Int32) &&& 0x3f).toInt64) ||| (1 : Int64)) >>> ((1 : Int32) &&& 0x3f).toInt64) + (0 : Int64)) <<< ((1 : Int32) &&& 0x3f).toInt64) (((((i0.toInt64) <<< ((1 : Int32) &&& 0x3f).toInt64) ||| (1 : Int64)) &&& (1 : Int64)) &&& (1 : Int64)) 1 (by decide) 2 (by decide)
        rw [Int64.lt_iff_toInt_lt]
        omega
      have hp27 : ¬ ((((i0.toInt64) <<< ((1 : Int32) &&& 0x3f).toInt64) ||| (1 : Int64)) < (1 : Int64)) := by
        have j1 := own_b32 i0
        have j2 := own_b64 (i0.toInt64)
        have j3 := c_i2l i0
        have j4 : ((0 : Int64)).toInt = 0 := by decide
        have j5 := own_nlt64 hs1
        have j6 := own_b64 (-(i0.toInt64))
        have j7 := c_lneg (i0.toInt64)
        have j8 := own_b64 ((-(i0.toInt64)) <<< ((1 : Int32) &&& 0x3f).toInt64)
        have j9 := own_lshl (-(i0.toInt64)) (1 : Int32) 1 2 (by decide) (by decide)
        have j10 : ((1 : Int64)).toInt = 1 := by decide
        have j11 := own_b64 (((-(i0.toInt64)) <<< ((1 : Int32) &&& 0x3f).toInt64) ||| (1 : Int64))
        have j12 := c_orL ((-(i0.toInt64)) <<< ((1 : Int32) &&& 0x3f).toInt64) (1 : Int64) 1 (by decide) 2 (by decide)
        have j13 := Int64.lt_iff_toInt_lt.mp hc22
        have j14 := own_b64 ((i0.toInt64) <<< ((1 : Int32) &&& 0x3f).toInt64)
        have j15 := own_lshl (i0.toInt64) (1 : Int32) 1 2 (by decide) (by decide)
        have j16 := own_b64 (((i0.toInt64) <<< ((1 : Int32) &&& 0x3f).toInt64) ||| (1 : Int64))
        have j17 := c_orL ((i0.toInt64) <<< ((1 : Int32) &&& 0x3f).toInt64) (1 : Int64) 1 (by decide) 2 (by decide)
        rw [Int64.lt_iff_toInt_lt]
        omega
      obtain ⟨cq28, kq28, q28a, q28b, q28c⟩ := isOf hZ eh23 r20_3
      obtain ⟨_, _, ⟨T28, L28, k28, n28⟩, -, X28, ⟨Lc28, hQ28, l28, y28, z28⟩, st28⟩ := X23.virtualBack hx (y := (⟨"com/example/envelop/envelop/plan/Zone", "atMost", "(IJ)Lcom/example/envelop/envelop/plan/Zone;"⟩ : MethodName)) (z := (⟨"com/example/envelop/envelop/plan/Zone", "atMost", "(IJ)Lcom/example/envelop/envelop/plan/Zone;"⟩ : MethodName)) hown (mvT hZ (w50 hw)) (mvT hZ (w51 hw)) (notFace_of_selects (args := #[]) (mvT hZ (w53 hw))) (mvT hZ (w53 hw)) (mvT hZ (w52 hw)) (by decide) (backOf (W := 0) (rm10_2 l Z a0 hw [] b26_20 (i0.toInt64) b2_20 k2_20 T20.heap n0 O20 r20_3 r20_5 r20_4 r20_6 hp25 Y2 hp26 hp27) hZ (w54 hw) (w2 hw) (by decide) (by decide)) q28a q28c (g := (mkF m 72 #[.val (.int i0), .val (.long (i0.toInt64)), .second, .val (.ref b1_16), .val (.ref b26_20)] [(.long (i0.toInt64)), (.int (1 : Int32)), (.ref b26_20)])) rfl (by rw [hml]; rfl) (Steps.refl _) (argsL := [(.int (1 : Int32)), (.long (i0.toInt64))]) (rest := []) (lenOf pd_9 rfl) rfl (by show 2 * 0 + _ ≤ _; exact Nat.le_of_eq rfl) (hb hby at_72) (fun vm₁ hw₁ => ⟨rfl, eh23, (by decide : 6 + 0 ≤ _), (by decide : 12 + 0 ≤ _)⟩)
      dsimp only [Pt.U, Pt.locs, Pt.cells, Pt.slots] at X28 l28 y28 z28 st28 hQ28
      subst l28 y28 z28
      obtain ⟨rfl, M28, eh28⟩ := hQ28
      have N28 := Fr.app N23 M28
      refine Go.tr st28 ?_
      show Go p e below _ (T28.setTop (mkF m 75 #[.val (.int i0), .val (.long (i0.toInt64)), .second, .val (.ref b1_16), .val (.ref b26_20)] [(.ref b26_20)]))
      refine Go.st (fun t k => XS.ifnullNo X28.here hx rfl (hb hby at_75) rfl k) ?_
      show Go p e below _ (T28.setTop (mkF m 78 #[.val (.int i0), .val (.long (i0.toInt64)), .second, .val (.ref b1_16), .val (.ref b26_20)] []))
      refine Go.st (fun t k => XS.iconst X28.here hx rfl (hb hby at_78) k) ?_
      show Go p e below _ (T28.setTop (mkF m 79 #[.val (.int i0), .val (.long (i0.toInt64)), .second, .val (.ref b1_16), .val (.ref b26_20)] [(.int (1 : Int32))]))
      refine Go.st (fun t k => XS.goto X28.here hx rfl (pc0 := 79) (pc' := 83) rfl (hb hby at_79) (by decide) (by decide) k) ?_
      show Go p e below _ (T28.setTop (mkF m 83 #[.val (.int i0), .val (.long (i0.toInt64)), .second, .val (.ref b1_16), .val (.ref b26_20)] [(.int (1 : Int32))]))
      refine Go.st (fun t k => XS.lloadN X28.here hx rfl (hb hby at_83) rfl k) ?_
      show Go p e below _ (T28.setTop (mkF m 84 #[.val (.int i0), .val (.long (i0.toInt64)), .second, .val (.ref b1_16), .val (.ref b26_20)] [(.long (i0.toInt64)), (.int (1 : Int32))]))
      refine Go.st (fun t k => XS.lconst X28.here hx rfl (hb hby at_84) k) ?_
      show Go p e below _ (T28.setTop (mkF m 85 #[.val (.int i0), .val (.long (i0.toInt64)), .second, .val (.ref b1_16), .val (.ref b26_20)] [(.long (0 : Int64)), (.long (i0.toInt64)), (.int (1 : Int32))]))
      refine Go.st (fun t k => Jvm.Free.XT.lcmp X28.here hx rfl (hb hby at_85) rfl k) ?_
      show Go p e below _ (T28.setTop (mkF m 86 #[.val (.int i0), .val (.long (i0.toInt64)), .second, .val (.ref b1_16), .val (.ref b26_20)] [(.int (Jvm.Free.XT.cmpL (i0.toInt64) (0 : Int64))), (.int (1 : Int32))]))
      refine Go.st (fun t k => XS.ifNo X28.here hx rfl (hb hby at_86) rfl (Jvm.Free.XT.ll_lt_f hs1) k) ?_
      show Go p e below _ (T28.setTop (mkF m 89 #[.val (.int i0), .val (.long (i0.toInt64)), .second, .val (.ref b1_16), .val (.ref b26_20)] [(.int (1 : Int32))]))
      refine Go.st (fun t k => XS.iconst X28.here hx rfl (hb hby at_89) k) ?_
      show Go p e below _ (T28.setTop (mkF m 90 #[.val (.int i0), .val (.long (i0.toInt64)), .second, .val (.ref b1_16), .val (.ref b26_20)] [(.int (1 : Int32)), (.int (1 : Int32))]))
      refine Go.st (fun t k => XS.goto X28.here hx rfl (pc0 := 90) (pc' := 94) rfl (hb hby at_90) (by decide) (by decide) k) ?_
      show Go p e below _ (T28.setTop (mkF m 94 #[.val (.int i0), .val (.long (i0.toInt64)), .second, .val (.ref b1_16), .val (.ref b26_20)] [(.int (1 : Int32)), (.int (1 : Int32))]))
      refine Go.st (fun t k => XS.icmpYes X28.here hx rfl (pc0 := 94) (pc' := 99) rfl (hb hby at_94) rfl (Jvm.Free.XT.ii_eq_t (by decide : (1 : Int32) = (1 : Int32))) (by decide) (by decide) k) ?_
      show Go p e below _ (T28.setTop (mkF m 99 #[.val (.int i0), .val (.long (i0.toInt64)), .second, .val (.ref b1_16), .val (.ref b26_20)] []))
      refine Go.st (fun t k => XS.aload X28.here hx rfl (hb hby at_99) rfl rfl k) ?_
      show Go p e below _ (T28.setTop (mkF m 101 #[.val (.int i0), .val (.long (i0.toInt64)), .second, .val (.ref b1_16), .val (.ref b26_20)] [(.ref b26_20)]))
      refine Go.st (fun t k => XS.iconst X28.here hx rfl (hb hby at_101) k) ?_
      show Go p e below _ (T28.setTop (mkF m 102 #[.val (.int i0), .val (.long (i0.toInt64)), .second, .val (.ref b1_16), .val (.ref b26_20)] [(.int (1 : Int32)), (.ref b26_20)]))
      refine Go.st (fun t k => XS.lloadN X28.here hx rfl (hb hby at_102) rfl k) ?_
      show Go p e below _ (T28.setTop (mkF m 103 #[.val (.int i0), .val (.long (i0.toInt64)), .second, .val (.ref b1_16), .val (.ref b26_20)] [(.long (i0.toInt64)), (.int (1 : Int32)), (.ref b26_20)]))
      have hp29 : ¬ ((((-(i0.toInt64)) <<< ((1 : Int32) &&& 0x3f).toInt64) ||| (1 : Int64)) = (9223372036854775807 : Int64)) := by
        have j1 := own_b32 i0
        have j2 := own_b64 (i0.toInt64)
        have j3 := c_i2l i0
        have j4 : ((0 : Int64)).toInt = 0 := by decide
        have j5 := own_nlt64 hs1
        have j6 := own_b64 (-(i0.toInt64))
        have j7 := c_lneg (i0.toInt64)
        have j8 := own_b64 ((-(i0.toInt64)) <<< ((1 : Int32) &&& 0x3f).toInt64)
        have j9 := own_lshl (-(i0.toInt64)) (1 : Int32) 1 2 (by decide) (by decide)
        have j10 : ((1 : Int64)).toInt = 1 := by decide
        have j11 := own_b64 (((-(i0.toInt64)) <<< ((1 : Int32) &&& 0x3f).toInt64) ||| (1 : Int64))
        have j12 := c_orL ((-(i0.toInt64)) <<< ((1 : Int32) &&& 0x3f).toInt64) (1 : Int64) 1 (by decide) 2 (by decide)
        have j13 := Int64.lt_iff_toInt_lt.mp hc22
        have j14 : ((9223372036854775807 : Int64)).toInt = 9223372036854775807 := by decide
        rw [← Int64.toInt_inj]
        omega
      have hp30 : (((((((-(i0.toInt64)) <<< ((1 : Int32) &&& 0x3f).toInt64) ||| (1 : Int64)) >>> ((1 : Int32) &&& 0x3f).toInt64) + (0 : Int64)) <<< ((1 : Int32) &&& 0x3f).toInt64) ||| (((((-(i0.toInt64)) <<< ((1 : Int32) &&& 0x3f).toInt64) ||| (1 : Int64)) &&& (1 : Int64)) &&& (1 : Int64))) < (1 : Int64) := by
        have j1 := own_b32 i0
        have j2 := own_b64 (i0.toInt64)
        have j3 := c_i2l i0
        have j4 : ((0 : Int64)).toInt = 0 := by decide
        have j5 := own_nlt64 hs1
        have j6 := own_b64 (-(i0.toInt64))
        have j7 := c_lneg (i0.toInt64)
        have j8 := own_b64 ((-(i0.toInt64)) <<< ((1 : Int32) &&& 0x3f).toInt64)
        have j9 := own_lshl (-(i0.toInt64)) (1 : Int32) 1 2 (by decide) (by decide)
        have j10 : ((1 : Int64)).toInt = 1 := by decide
        have j11 := own_b64 (((-(i0.toInt64)) <<< ((1 : Int32) &&& 0x3f).toInt64) ||| (1 : Int64))
        have j12 := c_orL ((-(i0.toInt64)) <<< ((1 : Int32) &&& 0x3f).toInt64) (1 : Int64) 1 (by decide) 2 (by decide)
        have j13 := Int64.lt_iff_toInt_lt.mp hc22
        have j14 := own_b64 ((((-(i0.toInt64)) <<< ((1 : Int32) &&& 0x3f).toInt64) ||| (1 : Int64)) >>> ((1 : Int32) &&& 0x3f).toInt64)
        have j15 := own_lshr (((-(i0.toInt64)) <<< ((1 : Int32) &&& 0x3f).toInt64) ||| (1 : Int64)) (1 : Int32) 1 2 (by decide) (by decide)
        have j16 := own_b64 (((((-(i0.toInt64)) <<< ((1 : Int32) &&& 0x3f).toInt64) ||| (1 : Int64)) >>> ((1 : Int32) &&& 0x3f).toInt64) + (0 : Int64))
        have j17 := c_ladd ((((-(i0.toInt64)) <<< ((1 : Int32) &&& 0x3f).toInt64) ||| (1 : Int64)) >>> ((1 : Int32) &&& 0x3f).toInt64) (0 : Int64)
        have j18 := own_b64 ((((((-(i0.toInt64)) <<< ((1 : Int32) &&& 0x3f).toInt64) ||| (1 : Int64)) >>> ((1 : Int32) &&& 0x3f).toInt64) + (0 : Int64)) <<< ((1 : Int32) &&& 0x3f).toInt64)
        have j19 := own_lshl (((((-(i0.toInt64)) <<< ((1 : Int32) &&& 0x3f).toInt64) ||| (1 : Int64)) >>> ((1 : Int32) &&& 0x3f).toInt64) + (0 : Int64)) (1 : Int32) 1 2 (by decide) (by decide)
        have j20 := own_b64 ((((-(i0.toInt64)) <<< ((1 : Int32) &&& 0x3f).toInt64) ||| (1 : Int64)) &&& (1 : Int64))
        have j21 := own_mask64 (((-(i0.toInt64)) <<< ((1 : Int32) &&& 0x3f).toInt64) ||| (1 : Int64)) (1 : Int64) 1 2 (by decide) (by decide) (by decide)
        have j22 := own_b64 (((((-(i0.toInt64)) <<< ((1 : Int32) &&& 0x3f).toInt64) ||| (1 : Int64)) &&& (1 : Int64)) &&& (1 : Int64))
        have j23 := own_mask64 ((((-(i0.toInt64)) <<< ((1 : Int32) &&& 0x3f).toInt64) ||| (1 : Int64)) &&& (1 : Int64)) (1 : Int64) 1 2 (by decide) (by decide) (by decide)
        have j24 := own_b64 (((((((-(i0.toInt64)) <<< ((1 : Int32) &&& 0x3f).toInt64) ||| (1 : Int64)) >>> ((1 : Int32) &&& 0x3f).toInt64) + (0 : Int64)) <<< ((1 : Int32) &&& 0x3f).toInt64) ||| (((((-(i0.toInt64)) <<< ((1 : Int32) &&& 0x3f).toInt64) ||| (1 : Int64)) &&& (1 : Int64)) &&& (1 : Int64)))
        have j25 := c_orL ((((((-(i0.toInt64)) <<< ((1 : Int32) &&& 0x3f).toInt64) ||| (1 : Int64)) >>> ((1 : Int32) &&& 0x3f).toInt64) + (0 : Int64)) <<< ((1 : Int32) &&& 0x3f).toInt64) (((((-(i0.toInt64)) <<< ((1 : Int32) &&& 0x3f).toInt64) ||| (1 : Int64)) &&& (1 : Int64)) &&& (1 : Int64)) 1 (by decide) 2 (by decide)
        rw [Int64.lt_iff_toInt_lt]
        omega
      obtain ⟨cq31, kq31, q31a, q31b, q31c⟩ := isOf hZ eh28 r20_3
      obtain ⟨_, _, ⟨T31, L31, k31, n31⟩, -, X31, ⟨Lc31, hQ31, l31, y31, z31⟩, st31⟩ := X28.virtualBack hx (y := (⟨"com/example/envelop/envelop/plan/Zone", "atLeast", "(IJ)Lcom/example/envelop/envelop/plan/Zone;"⟩ : MethodName)) (z := (⟨"com/example/envelop/envelop/plan/Zone", "atLeast", "(IJ)Lcom/example/envelop/envelop/plan/Zone;"⟩ : MethodName)) hown (mvT hZ (w63 hw)) (mvT hZ (w64 hw)) (notFace_of_selects (args := #[]) (mvT hZ (w66 hw))) (mvT hZ (w66 hw)) (mvT hZ (w65 hw)) (by decide) (backOf (W := 0) (rm13_2 l Z a0 hw [] b26_20 (i0.toInt64) b2_20 k2_20 T20.heap n0 O20 r20_3 r20_5 r20_4 r20_6 hp29 Y2 hp30) hZ (w67 hw) (w2 hw) (by decide) (by decide)) q31a q31c (g := (mkF m 103 #[.val (.int i0), .val (.long (i0.toInt64)), .second, .val (.ref b1_16), .val (.ref b26_20)] [(.long (i0.toInt64)), (.int (1 : Int32)), (.ref b26_20)])) rfl (by rw [hml]; rfl) (Steps.refl _) (argsL := [(.int (1 : Int32)), (.long (i0.toInt64))]) (rest := []) (lenOf pd_9 rfl) rfl (by show 2 * 0 + _ ≤ _; exact Nat.le_of_eq rfl) (hb hby at_103) (fun vm₁ hw₁ => ⟨rfl, eh28, (by decide : 6 + 0 ≤ _), (by decide : 12 + 0 ≤ _)⟩)
      dsimp only [Pt.U, Pt.locs, Pt.cells, Pt.slots] at X31 l31 y31 z31 st31 hQ31
      subst l31 y31 z31
      obtain ⟨rfl, M31, eh31⟩ := hQ31
      have N31 := Fr.app N28 M31
      refine Go.tr st31 ?_
      show Go p e below _ (T31.setTop (mkF m 106 #[.val (.int i0), .val (.long (i0.toInt64)), .second, .val (.ref b1_16), .val (.ref b26_20)] [.null]))
      refine Go.st (fun t k => XS.ifnullYes X31.here hx rfl (pc0 := 106) (pc' := 113) rfl (hb hby at_106) rfl (by decide) (by decide) k) ?_
      show Go p e below _ (T31.setTop (mkF m 113 #[.val (.int i0), .val (.long (i0.toInt64)), .second, .val (.ref b1_16), .val (.ref b26_20)] []))
      refine Go.st (fun t k => XS.iconst X31.here hx rfl (hb hby at_113) k) ?_
      show Go p e below _ (T31.setTop (mkF m 114 #[.val (.int i0), .val (.long (i0.toInt64)), .second, .val (.ref b1_16), .val (.ref b26_20)] [(.int (0 : Int32))]))
      refine Go.st (fun t k => XS.lloadN X31.here hx rfl (hb hby at_114) rfl k) ?_
      show Go p e below _ (T31.setTop (mkF m 115 #[.val (.int i0), .val (.long (i0.toInt64)), .second, .val (.ref b1_16), .val (.ref b26_20)] [(.long (i0.toInt64)), (.int (0 : Int32))]))
      refine Go.st (fun t k => XS.lconst X31.here hx rfl (hb hby at_115) k) ?_
      show Go p e below _ (T31.setTop (mkF m 116 #[.val (.int i0), .val (.long (i0.toInt64)), .second, .val (.ref b1_16), .val (.ref b26_20)] [(.long (0 : Int64)), (.long (i0.toInt64)), (.int (0 : Int32))]))
      refine Go.st (fun t k => Jvm.Free.XT.lcmp X31.here hx rfl (hb hby at_116) rfl k) ?_
      show Go p e below _ (T31.setTop (mkF m 117 #[.val (.int i0), .val (.long (i0.toInt64)), .second, .val (.ref b1_16), .val (.ref b26_20)] [(.int (Jvm.Free.XT.cmpL (i0.toInt64) (0 : Int64))), (.int (0 : Int32))]))
      refine Go.st (fun t k => XS.ifYes X31.here hx rfl (pc0 := 117) (pc' := 124) rfl (hb hby at_117) rfl (Jvm.Free.XT.ll_gt_t hp24) (by decide) (by decide) k) ?_
      show Go p e below _ (T31.setTop (mkF m 124 #[.val (.int i0), .val (.long (i0.toInt64)), .second, .val (.ref b1_16), .val (.ref b26_20)] [(.int (0 : Int32))]))
      refine Go.st (fun t k => XS.iconst X31.here hx rfl (hb hby at_124) k) ?_
      show Go p e below _ (T31.setTop (mkF m 125 #[.val (.int i0), .val (.long (i0.toInt64)), .second, .val (.ref b1_16), .val (.ref b26_20)] [(.int (0 : Int32)), (.int (0 : Int32))]))
      refine Go.st (fun t k => XS.icmpYes X31.here hx rfl (pc0 := 125) (pc' := 130) rfl (hb hby at_125) rfl (Jvm.Free.XT.ii_eq_t (by decide : (0 : Int32) = (0 : Int32))) (by decide) (by decide) k) ?_
      show Go p e below _ (T31.setTop (mkF m 130 #[.val (.int i0), .val (.long (i0.toInt64)), .second, .val (.ref b1_16), .val (.ref b26_20)] []))
      refine Go.st (fun t k => XS.iconst X31.here hx rfl (hb hby at_130) k) ?_
      show Go p e below _ (T31.setTop (mkF m 131 #[.val (.int i0), .val (.long (i0.toInt64)), .second, .val (.ref b1_16), .val (.ref b26_20)] [(.int (1 : Int32))]))
      obtain ⟨fs, hr, hrun, hended, hWd, hsame⟩ := X31.leave (v := some (.int (1 : Int32))) (fun h => by rw [Bd.returns] at h; cases h)
      refine ⟨_, _, ?_, hrun, hended, _, _, rfl, ?_, ⟨⟨_, rfl⟩, hWd, hsame.mono (by decide) (by decide)⟩⟩
      · exact retN X31 hx (t := .boolean) Bd.returns (by simp) (hb hby at_131) hr
      · exact ⟨rfl, N31⟩
    · obtain ⟨cq32, kq32, q32a, q32b, q32c⟩ := isOf hZ eh21 r20_3
      obtain ⟨_, _, ⟨T32, L32, k32, n32⟩, -, X32, ⟨Lc32, hQ32, l32, y32, z32⟩, st32⟩ := X21.virtualBack hx (y := (⟨"com/example/envelop/envelop/plan/Zone", "impliesAtLeast", "(IJ)Z"⟩ : MethodName)) (z := (⟨"com/example/envelop/envelop/plan/Zone", "impliesAtLeast", "(IJ)Z"⟩ : MethodName)) hown (mvT hZ (w42 hw)) (mvT hZ (w43 hw)) (notFace_of_selects (args := #[]) (mvT hZ (w45 hw))) (mvT hZ (w45 hw)) (mvT hZ (w44 hw)) (by decide) (backOf (W := 0) (rm8_1 l Z a0 hw [] b26_20 (i0.toInt64) b2_20 k2_20 T20.heap n0 O20 r20_3 r20_5 r20_4 r20_6 hc22) hZ (w46 hw) (w2 hw) (by decide) (by decide)) q32a q32c (g := (mkF m 49 #[.val (.int i0), .val (.long (i0.toInt64)), .second, .val (.ref b1_16), .val (.ref b26_20)] [(.long (i0.toInt64)), (.int (1 : Int32)), (.ref b26_20)])) rfl (by rw [hml]; rfl) (Steps.refl _) (argsL := [(.int (1 : Int32)), (.long (i0.toInt64))]) (rest := []) (lenOf pd_6 rfl) rfl (by show 2 * 0 + _ ≤ _; exact Nat.le_of_eq rfl) (hb hby at_49) (fun vm₁ hw₁ => ⟨rfl, eh21, (by decide : 6 + 0 ≤ _), (by decide : 12 + 0 ≤ _)⟩)
      dsimp only [Pt.U, Pt.locs, Pt.cells, Pt.slots] at X32 l32 y32 z32 st32 hQ32
      subst l32 y32 z32
      obtain ⟨rfl, M32, eh32⟩ := hQ32
      have N32 := Fr.app N21 M32
      refine Go.tr st32 ?_
      show Go p e below _ (T32.setTop (mkF m 52 #[.val (.int i0), .val (.long (i0.toInt64)), .second, .val (.ref b1_16), .val (.ref b26_20)] [(.int (1 : Int32))]))
      refine Go.st (fun t k => XS.lloadN X32.here hx rfl (hb hby at_52) rfl k) ?_
      show Go p e below _ (T32.setTop (mkF m 53 #[.val (.int i0), .val (.long (i0.toInt64)), .second, .val (.ref b1_16), .val (.ref b26_20)] [(.long (i0.toInt64)), (.int (1 : Int32))]))
      refine Go.st (fun t k => XS.lconst X32.here hx rfl (hb hby at_53) k) ?_
      show Go p e below _ (T32.setTop (mkF m 54 #[.val (.int i0), .val (.long (i0.toInt64)), .second, .val (.ref b1_16), .val (.ref b26_20)] [(.long (0 : Int64)), (.long (i0.toInt64)), (.int (1 : Int32))]))
      refine Go.st (fun t k => Jvm.Free.XT.lcmp X32.here hx rfl (hb hby at_54) rfl k) ?_
      show Go p e below _ (T32.setTop (mkF m 55 #[.val (.int i0), .val (.long (i0.toInt64)), .second, .val (.ref b1_16), .val (.ref b26_20)] [(.int (Jvm.Free.XT.cmpL (i0.toInt64) (0 : Int64))), (.int (1 : Int32))]))
      have hp33 : ¬ ((0 : Int64) < (i0.toInt64)) := by
        have j1 := own_b32 i0
        have j2 := own_b64 (i0.toInt64)
        have j3 := c_i2l i0
        have j4 : ((0 : Int64)).toInt = 0 := by decide
        have j5 := own_nlt64 hs1
        have j6 := own_b64 (-(i0.toInt64))
        have j7 := c_lneg (i0.toInt64)
        have j8 := own_b64 ((-(i0.toInt64)) <<< ((1 : Int32) &&& 0x3f).toInt64)
        have j9 := own_lshl (-(i0.toInt64)) (1 : Int32) 1 2 (by decide) (by decide)
        have j10 : ((1 : Int64)).toInt = 1 := by decide
        have j11 := own_b64 (((-(i0.toInt64)) <<< ((1 : Int32) &&& 0x3f).toInt64) ||| (1 : Int64))
        have j12 := c_orL ((-(i0.toInt64)) <<< ((1 : Int32) &&& 0x3f).toInt64) (1 : Int64) 1 (by decide) 2 (by decide)
        have j13 := own_nlt64 hc22
        rw [Int64.lt_iff_toInt_lt]
        omega
      refine Go.st (fun t k => XS.ifNo X32.here hx rfl (hb hby at_55) rfl (Jvm.Free.XT.ll_gt_f hp33) k) ?_
      show Go p e below _ (T32.setTop (mkF m 58 #[.val (.int i0), .val (.long (i0.toInt64)), .second, .val (.ref b1_16), .val (.ref b26_20)] [(.int (1 : Int32))]))
      refine Go.st (fun t k => XS.iconst X32.here hx rfl (hb hby at_58) k) ?_
      show Go p e below _ (T32.setTop (mkF m 59 #[.val (.int i0), .val (.long (i0.toInt64)), .second, .val (.ref b1_16), .val (.ref b26_20)] [(.int (1 : Int32)), (.int (1 : Int32))]))
      refine Go.st (fun t k => XS.goto X32.here hx rfl (pc0 := 59) (pc' := 63) rfl (hb hby at_59) (by decide) (by decide) k) ?_
      show Go p e below _ (T32.setTop (mkF m 63 #[.val (.int i0), .val (.long (i0.toInt64)), .second, .val (.ref b1_16), .val (.ref b26_20)] [(.int (1 : Int32)), (.int (1 : Int32))]))
      refine Go.st (fun t k => XS.icmpYes X32.here hx rfl (pc0 := 63) (pc' := 68) rfl (hb hby at_63) rfl (Jvm.Free.XT.ii_eq_t (by decide : (1 : Int32) = (1 : Int32))) (by decide) (by decide) k) ?_
      show Go p e below _ (T32.setTop (mkF m 68 #[.val (.int i0), .val (.long (i0.toInt64)), .second, .val (.ref b1_16), .val (.ref b26_20)] []))
      refine Go.st (fun t k => XS.aload X32.here hx rfl (hb hby at_68) rfl rfl k) ?_
      show Go p e below _ (T32.setTop (mkF m 70 #[.val (.int i0), .val (.long (i0.toInt64)), .second, .val (.ref b1_16), .val (.ref b26_20)] [(.ref b26_20)]))
      refine Go.st (fun t k => XS.iconst X32.here hx rfl (hb hby at_70) k) ?_
      show Go p e below _ (T32.setTop (mkF m 71 #[.val (.int i0), .val (.long (i0.toInt64)), .second, .val (.ref b1_16), .val (.ref b26_20)] [(.int (1 : Int32)), (.ref b26_20)]))
      refine Go.st (fun t k => XS.lloadN X32.here hx rfl (hb hby at_71) rfl k) ?_
      show Go p e below _ (T32.setTop (mkF m 72 #[.val (.int i0), .val (.long (i0.toInt64)), .second, .val (.ref b1_16), .val (.ref b26_20)] [(.long (i0.toInt64)), (.int (1 : Int32)), (.ref b26_20)]))
      have hp34 : ¬ ((((i0.toInt64) <<< ((1 : Int32) &&& 0x3f).toInt64) ||| (1 : Int64)) = (9223372036854775807 : Int64)) := by
        have j1 := own_b32 i0
        have j2 := own_b64 (i0.toInt64)
        have j3 := c_i2l i0
        have j4 : ((0 : Int64)).toInt = 0 := by decide
        have j5 := own_nlt64 hs1
        have j6 := own_b64 (-(i0.toInt64))
        have j7 := c_lneg (i0.toInt64)
        have j8 := own_b64 ((-(i0.toInt64)) <<< ((1 : Int32) &&& 0x3f).toInt64)
        have j9 := own_lshl (-(i0.toInt64)) (1 : Int32) 1 2 (by decide) (by decide)
        have j10 : ((1 : Int64)).toInt = 1 := by decide
        have j11 := own_b64 (((-(i0.toInt64)) <<< ((1 : Int32) &&& 0x3f).toInt64) ||| (1 : Int64))
        have j12 := c_orL ((-(i0.toInt64)) <<< ((1 : Int32) &&& 0x3f).toInt64) (1 : Int64) 1 (by decide) 2 (by decide)
        have j13 := own_nlt64 hc22
        have j14 := own_b64 ((i0.toInt64) <<< ((1 : Int32) &&& 0x3f).toInt64)
        have j15 := own_lshl (i0.toInt64) (1 : Int32) 1 2 (by decide) (by decide)
        have j16 := own_b64 (((i0.toInt64) <<< ((1 : Int32) &&& 0x3f).toInt64) ||| (1 : Int64))
        have j17 := c_orL ((i0.toInt64) <<< ((1 : Int32) &&& 0x3f).toInt64) (1 : Int64) 1 (by decide) 2 (by decide)
        have j18 : ((9223372036854775807 : Int64)).toInt = 9223372036854775807 := by decide
        rw [← Int64.toInt_inj]
        omega
      have hp35 : ¬ ((((((((i0.toInt64) <<< ((1 : Int32) &&& 0x3f).toInt64) ||| (1 : Int64)) >>> ((1 : Int32) &&& 0x3f).toInt64) + (0 : Int64)) <<< ((1 : Int32) &&& 0x3f).toInt64) ||| (((((i0.toInt64) <<< ((1 : Int32) &&& 0x3f).toInt64) ||| (1 : Int64)) &&& (1 : Int64)) &&& (1 : Int64))) < (1 : Int64)) := by
        have j1 := own_b32 i0
        have j2 := own_b64 (i0.toInt64)
        have j3 := c_i2l i0
        have j4 : ((0 : Int64)).toInt = 0 := by decide
        have j5 := own_nlt64 hs1
        have j6 := own_b64 (-(i0.toInt64))
        have j7 := c_lneg (i0.toInt64)
        have j8 := own_b64 ((-(i0.toInt64)) <<< ((1 : Int32) &&& 0x3f).toInt64)
        have j9 := own_lshl (-(i0.toInt64)) (1 : Int32) 1 2 (by decide) (by decide)
        have j10 : ((1 : Int64)).toInt = 1 := by decide
        have j11 := own_b64 (((-(i0.toInt64)) <<< ((1 : Int32) &&& 0x3f).toInt64) ||| (1 : Int64))
        have j12 := c_orL ((-(i0.toInt64)) <<< ((1 : Int32) &&& 0x3f).toInt64) (1 : Int64) 1 (by decide) 2 (by decide)
        have j13 := own_nlt64 hc22
        have j14 := own_b64 ((i0.toInt64) <<< ((1 : Int32) &&& 0x3f).toInt64)
        have j15 := own_lshl (i0.toInt64) (1 : Int32) 1 2 (by decide) (by decide)
        have j16 := own_b64 (((i0.toInt64) <<< ((1 : Int32) &&& 0x3f).toInt64) ||| (1 : Int64))
        have j17 := c_orL ((i0.toInt64) <<< ((1 : Int32) &&& 0x3f).toInt64) (1 : Int64) 1 (by decide) 2 (by decide)
        have j18 := own_b64 ((((i0.toInt64) <<< ((1 : Int32) &&& 0x3f).toInt64) ||| (1 : Int64)) >>> ((1 : Int32) &&& 0x3f).toInt64)
        have j19 := own_lshr (((i0.toInt64) <<< ((1 : Int32) &&& 0x3f).toInt64) ||| (1 : Int64)) (1 : Int32) 1 2 (by decide) (by decide)
        have j20 := own_b64 (((((i0.toInt64) <<< ((1 : Int32) &&& 0x3f).toInt64) ||| (1 : Int64)) >>> ((1 : Int32) &&& 0x3f).toInt64) + (0 : Int64))
        have j21 := c_ladd ((((i0.toInt64) <<< ((1 : Int32) &&& 0x3f).toInt64) ||| (1 : Int64)) >>> ((1 : Int32) &&& 0x3f).toInt64) (0 : Int64)
        have j22 := own_b64 ((((((i0.toInt64) <<< ((1 : Int32) &&& 0x3f).toInt64) ||| (1 : Int64)) >>> ((1 : Int32) &&& 0x3f).toInt64) + (0 : Int64)) <<< ((1 : Int32) &&& 0x3f).toInt64)
        have j23 := own_lshl (((((i0.toInt64) <<< ((1 : Int32) &&& 0x3f).toInt64) ||| (1 : Int64)) >>> ((1 : Int32) &&& 0x3f).toInt64) + (0 : Int64)) (1 : Int32) 1 2 (by decide) (by decide)
        have j24 := own_b64 ((((i0.toInt64) <<< ((1 : Int32) &&& 0x3f).toInt64) ||| (1 : Int64)) &&& (1 : Int64))
        have j25 := own_mask64 (((i0.toInt64) <<< ((1 : Int32) &&& 0x3f).toInt64) ||| (1 : Int64)) (1 : Int64) 1 2 (by decide) (by decide) (by decide)
        have j26 := own_b64 (((((i0.toInt64) <<< ((1 : Int32) &&& 0x3f).toInt64) ||| (1 : Int64)) &&& (1 : Int64)) &&& (1 : Int64))
        have j27 := own_mask64 ((((i0.toInt64) <<< ((1 : Int32) &&& 0x3f).toInt64) ||| (1 : Int64)) &&& (1 : Int64)) (1 : Int64) 1 2 (by decide) (by decide) (by decide)
        have j28 := own_b64 (((((((i0.toInt64) <<< ((1 : Int32) &&& 0x3f).toInt64) ||| (1 : Int64)) >>> ((1 : Int32) &&& 0x3f).toInt64) + (0 : Int64)) <<< ((1 : Int32) &&& 0x3f).toInt64) ||| (((((i0.toInt64) <<< ((1 : Int32) &&& 0x3f).toInt64) ||| (1 : Int64)) &&& (1 : Int64)) &&& (1 : Int64)))
        have j29 := c_orL ((((((i0.toInt64) <<< ((1 : Int32) &&& 0x3f).toInt64) ||| (1 : Int64)) >>> ((1 : Int32) &&& 0x3f).toInt64) + (0 : Int64)) <<< ((1 : Int32) &&& 0x3f).toInt64) (((((i0.toInt64) <<< ((1 : Int32) &&& 0x3f).toInt64) ||| (1 : Int64)) &&& (1 : Int64)) &&& (1 : Int64)) 1 (by decide) 2 (by decide)
        rw [Int64.lt_iff_toInt_lt]
        omega
      have hp36 : ¬ ((((i0.toInt64) <<< ((1 : Int32) &&& 0x3f).toInt64) ||| (1 : Int64)) < (1 : Int64)) := by
        have j1 := own_b32 i0
        have j2 := own_b64 (i0.toInt64)
        have j3 := c_i2l i0
        have j4 : ((0 : Int64)).toInt = 0 := by decide
        have j5 := own_nlt64 hs1
        have j6 := own_b64 (-(i0.toInt64))
        have j7 := c_lneg (i0.toInt64)
        have j8 := own_b64 ((-(i0.toInt64)) <<< ((1 : Int32) &&& 0x3f).toInt64)
        have j9 := own_lshl (-(i0.toInt64)) (1 : Int32) 1 2 (by decide) (by decide)
        have j10 : ((1 : Int64)).toInt = 1 := by decide
        have j11 := own_b64 (((-(i0.toInt64)) <<< ((1 : Int32) &&& 0x3f).toInt64) ||| (1 : Int64))
        have j12 := c_orL ((-(i0.toInt64)) <<< ((1 : Int32) &&& 0x3f).toInt64) (1 : Int64) 1 (by decide) 2 (by decide)
        have j13 := own_nlt64 hc22
        have j14 := own_b64 ((i0.toInt64) <<< ((1 : Int32) &&& 0x3f).toInt64)
        have j15 := own_lshl (i0.toInt64) (1 : Int32) 1 2 (by decide) (by decide)
        have j16 := own_b64 (((i0.toInt64) <<< ((1 : Int32) &&& 0x3f).toInt64) ||| (1 : Int64))
        have j17 := c_orL ((i0.toInt64) <<< ((1 : Int32) &&& 0x3f).toInt64) (1 : Int64) 1 (by decide) 2 (by decide)
        rw [Int64.lt_iff_toInt_lt]
        omega
      obtain ⟨cq37, kq37, q37a, q37b, q37c⟩ := isOf hZ eh32 r20_3
      obtain ⟨_, _, ⟨T37, L37, k37, n37⟩, -, X37, ⟨Lc37, hQ37, l37, y37, z37⟩, st37⟩ := X32.virtualBack hx (y := (⟨"com/example/envelop/envelop/plan/Zone", "atMost", "(IJ)Lcom/example/envelop/envelop/plan/Zone;"⟩ : MethodName)) (z := (⟨"com/example/envelop/envelop/plan/Zone", "atMost", "(IJ)Lcom/example/envelop/envelop/plan/Zone;"⟩ : MethodName)) hown (mvT hZ (w50 hw)) (mvT hZ (w51 hw)) (notFace_of_selects (args := #[]) (mvT hZ (w53 hw))) (mvT hZ (w53 hw)) (mvT hZ (w52 hw)) (by decide) (backOf (W := 0) (rm10_2 l Z a0 hw [] b26_20 (i0.toInt64) b2_20 k2_20 T20.heap n0 O20 r20_3 r20_5 r20_4 r20_6 hp34 Y2 hp35 hp36) hZ (w54 hw) (w2 hw) (by decide) (by decide)) q37a q37c (g := (mkF m 72 #[.val (.int i0), .val (.long (i0.toInt64)), .second, .val (.ref b1_16), .val (.ref b26_20)] [(.long (i0.toInt64)), (.int (1 : Int32)), (.ref b26_20)])) rfl (by rw [hml]; rfl) (Steps.refl _) (argsL := [(.int (1 : Int32)), (.long (i0.toInt64))]) (rest := []) (lenOf pd_9 rfl) rfl (by show 2 * 0 + _ ≤ _; exact Nat.le_of_eq rfl) (hb hby at_72) (fun vm₁ hw₁ => ⟨rfl, eh32, (by decide : 6 + 0 ≤ _), (by decide : 12 + 0 ≤ _)⟩)
      dsimp only [Pt.U, Pt.locs, Pt.cells, Pt.slots] at X37 l37 y37 z37 st37 hQ37
      subst l37 y37 z37
      obtain ⟨rfl, M37, eh37⟩ := hQ37
      have N37 := Fr.app N32 M37
      refine Go.tr st37 ?_
      show Go p e below _ (T37.setTop (mkF m 75 #[.val (.int i0), .val (.long (i0.toInt64)), .second, .val (.ref b1_16), .val (.ref b26_20)] [(.ref b26_20)]))
      refine Go.st (fun t k => XS.ifnullNo X37.here hx rfl (hb hby at_75) rfl k) ?_
      show Go p e below _ (T37.setTop (mkF m 78 #[.val (.int i0), .val (.long (i0.toInt64)), .second, .val (.ref b1_16), .val (.ref b26_20)] []))
      refine Go.st (fun t k => XS.iconst X37.here hx rfl (hb hby at_78) k) ?_
      show Go p e below _ (T37.setTop (mkF m 79 #[.val (.int i0), .val (.long (i0.toInt64)), .second, .val (.ref b1_16), .val (.ref b26_20)] [(.int (1 : Int32))]))
      refine Go.st (fun t k => XS.goto X37.here hx rfl (pc0 := 79) (pc' := 83) rfl (hb hby at_79) (by decide) (by decide) k) ?_
      show Go p e below _ (T37.setTop (mkF m 83 #[.val (.int i0), .val (.long (i0.toInt64)), .second, .val (.ref b1_16), .val (.ref b26_20)] [(.int (1 : Int32))]))
      refine Go.st (fun t k => XS.lloadN X37.here hx rfl (hb hby at_83) rfl k) ?_
      show Go p e below _ (T37.setTop (mkF m 84 #[.val (.int i0), .val (.long (i0.toInt64)), .second, .val (.ref b1_16), .val (.ref b26_20)] [(.long (i0.toInt64)), (.int (1 : Int32))]))
      refine Go.st (fun t k => XS.lconst X37.here hx rfl (hb hby at_84) k) ?_
      show Go p e below _ (T37.setTop (mkF m 85 #[.val (.int i0), .val (.long (i0.toInt64)), .second, .val (.ref b1_16), .val (.ref b26_20)] [(.long (0 : Int64)), (.long (i0.toInt64)), (.int (1 : Int32))]))
      refine Go.st (fun t k => Jvm.Free.XT.lcmp X37.here hx rfl (hb hby at_85) rfl k) ?_
      show Go p e below _ (T37.setTop (mkF m 86 #[.val (.int i0), .val (.long (i0.toInt64)), .second, .val (.ref b1_16), .val (.ref b26_20)] [(.int (Jvm.Free.XT.cmpL (i0.toInt64) (0 : Int64))), (.int (1 : Int32))]))
      refine Go.st (fun t k => XS.ifNo X37.here hx rfl (hb hby at_86) rfl (Jvm.Free.XT.ll_lt_f hs1) k) ?_
      show Go p e below _ (T37.setTop (mkF m 89 #[.val (.int i0), .val (.long (i0.toInt64)), .second, .val (.ref b1_16), .val (.ref b26_20)] [(.int (1 : Int32))]))
      refine Go.st (fun t k => XS.iconst X37.here hx rfl (hb hby at_89) k) ?_
      show Go p e below _ (T37.setTop (mkF m 90 #[.val (.int i0), .val (.long (i0.toInt64)), .second, .val (.ref b1_16), .val (.ref b26_20)] [(.int (1 : Int32)), (.int (1 : Int32))]))
      refine Go.st (fun t k => XS.goto X37.here hx rfl (pc0 := 90) (pc' := 94) rfl (hb hby at_90) (by decide) (by decide) k) ?_
      show Go p e below _ (T37.setTop (mkF m 94 #[.val (.int i0), .val (.long (i0.toInt64)), .second, .val (.ref b1_16), .val (.ref b26_20)] [(.int (1 : Int32)), (.int (1 : Int32))]))
      refine Go.st (fun t k => XS.icmpYes X37.here hx rfl (pc0 := 94) (pc' := 99) rfl (hb hby at_94) rfl (Jvm.Free.XT.ii_eq_t (by decide : (1 : Int32) = (1 : Int32))) (by decide) (by decide) k) ?_
      show Go p e below _ (T37.setTop (mkF m 99 #[.val (.int i0), .val (.long (i0.toInt64)), .second, .val (.ref b1_16), .val (.ref b26_20)] []))
      refine Go.st (fun t k => XS.aload X37.here hx rfl (hb hby at_99) rfl rfl k) ?_
      show Go p e below _ (T37.setTop (mkF m 101 #[.val (.int i0), .val (.long (i0.toInt64)), .second, .val (.ref b1_16), .val (.ref b26_20)] [(.ref b26_20)]))
      refine Go.st (fun t k => XS.iconst X37.here hx rfl (hb hby at_101) k) ?_
      show Go p e below _ (T37.setTop (mkF m 102 #[.val (.int i0), .val (.long (i0.toInt64)), .second, .val (.ref b1_16), .val (.ref b26_20)] [(.int (1 : Int32)), (.ref b26_20)]))
      refine Go.st (fun t k => XS.lloadN X37.here hx rfl (hb hby at_102) rfl k) ?_
      show Go p e below _ (T37.setTop (mkF m 103 #[.val (.int i0), .val (.long (i0.toInt64)), .second, .val (.ref b1_16), .val (.ref b26_20)] [(.long (i0.toInt64)), (.int (1 : Int32)), (.ref b26_20)]))
      have hp38 : ¬ ((((-(i0.toInt64)) <<< ((1 : Int32) &&& 0x3f).toInt64) ||| (1 : Int64)) = (9223372036854775807 : Int64)) := by
        have j1 := own_b32 i0
        have j2 := own_b64 (i0.toInt64)
        have j3 := c_i2l i0
        have j4 : ((0 : Int64)).toInt = 0 := by decide
        have j5 := own_nlt64 hs1
        have j6 := own_b64 (-(i0.toInt64))
        have j7 := c_lneg (i0.toInt64)
        have j8 := own_b64 ((-(i0.toInt64)) <<< ((1 : Int32) &&& 0x3f).toInt64)
        have j9 := own_lshl (-(i0.toInt64)) (1 : Int32) 1 2 (by decide) (by decide)
        have j10 : ((1 : Int64)).toInt = 1 := by decide
        have j11 := own_b64 (((-(i0.toInt64)) <<< ((1 : Int32) &&& 0x3f).toInt64) ||| (1 : Int64))
        have j12 := c_orL ((-(i0.toInt64)) <<< ((1 : Int32) &&& 0x3f).toInt64) (1 : Int64) 1 (by decide) 2 (by decide)
        have j13 := own_nlt64 hc22
        have j14 : ((9223372036854775807 : Int64)).toInt = 9223372036854775807 := by decide
        rw [← Int64.toInt_inj]
        omega
      have hp39 : ¬ ((((((((-(i0.toInt64)) <<< ((1 : Int32) &&& 0x3f).toInt64) ||| (1 : Int64)) >>> ((1 : Int32) &&& 0x3f).toInt64) + (0 : Int64)) <<< ((1 : Int32) &&& 0x3f).toInt64) ||| (((((-(i0.toInt64)) <<< ((1 : Int32) &&& 0x3f).toInt64) ||| (1 : Int64)) &&& (1 : Int64)) &&& (1 : Int64))) < (1 : Int64)) := by
        have j1 := own_b32 i0
        have j2 := own_b64 (i0.toInt64)
        have j3 := c_i2l i0
        have j4 : ((0 : Int64)).toInt = 0 := by decide
        have j5 := own_nlt64 hs1
        have j6 := own_b64 (-(i0.toInt64))
        have j7 := c_lneg (i0.toInt64)
        have j8 := own_b64 ((-(i0.toInt64)) <<< ((1 : Int32) &&& 0x3f).toInt64)
        have j9 := own_lshl (-(i0.toInt64)) (1 : Int32) 1 2 (by decide) (by decide)
        have j10 : ((1 : Int64)).toInt = 1 := by decide
        have j11 := own_b64 (((-(i0.toInt64)) <<< ((1 : Int32) &&& 0x3f).toInt64) ||| (1 : Int64))
        have j12 := c_orL ((-(i0.toInt64)) <<< ((1 : Int32) &&& 0x3f).toInt64) (1 : Int64) 1 (by decide) 2 (by decide)
        have j13 := own_nlt64 hc22
        have j14 := own_b64 ((((-(i0.toInt64)) <<< ((1 : Int32) &&& 0x3f).toInt64) ||| (1 : Int64)) >>> ((1 : Int32) &&& 0x3f).toInt64)
        have j15 := own_lshr (((-(i0.toInt64)) <<< ((1 : Int32) &&& 0x3f).toInt64) ||| (1 : Int64)) (1 : Int32) 1 2 (by decide) (by decide)
        have j16 := own_b64 (((((-(i0.toInt64)) <<< ((1 : Int32) &&& 0x3f).toInt64) ||| (1 : Int64)) >>> ((1 : Int32) &&& 0x3f).toInt64) + (0 : Int64))
        have j17 := c_ladd ((((-(i0.toInt64)) <<< ((1 : Int32) &&& 0x3f).toInt64) ||| (1 : Int64)) >>> ((1 : Int32) &&& 0x3f).toInt64) (0 : Int64)
        have j18 := own_b64 ((((((-(i0.toInt64)) <<< ((1 : Int32) &&& 0x3f).toInt64) ||| (1 : Int64)) >>> ((1 : Int32) &&& 0x3f).toInt64) + (0 : Int64)) <<< ((1 : Int32) &&& 0x3f).toInt64)
        have j19 := own_lshl (((((-(i0.toInt64)) <<< ((1 : Int32) &&& 0x3f).toInt64) ||| (1 : Int64)) >>> ((1 : Int32) &&& 0x3f).toInt64) + (0 : Int64)) (1 : Int32) 1 2 (by decide) (by decide)
        have j20 := own_b64 ((((-(i0.toInt64)) <<< ((1 : Int32) &&& 0x3f).toInt64) ||| (1 : Int64)) &&& (1 : Int64))
        have j21 := own_mask64 (((-(i0.toInt64)) <<< ((1 : Int32) &&& 0x3f).toInt64) ||| (1 : Int64)) (1 : Int64) 1 2 (by decide) (by decide) (by decide)
        have j22 := own_b64 (((((-(i0.toInt64)) <<< ((1 : Int32) &&& 0x3f).toInt64) ||| (1 : Int64)) &&& (1 : Int64)) &&& (1 : Int64))
        have j23 := own_mask64 ((((-(i0.toInt64)) <<< ((1 : Int32) &&& 0x3f).toInt64) ||| (1 : Int64)) &&& (1 : Int64)) (1 : Int64) 1 2 (by decide) (by decide) (by decide)
        have j24 := own_b64 (((((((-(i0.toInt64)) <<< ((1 : Int32) &&& 0x3f).toInt64) ||| (1 : Int64)) >>> ((1 : Int32) &&& 0x3f).toInt64) + (0 : Int64)) <<< ((1 : Int32) &&& 0x3f).toInt64) ||| (((((-(i0.toInt64)) <<< ((1 : Int32) &&& 0x3f).toInt64) ||| (1 : Int64)) &&& (1 : Int64)) &&& (1 : Int64)))
        have j25 := c_orL ((((((-(i0.toInt64)) <<< ((1 : Int32) &&& 0x3f).toInt64) ||| (1 : Int64)) >>> ((1 : Int32) &&& 0x3f).toInt64) + (0 : Int64)) <<< ((1 : Int32) &&& 0x3f).toInt64) (((((-(i0.toInt64)) <<< ((1 : Int32) &&& 0x3f).toInt64) ||| (1 : Int64)) &&& (1 : Int64)) &&& (1 : Int64)) 1 (by decide) 2 (by decide)
        rw [Int64.lt_iff_toInt_lt]
        omega
      obtain ⟨cq40, kq40, q40a, q40b, q40c⟩ := isOf hZ eh37 r20_3
      obtain ⟨_, _, ⟨T40, L40, k40, n40⟩, -, X40, ⟨Lc40, hQ40, l40, y40, z40⟩, st40⟩ := X37.virtualBack hx (y := (⟨"com/example/envelop/envelop/plan/Zone", "atLeast", "(IJ)Lcom/example/envelop/envelop/plan/Zone;"⟩ : MethodName)) (z := (⟨"com/example/envelop/envelop/plan/Zone", "atLeast", "(IJ)Lcom/example/envelop/envelop/plan/Zone;"⟩ : MethodName)) hown (mvT hZ (w63 hw)) (mvT hZ (w64 hw)) (notFace_of_selects (args := #[]) (mvT hZ (w66 hw))) (mvT hZ (w66 hw)) (mvT hZ (w65 hw)) (by decide) (backOf (W := 0) (rm13_1 l Z a0 hw [] b26_20 (i0.toInt64) b2_20 k2_20 T20.heap n0 O20 r20_3 r20_5 r20_4 r20_6 hp38 Y2 hp39 hc22) hZ (w67 hw) (w2 hw) (by decide) (by decide)) q40a q40c (g := (mkF m 103 #[.val (.int i0), .val (.long (i0.toInt64)), .second, .val (.ref b1_16), .val (.ref b26_20)] [(.long (i0.toInt64)), (.int (1 : Int32)), (.ref b26_20)])) rfl (by rw [hml]; rfl) (Steps.refl _) (argsL := [(.int (1 : Int32)), (.long (i0.toInt64))]) (rest := []) (lenOf pd_9 rfl) rfl (by show 2 * 0 + _ ≤ _; exact Nat.le_of_eq rfl) (hb hby at_103) (fun vm₁ hw₁ => ⟨rfl, eh37, (by decide : 6 + 0 ≤ _), (by decide : 12 + 0 ≤ _)⟩)
      dsimp only [Pt.U, Pt.locs, Pt.cells, Pt.slots] at X40 l40 y40 z40 st40 hQ40
      subst l40 y40 z40
      obtain ⟨rfl, M40, eh40⟩ := hQ40
      have N40 := Fr.app N37 M40
      refine Go.tr st40 ?_
      show Go p e below _ (T40.setTop (mkF m 106 #[.val (.int i0), .val (.long (i0.toInt64)), .second, .val (.ref b1_16), .val (.ref b26_20)] [(.ref b26_20)]))
      refine Go.st (fun t k => XS.ifnullNo X40.here hx rfl (hb hby at_106) rfl k) ?_
      show Go p e below _ (T40.setTop (mkF m 109 #[.val (.int i0), .val (.long (i0.toInt64)), .second, .val (.ref b1_16), .val (.ref b26_20)] []))
      refine Go.st (fun t k => XS.iconst X40.here hx rfl (hb hby at_109) k) ?_
      show Go p e below _ (T40.setTop (mkF m 110 #[.val (.int i0), .val (.long (i0.toInt64)), .second, .val (.ref b1_16), .val (.ref b26_20)] [(.int (1 : Int32))]))
      refine Go.st (fun t k => XS.goto X40.here hx rfl (pc0 := 110) (pc' := 114) rfl (hb hby at_110) (by decide) (by decide) k) ?_
      show Go p e below _ (T40.setTop (mkF m 114 #[.val (.int i0), .val (.long (i0.toInt64)), .second, .val (.ref b1_16), .val (.ref b26_20)] [(.int (1 : Int32))]))
      refine Go.st (fun t k => XS.lloadN X40.here hx rfl (hb hby at_114) rfl k) ?_
      show Go p e below _ (T40.setTop (mkF m 115 #[.val (.int i0), .val (.long (i0.toInt64)), .second, .val (.ref b1_16), .val (.ref b26_20)] [(.long (i0.toInt64)), (.int (1 : Int32))]))
      refine Go.st (fun t k => XS.lconst X40.here hx rfl (hb hby at_115) k) ?_
      show Go p e below _ (T40.setTop (mkF m 116 #[.val (.int i0), .val (.long (i0.toInt64)), .second, .val (.ref b1_16), .val (.ref b26_20)] [(.long (0 : Int64)), (.long (i0.toInt64)), (.int (1 : Int32))]))
      refine Go.st (fun t k => Jvm.Free.XT.lcmp X40.here hx rfl (hb hby at_116) rfl k) ?_
      show Go p e below _ (T40.setTop (mkF m 117 #[.val (.int i0), .val (.long (i0.toInt64)), .second, .val (.ref b1_16), .val (.ref b26_20)] [(.int (Jvm.Free.XT.cmpL (i0.toInt64) (0 : Int64))), (.int (1 : Int32))]))
      refine Go.st (fun t k => XS.ifNo X40.here hx rfl (hb hby at_117) rfl (Jvm.Free.XT.ll_gt_f hp33) k) ?_
      show Go p e below _ (T40.setTop (mkF m 120 #[.val (.int i0), .val (.long (i0.toInt64)), .second, .val (.ref b1_16), .val (.ref b26_20)] [(.int (1 : Int32))]))
      refine Go.st (fun t k => XS.iconst X40.here hx rfl (hb hby at_120) k) ?_
      show Go p e below _ (T40.setTop (mkF m 121 #[.val (.int i0), .val (.long (i0.toInt64)), .second, .val (.ref b1_16), .val (.ref b26_20)] [(.int (1 : Int32)), (.int (1 : Int32))]))
      refine Go.st (fun t k => XS.goto X40.here hx rfl (pc0 := 121) (pc' := 125) rfl (hb hby at_121) (by decide) (by decide) k) ?_
      show Go p e below _ (T40.setTop (mkF m 125 #[.val (.int i0), .val (.long (i0.toInt64)), .second, .val (.ref b1_16), .val (.ref b26_20)] [(.int (1 : Int32)), (.int (1 : Int32))]))
      refine Go.st (fun t k => XS.icmpYes X40.here hx rfl (pc0 := 125) (pc' := 130) rfl (hb hby at_125) rfl (Jvm.Free.XT.ii_eq_t (by decide : (1 : Int32) = (1 : Int32))) (by decide) (by decide) k) ?_
      show Go p e below _ (T40.setTop (mkF m 130 #[.val (.int i0), .val (.long (i0.toInt64)), .second, .val (.ref b1_16), .val (.ref b26_20)] []))
      refine Go.st (fun t k => XS.iconst X40.here hx rfl (hb hby at_130) k) ?_
      show Go p e below _ (T40.setTop (mkF m 131 #[.val (.int i0), .val (.long (i0.toInt64)), .second, .val (.ref b1_16), .val (.ref b26_20)] [(.int (1 : Int32))]))
      obtain ⟨fs, hr, hrun, hended, hWd, hsame⟩ := X40.leave (v := some (.int (1 : Int32))) (fun h => by rw [Bd.returns] at h; cases h)
      refine ⟨_, _, ?_, hrun, hended, _, _, rfl, ?_, ⟨⟨_, rfl⟩, hWd, hsame.mono (by decide) (by decide)⟩⟩
      · exact retN X40 hx (t := .boolean) Bd.returns (by simp) (hb hby at_131) hr
      · exact ⟨rfl, N40⟩
set_option maxRecDepth 65536 in
set_option maxHeartbeats 40000000 in
theorem comes_1 {Post : Tables → Env → Array Value → State → Outcome → State → Prop} (hpost : ∀ tb e args s v u, (limb_1_1.after args s (.returned v) u = true ∧ limb_1_2.after args s (.returned v) u = true ∧ True) → FrameEnd s (.returned v) u (Jvm.fieldLocs frame_1_writes args s ++ Jvm.arrayLocs frame_1_arrays args s ++ Jvm.staticLocs frame_1_statics s) 24 128 → Post tb e args s (.returned v) u) :
    ArmFor flags0 classFile x code maxLocals ret World_1 tables_1 room_1 Calls_1 rest_1 Pre_1 Post := by
  intro l hfl _ _ p e ha hc hk s m args below hf hA hF happ hP
  obtain ⟨hcalls, hrest, hpre⟩ := hP
  obtain ⟨-, -, -, hnamed, -, -, -, hat⟩ := (Spec.applies_iff hf).mp happ
  obtain ⟨hg, hn⟩ := and_e (Cond.before_iff.mp (show (Jvm.Cond.and given_1 narrow_1).before args s = true from hpre))
  obtain ⟨hcnt, hg⟩ := and_e hg
  have hv0 := hg
  obtain ⟨w0, rfl⟩ : ∃ w0 : Value, args = #[w0] := by
    have hs : args.size = 1 := by simpa [Cond.value, given_1] using hcnt
    obtain ⟨L⟩ := args
    match L, hs with
    | [w0], _ => exact ⟨w0, rfl⟩
  have hw := fun d (hd : d ∈ tables_1) => atoms_spec (ws := Jvm.Cond.code x code maxLocals ret :: tables_1) hat d (List.mem_cons_of_mem _ hd)
  have hfit : Fit s := fun {y c} hc i hi => by
    obtain ⟨ha, rfl⟩ := Array.getElem?_eq_some_iff.mp hc
    have q := List.all_eq_true.mp ((Array.all_eq_true_iff_forall_mem.mp hF) _ (Array.getElem_mem ha)) i (List.mem_range.mpr hi)
    simpa [Array.getElem?_eq_getElem hi] using q
  obtain ⟨i0, ei0⟩ := is_v hv0
  obtain rfl : w0 = (.int i0) := Option.some.inj ei0
  have ev1 : (Term.static "com/example/envelop/envelop/plan/Zone" "ZERO" "J").eval _ s none [] s = some (.long (1 : Int64)) := own_valJ hn
  have Y2 : Sta s s.heap "com/example/envelop/envelop/plan/Zone" "ZERO" "J" (.long (1 : Int64)) := Sta.start ev1 (Or.inr ⟨(w2 hw), (w8 hw)⟩)
  obtain ⟨n, o, h1, h2, h3, _, L, rfl, ⟨rfl, N⟩, hq⟩ := rm0 l s _ hw tables_1 i0 s.heap s.heap.size (Old.start s) Y2 p e ha hc hk s m _ below hf ((Spec.applies_iff_loose hf).mp happ).1 ⟨rfl, State.Warmed39.refl s, rfl⟩ trivial
  refine ⟨n, _, h1, h2, h3, hpost _ _ _ _ _ _ ⟨Cond.after_iff.mpr rfl, Cond.after_iff.mpr (eq_i res_at (Term.int_eval (1)) rfl), trivial⟩ ⟨hq.1, hq.2.1, (hq.2.2.sift fun y hy => Or.inr (N y hy)).mono (by decide) (by decide)⟩⟩
theorem main_1_1 : Claimed_1_1 := comes_1 fun _ _ _ _ _ _ h hF => ⟨h.1, hF⟩
theorem main_1_2 : Claimed_1_2 := comes_1 fun _ _ _ _ _ _ h hF => ⟨h.2.1, hF⟩
end Jvm.Pilot.@@N@@
namespace Jvm.Pilot.@@N@@
open Jvm Jvm.ClassFile Sem Op Lib Jvm.Free Jvm.Stand Jvm.Pilot.@@N@@.Jvm.D
/-! MADE BY PROGRAM (witnessworld.py) out of the Statement's table words and the real class files: 12 classes; the members and pool entries that the words name. The judged class is class 1, her method 1. -/
namespace start1
open Jvm.ClassFile
def u (s : String) : CpInfo := .utf8 (stringToUtf16 s)
/-- a pool by its gaps: so many unusable entries, then the entry; so many at the end -/
def gap : Nat → List CpInfo → List CpInfo
  | 0, r => r
  | n + 1, r => .unusable :: gap n r
def poolList (es : List (Nat × CpInfo)) (last : Nat) : List CpInfo := es.foldr (fun e r => gap e.1 (e.2 :: r)) (gap last [])
def pool (es : List (Nat × CpInfo)) (last : Nat) : Array CpInfo := ⟨poolList es last⟩
def fileOf (pool : Array CpInfo) (this : Nat) (attrs : Array Attribute := #[]) (ms : Array MethodInfo := #[]) (fl : Nat := 33) (sup : Nat := 0) (ifs : Array Nat := #[]) (fds : Array FieldInfo := #[]) : ClassFile where
  minorVersion := 0
  majorVersion := 65
  constantPool := pool
  accessFlags := fl
  thisClass := this
  superClass := sup
  interfaces := ifs
  fields := fds
  methods := ms
  attributes := attrs
def plain (name : String) (sup : Option ClassId) : Class where
  name := name
  kind := .ordinary
  loader := none
  accessFlags := 33
  super := sup
  interfaces := #[]
  cf := none
  fields := #[]
  methods := #[]
  instanceTypes := #[]
  staticTypes := #[]
  resolved := #[]
  callSites := []
  init := .initialized
  statics := none
  mirror := none

def pool0 : Array CpInfo := pool [(5, u "<init>"), (0, u "()V"), (1, .class_ 10), (1, u "java/lang/Object")] 113

def k0c0 : Code := { maxStack := 0, maxLocals := 1, code := object_method_1_code, exceptionTable := #[], attributes := #[] }
def k0m0 : Method := { name := "<init>", desc := "()V", sig := { parameters := [], returnType := none }, accessFlags := 1, code := some k0c0 }
/-- java/lang/Object -/
def k0 : Class := { plain "java/lang/Object" none with
  accessFlags := 33
  interfaces := #[]
  cf := some (fileOf pool0 8 #[] #[{ accessFlags := 1, nameIndex := 5, descriptorIndex := 6, attributes := #[] }] 33 0 #[] #[])
  fields := #[]
  methods := #[k0m0]
  instanceTypes := #[]
  staticTypes := #[]
  resolved := Array.replicate 124 none
  statics := none }

def pool1 : Array CpInfo := pool [(2, .class_ 4), (1, u "java/lang/Object"), (0, u "<init>"), (0, u "()V"), (0, .methodref 8 9), (0, .class_ 10), (0, .nameAndType 11 12), (0, u "com/example/envelop/envelop/plan/Zone"), (0, u "none"), (0, u "()Lcom/example/envelop/envelop/plan/Zone;"), (0, .methodref 8 14), (0, .nameAndType 15 16), (0, u "clocks"), (0, u "()I"), (0, .methodref 8 18), (0, .nameAndType 19 20), (0, u "within"), (0, u "(Lcom/example/envelop/envelop/plan/Zone;)Z"), (0, .methodref 8 22), (0, .nameAndType 23 12), (0, u "reset"), (0, .methodref 8 25), (0, .nameAndType 26 27), (0, u "impliesAtLeast"), (0, u "(IJ)Z"), (0, .methodref 8 29), (0, .nameAndType 30 31), (0, u "atMost"), (0, u "(IJ)Lcom/example/envelop/envelop/plan/Zone;"), (0, .methodref 8 33), (0, .nameAndType 34 31), (0, u "atLeast"), (0, .class_ 36), (0, u "com/example/envelop/envelop/plan/ZoneNonePinLaw"), (2, u "law"), (0, u "(I)Z")] 3

def k1m0 : Method := { name := "<init>", desc := "()V", sig := { parameters := [], returnType := none }, accessFlags := 1, code := none }
def k1c1 : Code := { maxStack := 5, maxLocals := 5, code := code, exceptionTable := #[], attributes := #[] }
def k1m1 : Method := { name := "law", desc := "(I)Z", sig := { parameters := [.int], returnType := some .boolean }, accessFlags := 9, code := some k1c1 }
/-- com/example/envelop/envelop/plan/ZoneNonePinLaw -/
def k1 : Class := { plain "com/example/envelop/envelop/plan/ZoneNonePinLaw" (some 0) with
  accessFlags := 49
  interfaces := #[]
  cf := some (fileOf pool1 35 #[] #[{ accessFlags := 1, nameIndex := 5, descriptorIndex := 6, attributes := #[] }, { accessFlags := 9, nameIndex := 39, descriptorIndex := 40, attributes := #[] }] 49 2 #[] #[])
  fields := #[]
  methods := #[k1m0, k1m1]
  instanceTypes := #[]
  staticTypes := #[]
  resolved := Array.replicate 44 none
  statics := none }

def pool2 : Array CpInfo := pool [(3, .methodref 4 5), (0, .class_ 6), (0, .nameAndType 7 8), (0, u "java/lang/Object"), (0, u "<init>"), (0, u "()V"), (0, .fieldref 10 11), (0, .class_ 12), (0, .nameAndType 13 14), (0, u "com/example/envelop/envelop/plan/Zone"), (0, u "size"), (0, u "I"), (0, .fieldref 10 16), (0, .nameAndType 17 18), (0, u "bounds"), (0, u "[J"), (0, .fieldref 10 20), (0, .nameAndType 21 22), (0, u "ZERO"), (0, u "J"), (0, .methodref 10 24), (0, .nameAndType 7 25), (0, u "(I[J)V"), (0, .long 9223372036854775807), (6, .methodref 10 34), (0, .nameAndType 35 36), (0, u "atMost"), (0, u "(J)J"), (0, .methodref 10 38), (0, .nameAndType 39 40), (0, u "constrain"), (0, u "(IIJ)Lcom/example/envelop/envelop/plan/Zone;"), (0, .methodref 10 42), (0, .nameAndType 43 44), (0, u "get"), (0, u "(II)J"), (0, .methodref 10 46), (0, .nameAndType 47 48), (0, u "sum"), (0, u "(JJ)J"), (0, .methodref 50 51), (0, .class_ 52), (0, .nameAndType 53 54), (0, u "java/lang/System"), (0, u "arraycopy"), (0, u "(Ljava/lang/Object;ILjava/lang/Object;II)V"), (7, u "UNBOUNDED"), (3, u "none"), (0, u "()Lcom/example/envelop/envelop/plan/Zone;"), (1, u "clocks"), (0, u "()I"), (1, u "(IJ)Lcom/example/envelop/envelop/plan/Zone;"), (0, u "atLeast"), (0, u "impliesAtLeast"), (0, u "(IJ)Z"), (0, u "reset"), (6, u "within"), (0, u "(Lcom/example/envelop/envelop/plan/Zone;)Z")] 3

def k2c0 : Code := { maxStack := 2, maxLocals := 3, code := prog_71_method_1_code, exceptionTable := #[], attributes := #[] }
def k2m0 : Method := { name := "<init>", desc := "(I[J)V", sig := { parameters := [.int, (.array .long)], returnType := none }, accessFlags := 2, code := some k2c0 }
def k2c1 : Code := { maxStack := 8, maxLocals := 0, code := prog_71_method_2_code, exceptionTable := #[], attributes := #[] }
def k2m1 : Method := { name := "none", desc := "()Lcom/example/envelop/envelop/plan/Zone;", sig := { parameters := [], returnType := some (.object "com/example/envelop/envelop/plan/Zone") }, accessFlags := 8, code := some k2c1 }
def k2c2 : Code := { maxStack := 4, maxLocals := 2, code := prog_71_method_3_code, exceptionTable := #[], attributes := #[] }
def k2m2 : Method := { name := "atMost", desc := "(J)J", sig := { parameters := [.long], returnType := some .long }, accessFlags := 10, code := some k2c2 }
def k2c3 : Code := { maxStack := 6, maxLocals := 4, code := prog_71_method_5_code, exceptionTable := #[], attributes := #[] }
def k2m3 : Method := { name := "sum", desc := "(JJ)J", sig := { parameters := [.long, .long], returnType := some .long }, accessFlags := 10, code := some k2c3 }
def k2c4 : Code := { maxStack := 2, maxLocals := 1, code := prog_71_method_6_code, exceptionTable := #[], attributes := #[] }
def k2m4 : Method := { name := "clocks", desc := "()I", sig := { parameters := [], returnType := some .int }, accessFlags := 0, code := some k2c4 }
def k2c5 : Code := { maxStack := 3, maxLocals := 3, code := prog_71_method_7_code, exceptionTable := #[], attributes := #[] }
def k2m5 : Method := { name := "get", desc := "(II)J", sig := { parameters := [.int, .int], returnType := some .long }, accessFlags := 2, code := some k2c5 }
def k2c6 : Code := { maxStack := 5, maxLocals := 4, code := prog_71_method_9_code, exceptionTable := #[], attributes := #[] }
def k2m6 : Method := { name := "atMost", desc := "(IJ)Lcom/example/envelop/envelop/plan/Zone;", sig := { parameters := [.int, .long], returnType := some (.object "com/example/envelop/envelop/plan/Zone") }, accessFlags := 0, code := some k2c6 }
def k2c7 : Code := { maxStack := 5, maxLocals := 4, code := prog_71_method_10_code, exceptionTable := #[], attributes := #[] }
def k2m7 : Method := { name := "atLeast", desc := "(IJ)Lcom/example/envelop/envelop/plan/Zone;", sig := { parameters := [.int, .long], returnType := some (.object "com/example/envelop/envelop/plan/Zone") }, accessFlags := 0, code := some k2c7 }
def k2c8 : Code := { maxStack := 4, maxLocals := 4, code := prog_71_method_11_code, exceptionTable := #[], attributes := #[] }
def k2m8 : Method := { name := "impliesAtLeast", desc := "(IJ)Z", sig := { parameters := [.int, .long], returnType := some .boolean }, accessFlags := 0, code := some k2c8 }
def k2c9 : Code := { maxStack := 5, maxLocals := 15, code := prog_71_method_12_code, exceptionTable := #[], attributes := #[] }
def k2m9 : Method := { name := "constrain", desc := "(IIJ)Lcom/example/envelop/envelop/plan/Zone;", sig := { parameters := [.int, .int, .long], returnType := some (.object "com/example/envelop/envelop/plan/Zone") }, accessFlags := 2, code := some k2c9 }
def k2c10 : Code := { maxStack := 5, maxLocals := 4, code := prog_71_method_13_code, exceptionTable := #[], attributes := #[] }
def k2m10 : Method := { name := "reset", desc := "()Lcom/example/envelop/envelop/plan/Zone;", sig := { parameters := [], returnType := some (.object "com/example/envelop/envelop/plan/Zone") }, accessFlags := 0, code := some k2c10 }
def k2c11 : Code := { maxStack := 4, maxLocals := 3, code := prog_71_method_17_code, exceptionTable := #[], attributes := #[] }
def k2m11 : Method := { name := "within", desc := "(Lcom/example/envelop/envelop/plan/Zone;)Z", sig := { parameters := [(.object "com/example/envelop/envelop/plan/Zone")], returnType := some .boolean }, accessFlags := 0, code := some k2c11 }
/-- com/example/envelop/envelop/plan/Zone -/
def k2 : Class := { plain "com/example/envelop/envelop/plan/Zone" (some 0) with
  accessFlags := 32
  interfaces := #[]
  cf := some (fileOf pool2 10 #[] #[{ accessFlags := 2, nameIndex := 7, descriptorIndex := 25, attributes := #[] }, { accessFlags := 8, nameIndex := 66, descriptorIndex := 67, attributes := #[] }, { accessFlags := 10, nameIndex := 35, descriptorIndex := 36, attributes := #[] }, { accessFlags := 10, nameIndex := 47, descriptorIndex := 48, attributes := #[] }, { accessFlags := 0, nameIndex := 69, descriptorIndex := 70, attributes := #[] }, { accessFlags := 2, nameIndex := 43, descriptorIndex := 44, attributes := #[] }, { accessFlags := 0, nameIndex := 35, descriptorIndex := 72, attributes := #[] }, { accessFlags := 0, nameIndex := 73, descriptorIndex := 72, attributes := #[] }, { accessFlags := 0, nameIndex := 74, descriptorIndex := 75, attributes := #[] }, { accessFlags := 2, nameIndex := 39, descriptorIndex := 40, attributes := #[] }, { accessFlags := 0, nameIndex := 76, descriptorIndex := 67, attributes := #[] }, { accessFlags := 0, nameIndex := 83, descriptorIndex := 84, attributes := #[] }] 32 4 #[] #[{ accessFlags := 26, nameIndex := 62, descriptorIndex := 22, attributes := #[] }, { accessFlags := 26, nameIndex := 21, descriptorIndex := 22, attributes := #[] }, { accessFlags := 18, nameIndex := 13, descriptorIndex := 14, attributes := #[] }, { accessFlags := 18, nameIndex := 17, descriptorIndex := 18, attributes := #[] }])
  fields := #[{ name := "UNBOUNDED", type := .long, accessFlags := 26, slot := 0, constantValue := 0 }, { name := "ZERO", type := .long, accessFlags := 26, slot := 1, constantValue := 0 }, { name := "size", type := .int, accessFlags := 18, slot := 0, constantValue := 0 }, { name := "bounds", type := (.array .long), accessFlags := 18, slot := 1, constantValue := 0 }]
  methods := #[k2m0, k2m1, k2m2, k2m3, k2m4, k2m5, k2m6, k2m7, k2m8, k2m9, k2m10, k2m11]
  instanceTypes := #[.int, (.array .long)]
  staticTypes := #[.long, .long]
  resolved := Array.replicate 88 none
  statics := some 0 }

def pool3 : Array CpInfo := pool [(2, .class_ 4), (1, u "java/lang/Object"), (0, u "<init>"), (0, u "()V"), (1, .class_ 10), (1, u "java/lang/System"), (0, u "allowSecurityManager"), (0, u "I"), (16, u "cons"), (0, u "Ljava/io/Console;"), (77, .class_ 110), (1, u "java/lang/System$CallersHolder"), (43, u "initialErrStream"), (0, u "Ljava/io/PrintStream;"), (19, u "security"), (0, u "Ljava/lang/SecurityManager;"), (31, .class_ 209), (0, u "java/lang/System$1"), (7, u "props"), (0, u "Ljava/util/Properties;"), (2, u "lineSeparator"), (0, u "Ljava/lang/String;"), (96, .class_ 321), (1, u "java/lang/System$LoggerFinder"), (5, .class_ 328), (0, u "java/lang/System$Logger"), (67, u "err"), (2, u "out"), (91, u "notSupportedJnuEncoding"), (15, u "in"), (17, u "initialIn"), (0, u "Ljava/io/InputStream;"), (35, u "bootLayer"), (0, u "Ljava/lang/ModuleLayer;"), (99, .class_ 664), (0, u "java/lang/System$2"), (9, u "NEVER"), (2, u "MAYBE"), (49, u "arraycopy"), (0, u "(Ljava/lang/Object;ILjava/lang/Object;II)V"), (72, .class_ 802), (0, u "java/lang/System$Logger$Level")] 31

def k3m0 : Method := { name := "<init>", desc := "()V", sig := { parameters := [], returnType := none }, accessFlags := 2, code := none }
def k3m1 : Method := { name := "arraycopy", desc := "(Ljava/lang/Object;ILjava/lang/Object;II)V", sig := { parameters := [(.object "java/lang/Object"), .int, (.object "java/lang/Object"), .int, .int], returnType := none }, accessFlags := 265, code := none }
/-- java/lang/System -/
def k3 : Class := { plain "java/lang/System" (some 0) with
  accessFlags := 49
  interfaces := #[]
  cf := some (fileOf pool3 8 #[.nestMembers #[319, 327, 801, 108, 663, 208]] #[{ accessFlags := 2, nameIndex := 5, descriptorIndex := 6, attributes := #[] }, { accessFlags := 265, nameIndex := 727, descriptorIndex := 728, attributes := #[] }] 49 2 #[] #[{ accessFlags := 25, nameIndex := 507, descriptorIndex := 526, attributes := #[] }, { accessFlags := 25, nameIndex := 399, descriptorIndex := 155, attributes := #[] }, { accessFlags := 25, nameIndex := 396, descriptorIndex := 155, attributes := #[] }, { accessFlags := 10, nameIndex := 525, descriptorIndex := 526, attributes := #[] }, { accessFlags := 26, nameIndex := 674, descriptorIndex := 12, attributes := #[] }, { accessFlags := 26, nameIndex := 677, descriptorIndex := 12, attributes := #[] }, { accessFlags := 10, nameIndex := 11, descriptorIndex := 12, attributes := #[] }, { accessFlags := 74, nameIndex := 175, descriptorIndex := 176, attributes := #[] }, { accessFlags := 10, nameIndex := 491, descriptorIndex := 222, attributes := #[] }, { accessFlags := 74, nameIndex := 29, descriptorIndex := 30, attributes := #[] }, { accessFlags := 74, nameIndex := 154, descriptorIndex := 155, attributes := #[] }, { accessFlags := 10, nameIndex := 217, descriptorIndex := 218, attributes := #[] }, { accessFlags := 10, nameIndex := 221, descriptorIndex := 222, attributes := #[] }, { accessFlags := 8, nameIndex := 562, descriptorIndex := 563, attributes := #[] }])
  fields := #[{ name := "in", type := (.object "java/io/InputStream"), accessFlags := 25, slot := 0, constantValue := 0 }, { name := "out", type := (.object "java/io/PrintStream"), accessFlags := 25, slot := 1, constantValue := 0 }, { name := "err", type := (.object "java/io/PrintStream"), accessFlags := 25, slot := 2, constantValue := 0 }, { name := "initialIn", type := (.object "java/io/InputStream"), accessFlags := 10, slot := 3, constantValue := 0 }, { name := "NEVER", type := .int, accessFlags := 26, slot := 4, constantValue := 0 }, { name := "MAYBE", type := .int, accessFlags := 26, slot := 5, constantValue := 0 }, { name := "allowSecurityManager", type := .int, accessFlags := 10, slot := 6, constantValue := 0 }, { name := "security", type := (.object "java/lang/SecurityManager"), accessFlags := 74, slot := 7, constantValue := 0 }, { name := "notSupportedJnuEncoding", type := (.object "java/lang/String"), accessFlags := 10, slot := 8, constantValue := 0 }, { name := "cons", type := (.object "java/io/Console"), accessFlags := 74, slot := 9, constantValue := 0 }, { name := "initialErrStream", type := (.object "java/io/PrintStream"), accessFlags := 74, slot := 10, constantValue := 0 }, { name := "props", type := (.object "java/util/Properties"), accessFlags := 10, slot := 11, constantValue := 0 }, { name := "lineSeparator", type := (.object "java/lang/String"), accessFlags := 10, slot := 12, constantValue := 0 }, { name := "bootLayer", type := (.object "java/lang/ModuleLayer"), accessFlags := 8, slot := 13, constantValue := 0 }]
  methods := #[k3m0, k3m1]
  instanceTypes := #[]
  staticTypes := #[(.object "java/io/InputStream"), (.object "java/io/PrintStream"), (.object "java/io/PrintStream"), (.object "java/io/InputStream"), .int, .int, .int, (.object "java/lang/SecurityManager"), (.object "java/lang/String"), (.object "java/io/Console"), (.object "java/io/PrintStream"), (.object "java/util/Properties"), (.object "java/lang/String"), (.object "java/lang/ModuleLayer")]
  resolved := Array.replicate 834 none
  statics := none }

def pool4 : Array CpInfo := pool [(1, u "java/lang/Cloneable"), (0, .class_ 1), (0, u "java/lang/Object"), (0, .class_ 3)] 3

/-- java/lang/Cloneable -/
def k4 : Class := { plain "java/lang/Cloneable" (some 0) with
  accessFlags := 1537
  interfaces := #[]
  cf := some (fileOf pool4 2 #[] #[] 1537 4 #[] #[])
  fields := #[]
  methods := #[]
  instanceTypes := #[]
  staticTypes := #[]
  resolved := Array.replicate 8 none
  statics := none }

def pool5 : Array CpInfo := pool [(1, u "java/io/Serializable"), (0, .class_ 1), (0, u "java/lang/Object"), (0, .class_ 3)] 3

/-- java/io/Serializable -/
def k5 : Class := { plain "java/io/Serializable" (some 0) with
  accessFlags := 1537
  interfaces := #[]
  cf := some (fileOf pool5 2 #[] #[] 1537 4 #[] #[])
  fields := #[]
  methods := #[]
  instanceTypes := #[]
  staticTypes := #[]
  resolved := Array.replicate 8 none
  statics := none }

/-- the primitive byte -/
def k6 : Class := { plain "byte" none with kind := .primitive 'B', accessFlags := 0x411 }
/-- [B -/
def k7 : Class := { plain "[B" (some 0) with kind := .array 6 .byte, interfaces := #[4, 5], accessFlags := 1041 }

/-- the primitive int -/
def k8 : Class := { plain "int" none with kind := .primitive 'I', accessFlags := 0x411 }
/-- [I -/
def k9 : Class := { plain "[I" (some 0) with kind := .array 8 .int, interfaces := #[4, 5], accessFlags := 1041 }

/-- the primitive long -/
def k10 : Class := { plain "long" none with kind := .primitive 'J', accessFlags := 0x411 }
/-- [J -/
def k11 : Class := { plain "[J" (some 0) with kind := .array 10 .long, interfaces := #[4, 5], accessFlags := 1041 }

def heap : Heap := #[{ cls := 2, slots := #[.long 0, .long 1], vm := .statics 2 }]
def classes : Array Class := #[k0, k1, k2, k3, k4, k5, k6, k7, k8, k9, k10, k11]
def interned : List (Array UInt16 × Addr) := []
def slotsUsed : Nat := 2
def theMethod : MethodId := ⟨1, 1⟩
def args0 : Array Value := #[.int 1]
def aboutOver (below : List Frame) : State where
  vm := { classes := classes, interned := interned.toArray }
  heap := heap
  slotsUsed := slotsUsed
  threads := #[{ frames := .invoking theMethod args0 :: below }]
def below0 : List Frame := [.native { method := ⟨0, 0⟩, args := #[] }]
def about1 : State := aboutOver below0
def p0 : Program := .bare "" "" ""
def e0 : Env := launch0.env 0 0 0
theorem w_frames : about1.frames = Frame.invoking theMethod args0 :: below0 := rfl
set_option maxRecDepth 65536 in
theorem w_args : argsFit about1.vm theMethod args0 = true := by decide +kernel
set_option maxRecDepth 65536 in
theorem w_heap : heapFits about1 = true := by decide +kernel
set_option maxRecDepth 65536 in
theorem w_runnable : about1.curStatus? = some .runnable := by decide +kernel
set_option maxRecDepth 65536 in
theorem w_alone : about1.alone = true := by decide +kernel
set_option maxRecDepth 65536 in
theorem w_named : about1.methodNamed? x = some theMethod := by decide +kernel
set_option maxRecDepth 65536 in
theorem w_hears : about1.hears theMethod below0 = true := by decide +kernel
set_option maxRecDepth 65536 in
theorem w_ripe : about1.ripe theMethod args0 below0 = true := by decide +kernel
theorem w_running : about1.status = .running := rfl
set_option maxRecDepth 65536 in
theorem w_room : about1.hasRoom e0.platform room_1 = true :=
  launch0.hasRoom_least _ room_1 (by decide +kernel) (by decide +kernel) (by decide +kernel) (by decide +kernel) (by decide +kernel) (by decide +kernel)
theorem allAtoms_all (ts : List Jvm.Cond) (a : Array Jvm.Value) (st : Jvm.State) : (allAtoms ts).before a st = ts.all (fun c => c.before a st) := by
  induction ts with
  | nil => rfl
  | cons c t ih =>
    show (Jvm.Cond.and c (allAtoms t)).before a st = _
    rw [Jvm.Cond.before_and, ih, List.all_cons]
def words1 : List Jvm.Cond := Jvm.Cond.code x code maxLocals ret :: tables_1
/-- a 'code' word, met by the world's own term for the bytes: nothing is compared byte by byte -/
theorem code_word {y : MethodName} {bytes : ByteArray} {mx : Nat} {rt : Option FieldType} {a : Array Value} {s : State} {m : MethodId} {meth : Method} {c : Code} (h1 : s.methodNamed? y = some m) (h2 : s.vm.method? m = some meth) (h3 : meth.code = some c) (h4 : c.code = bytes)
    (h5 : (c.maxLocals == mx && c.exceptionTable.isEmpty && decide (c.maxStack ≤ mostOperands) && decide (meth.sig.returnType = rt) && !meth.locks && decide (parseMethodDescriptor y.desc = some meth.sig)) = true) : (Jvm.Cond.code y bytes mx rt).before a s = true := by
  simp only [Bool.and_eq_true, beq_iff_eq, Bool.not_eq_true', decide_eq_true_eq] at h5
  obtain ⟨⟨⟨⟨⟨g1, g2⟩, g3⟩, g4⟩, g5⟩, g6⟩ := h5
  simp [Cond.before, Cond.holds, Cond.value, h1, h2, h3, h4, g1, g2, g3, g4, g5, g6]
def isCode : Jvm.Cond → Bool
  | .code _ _ _ _ => true
  | _ => false
theorem all_split {L : List Jvm.Cond} {P : Jvm.Cond → Bool} (h1 : L.all (fun c => isCode c || P c) = true) (h2 : ∀ c ∈ L.filter isCode, P c = true) : L.all P = true := by
  refine List.all_eq_true.mpr fun c hc => ?_
  have h := List.all_eq_true.mp h1 c hc
  rcases Bool.eq_false_or_eq_true (isCode c) with hi | hi
  · exact h2 c (List.mem_filter.mpr ⟨hc, hi⟩)
  · simpa [hi] using h
set_option maxRecDepth 65536 in
theorem w_c0 : (Jvm.Cond.code x code maxLocals ret).before args0 about1 = true := code_word (m := ⟨1, 1⟩) (meth := k1m1) (c := k1c1) (by decide +kernel) rfl rfl rfl (by decide +kernel)
set_option maxRecDepth 65536 in
theorem w_c1 : (Jvm.Cond.code ({ cls := "com/example/envelop/envelop/plan/Zone", name := "none", desc := "()Lcom/example/envelop/envelop/plan/Zone;" } : Jvm.MethodName) prog_71_method_2_code (0 : Nat) (Option.some (Jvm.ClassFile.FieldType.object "com/example/envelop/envelop/plan/Zone"))).before args0 about1 = true := code_word (m := ⟨2, 1⟩) (meth := k2m1) (c := k2c1) (by decide +kernel) rfl rfl rfl (by decide +kernel)
set_option maxRecDepth 65536 in
theorem w_c2 : (Jvm.Cond.code ({ cls := "com/example/envelop/envelop/plan/Zone", name := "<init>", desc := "(I[J)V" } : Jvm.MethodName) prog_71_method_1_code (3 : Nat) (Option.none : Option Jvm.ClassFile.FieldType)).before args0 about1 = true := code_word (m := ⟨2, 0⟩) (meth := k2m0) (c := k2c0) (by decide +kernel) rfl rfl rfl (by decide +kernel)
set_option maxRecDepth 65536 in
theorem w_c3 : (Jvm.Cond.code ({ cls := "java/lang/Object", name := "<init>", desc := "()V" } : Jvm.MethodName) object_method_1_code (1 : Nat) (Option.none : Option Jvm.ClassFile.FieldType)).before args0 about1 = true := code_word (m := ⟨0, 0⟩) (meth := k0m0) (c := k0c0) (by decide +kernel) rfl rfl rfl (by decide +kernel)
set_option maxRecDepth 65536 in
theorem w_c4 : (Jvm.Cond.code ({ cls := "com/example/envelop/envelop/plan/Zone", name := "clocks", desc := "()I" } : Jvm.MethodName) prog_71_method_6_code (1 : Nat) (Option.some Jvm.ClassFile.FieldType.int)).before args0 about1 = true := code_word (m := ⟨2, 4⟩) (meth := k2m4) (c := k2c4) (by decide +kernel) rfl rfl rfl (by decide +kernel)
set_option maxRecDepth 65536 in
theorem w_c5 : (Jvm.Cond.code ({ cls := "com/example/envelop/envelop/plan/Zone", name := "within", desc := "(Lcom/example/envelop/envelop/plan/Zone;)Z" } : Jvm.MethodName) prog_71_method_17_code (3 : Nat) (Option.some Jvm.ClassFile.FieldType.boolean)).before args0 about1 = true := code_word (m := ⟨2, 11⟩) (meth := k2m11) (c := k2c11) (by decide +kernel) rfl rfl rfl (by decide +kernel)
set_option maxRecDepth 65536 in
theorem w_c6 : (Jvm.Cond.code ({ cls := "com/example/envelop/envelop/plan/Zone", name := "reset", desc := "()Lcom/example/envelop/envelop/plan/Zone;" } : Jvm.MethodName) prog_71_method_13_code (4 : Nat) (Option.some (Jvm.ClassFile.FieldType.object "com/example/envelop/envelop/plan/Zone"))).before args0 about1 = true := code_word (m := ⟨2, 10⟩) (meth := k2m10) (c := k2c10) (by decide +kernel) rfl rfl rfl (by decide +kernel)
set_option maxRecDepth 65536 in
theorem w_c7 : (Jvm.Cond.code ({ cls := "com/example/envelop/envelop/plan/Zone", name := "get", desc := "(II)J" } : Jvm.MethodName) prog_71_method_7_code (3 : Nat) (Option.some Jvm.ClassFile.FieldType.long)).before args0 about1 = true := code_word (m := ⟨2, 5⟩) (meth := k2m5) (c := k2c5) (by decide +kernel) rfl rfl rfl (by decide +kernel)
set_option maxRecDepth 65536 in
theorem w_c8 : (Jvm.Cond.code ({ cls := "com/example/envelop/envelop/plan/Zone", name := "impliesAtLeast", desc := "(IJ)Z" } : Jvm.MethodName) prog_71_method_11_code (4 : Nat) (Option.some Jvm.ClassFile.FieldType.boolean)).before args0 about1 = true := code_word (m := ⟨2, 8⟩) (meth := k2m8) (c := k2c8) (by decide +kernel) rfl rfl rfl (by decide +kernel)
set_option maxRecDepth 65536 in
theorem w_c9 : (Jvm.Cond.code ({ cls := "com/example/envelop/envelop/plan/Zone", name := "atMost", desc := "(J)J" } : Jvm.MethodName) prog_71_method_3_code (2 : Nat) (Option.some Jvm.ClassFile.FieldType.long)).before args0 about1 = true := code_word (m := ⟨2, 2⟩) (meth := k2m2) (c := k2c2) (by decide +kernel) rfl rfl rfl (by decide +kernel)
set_option maxRecDepth 65536 in
theorem w_c10 : (Jvm.Cond.code ({ cls := "com/example/envelop/envelop/plan/Zone", name := "atMost", desc := "(IJ)Lcom/example/envelop/envelop/plan/Zone;" } : Jvm.MethodName) prog_71_method_9_code (4 : Nat) (Option.some (Jvm.ClassFile.FieldType.object "com/example/envelop/envelop/plan/Zone"))).before args0 about1 = true := code_word (m := ⟨2, 6⟩) (meth := k2m6) (c := k2c6) (by decide +kernel) rfl rfl rfl (by decide +kernel)
set_option maxRecDepth 65536 in
theorem w_c11 : (Jvm.Cond.code ({ cls := "com/example/envelop/envelop/plan/Zone", name := "constrain", desc := "(IIJ)Lcom/example/envelop/envelop/plan/Zone;" } : Jvm.MethodName) prog_71_method_12_code (15 : Nat) (Option.some (Jvm.ClassFile.FieldType.object "com/example/envelop/envelop/plan/Zone"))).before args0 about1 = true := code_word (m := ⟨2, 9⟩) (meth := k2m9) (c := k2c9) (by decide +kernel) rfl rfl rfl (by decide +kernel)
set_option maxRecDepth 65536 in
theorem w_c12 : (Jvm.Cond.code ({ cls := "com/example/envelop/envelop/plan/Zone", name := "sum", desc := "(JJ)J" } : Jvm.MethodName) prog_71_method_5_code (4 : Nat) (Option.some Jvm.ClassFile.FieldType.long)).before args0 about1 = true := code_word (m := ⟨2, 3⟩) (meth := k2m3) (c := k2c3) (by decide +kernel) rfl rfl rfl (by decide +kernel)
set_option maxRecDepth 65536 in
theorem w_c13 : (Jvm.Cond.code ({ cls := "com/example/envelop/envelop/plan/Zone", name := "atLeast", desc := "(IJ)Lcom/example/envelop/envelop/plan/Zone;" } : Jvm.MethodName) prog_71_method_10_code (4 : Nat) (Option.some (Jvm.ClassFile.FieldType.object "com/example/envelop/envelop/plan/Zone"))).before args0 about1 = true := code_word (m := ⟨2, 7⟩) (meth := k2m7) (c := k2c7) (by decide +kernel) rfl rfl rfl (by decide +kernel)
def codes1 : List Jvm.Cond := [Jvm.Cond.code x code maxLocals ret, Jvm.Cond.code ({ cls := "com/example/envelop/envelop/plan/Zone", name := "none", desc := "()Lcom/example/envelop/envelop/plan/Zone;" } : Jvm.MethodName) prog_71_method_2_code (0 : Nat) (Option.some (Jvm.ClassFile.FieldType.object "com/example/envelop/envelop/plan/Zone")), Jvm.Cond.code ({ cls := "com/example/envelop/envelop/plan/Zone", name := "<init>", desc := "(I[J)V" } : Jvm.MethodName) prog_71_method_1_code (3 : Nat) (Option.none : Option Jvm.ClassFile.FieldType), Jvm.Cond.code ({ cls := "java/lang/Object", name := "<init>", desc := "()V" } : Jvm.MethodName) object_method_1_code (1 : Nat) (Option.none : Option Jvm.ClassFile.FieldType), Jvm.Cond.code ({ cls := "com/example/envelop/envelop/plan/Zone", name := "clocks", desc := "()I" } : Jvm.MethodName) prog_71_method_6_code (1 : Nat) (Option.some Jvm.ClassFile.FieldType.int), Jvm.Cond.code ({ cls := "com/example/envelop/envelop/plan/Zone", name := "within", desc := "(Lcom/example/envelop/envelop/plan/Zone;)Z" } : Jvm.MethodName) prog_71_method_17_code (3 : Nat) (Option.some Jvm.ClassFile.FieldType.boolean), Jvm.Cond.code ({ cls := "com/example/envelop/envelop/plan/Zone", name := "reset", desc := "()Lcom/example/envelop/envelop/plan/Zone;" } : Jvm.MethodName) prog_71_method_13_code (4 : Nat) (Option.some (Jvm.ClassFile.FieldType.object "com/example/envelop/envelop/plan/Zone")), Jvm.Cond.code ({ cls := "com/example/envelop/envelop/plan/Zone", name := "get", desc := "(II)J" } : Jvm.MethodName) prog_71_method_7_code (3 : Nat) (Option.some Jvm.ClassFile.FieldType.long), Jvm.Cond.code ({ cls := "com/example/envelop/envelop/plan/Zone", name := "impliesAtLeast", desc := "(IJ)Z" } : Jvm.MethodName) prog_71_method_11_code (4 : Nat) (Option.some Jvm.ClassFile.FieldType.boolean), Jvm.Cond.code ({ cls := "com/example/envelop/envelop/plan/Zone", name := "atMost", desc := "(J)J" } : Jvm.MethodName) prog_71_method_3_code (2 : Nat) (Option.some Jvm.ClassFile.FieldType.long), Jvm.Cond.code ({ cls := "com/example/envelop/envelop/plan/Zone", name := "atMost", desc := "(IJ)Lcom/example/envelop/envelop/plan/Zone;" } : Jvm.MethodName) prog_71_method_9_code (4 : Nat) (Option.some (Jvm.ClassFile.FieldType.object "com/example/envelop/envelop/plan/Zone")), Jvm.Cond.code ({ cls := "com/example/envelop/envelop/plan/Zone", name := "constrain", desc := "(IIJ)Lcom/example/envelop/envelop/plan/Zone;" } : Jvm.MethodName) prog_71_method_12_code (15 : Nat) (Option.some (Jvm.ClassFile.FieldType.object "com/example/envelop/envelop/plan/Zone")), Jvm.Cond.code ({ cls := "com/example/envelop/envelop/plan/Zone", name := "sum", desc := "(JJ)J" } : Jvm.MethodName) prog_71_method_5_code (4 : Nat) (Option.some Jvm.ClassFile.FieldType.long), Jvm.Cond.code ({ cls := "com/example/envelop/envelop/plan/Zone", name := "atLeast", desc := "(IJ)Lcom/example/envelop/envelop/plan/Zone;" } : Jvm.MethodName) prog_71_method_10_code (4 : Nat) (Option.some (Jvm.ClassFile.FieldType.object "com/example/envelop/envelop/plan/Zone"))]
set_option maxRecDepth 65536 in
theorem codes_eq : words1.filter isCode = codes1 := rfl
theorem w_codes : ∀ c ∈ words1.filter isCode, c.before args0 about1 = true := by
  rw [codes_eq]
  intro c hc
  simp only [codes1, List.mem_cons, List.not_mem_nil, or_false] at hc
  rcases hc with rfl | rfl | rfl | rfl | rfl | rfl | rfl | rfl | rfl | rfl | rfl | rfl | rfl | rfl
  · exact w_c0
  · exact w_c1
  · exact w_c2
  · exact w_c3
  · exact w_c4
  · exact w_c5
  · exact w_c6
  · exact w_c7
  · exact w_c8
  · exact w_c9
  · exact w_c10
  · exact w_c11
  · exact w_c12
  · exact w_c13
set_option maxRecDepth 65536 in
theorem w_t1 : (words1.take 24).all (fun c => isCode c || c.before args0 about1) = true := by decide +kernel
set_option maxRecDepth 65536 in
theorem w_t2 : ((words1.drop 24).take 24).all (fun c => isCode c || c.before args0 about1) = true := by decide +kernel
set_option maxRecDepth 65536 in
theorem w_t3 : ((words1.drop 24).drop 24).all (fun c => isCode c || c.before args0 about1) = true := by decide +kernel
theorem w_tables : (allAtoms (Jvm.Cond.code x code maxLocals ret :: tables_1)).before args0 about1 = true := by
  rw [allAtoms_all]
  show words1.all (fun c => c.before args0 about1) = true
  refine all_split ?_ w_codes
  rw [← List.take_append_drop 24 words1, List.all_append, w_t1, ← List.take_append_drop 24 (words1.drop 24), List.all_append, w_t2, w_t3]
  rfl
set_option maxRecDepth 65536 in
theorem w_case : (Jvm.Cond.and given_1 narrow_1).before args0 about1 = true := by decide +kernel
theorem w_applies : (headSpec (Jvm.Cond.code x code maxLocals ret :: tables_1) room_1).applies x e0.platform about1 = true :=
  (Spec.applies_iff w_frames).mpr ⟨w_running, w_runnable, w_alone, w_named, w_hears, w_ripe, w_room, w_tables⟩
theorem atStart : AtStart classFile x code maxLocals ret World_1 tables_1 room_1 Calls_1 rest_1 Pre_1 launch0 p0 e0 about1 theMethod args0 below0 :=
  ⟨lists_1, trivial, launch0.admits_env _ _ _, launch0.least_env, fairChoices_fair.cas, fairChoices_fair.clock, w_frames, w_args, w_heap, w_applies, trivial, trivial, w_case⟩
end start1
theorem witness_1 : WitnessClaimed_1 := ⟨start1.p0, start1.e0, start1.about1, start1.theMethod, start1.args0, start1.below0, start1.atStart⟩
end Jvm.Pilot.@@N@@
