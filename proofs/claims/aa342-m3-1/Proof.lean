import JvmDerived
import JvmDerived.Pilot.@@N@@Statement
import JvmDerived.Pilot.@@N@@Code
set_option linter.unusedVariables false
set_option linter.unusedSimpArgs false
namespace Jvm.RoadKit
open Sem ClassFile Op Lib Jvm.Stand Jvm.Free Jvm.LawKit
section New
variable {p : Program} {l : Launch} {e : Env} {R : Room} {s : State} {m : MethodId} {args : Array Value} {below : List Frame} {meth : Method} {c : Code} {T : State} {locs : List Loc} {cells slots : Nat}
theorem retI (X : Stand p l e R s m args below meth c T locs cells slots) (hx : p.tables.exec = Jvm.exec) {pc : Nat} {Ls : Array Slot} {z : Int32} {rest : List Value} (hret : meth.sig.returnType = some .int) (hd : decode c.code pc = .ok (.ireturn, 1)) {fs : List Frame}
    (hl : ∀ (f : JFrame) (acts : List Action), f.method = m → f.locked = none → f.entered = [] → (doReturn e (T.setTop f) acts (some (.int z))).1 = T.setFrames fs) : Steps p.tables e below (T.setTop (mkF m pc Ls (.int z :: rest))) (T.setFrames fs) := by
  have hm' : T.vm.method? m = some meth := X.method'
  have hn : narrow .int (.int z) = .int z := rfl
  show Steps p.tables e below (T.setTop { method := m, pc := pc, locals := Ls, stack := _ :: rest, locked := none }) _
  jvm_step X.here [X.here.top, hx, hd, hm', hret, hn]
  first | (intro acts; rw [hl _ acts rfl rfl rfl]) | rw [hl _ _ rfl rfl rfl]
  exact Steps.refl _
theorem own_retA (X : Stand p l e R s m args below meth c T locs cells slots) (hx : p.tables.exec = Jvm.exec) {pc : Nat} {Ls : Array Slot} {z : Value} {ty : FieldType} {rest : List Value} (hret : meth.sig.returnType = some ty) (hty : ty.isReference = true) (hz : z.isRef = true) (hd : decode c.code pc = .ok (.areturn, 1)) {fs : List Frame}
    (hl : ∀ (f : JFrame) (acts : List Action), f.method = m → f.locked = none → f.entered = [] → (doReturn e (T.setTop f) acts (some z)).1 = T.setFrames fs) : Steps p.tables e below (T.setTop (mkF m pc Ls (z :: rest))) (T.setFrames fs) := by
  have hm' : T.vm.method? m = some meth := X.method'
  show Steps p.tables e below (T.setTop { method := m, pc := pc, locals := Ls, stack := _ :: rest, locked := none }) _
  jvm_step X.here [X.here.top, hx, hd, hm', hret, hz, hty]
  first | (intro acts; rw [hl _ acts rfl rfl rfl]) | rw [hl _ _ rfl rfl rfl]
  exact Steps.refl _
theorem own_lremM {g : JFrame} {target : State} (X : Stand p l e R s m args below meth c T locs cells slots) (hx : p.tables.exec = Jvm.exec) (hg : g.method = m) {x y : Int64} {rest : List Value} (hd : decode c.code g.pc = .ok (.lrem, 1)) (hs : g.stack = .long y :: .long x :: rest) (hy : y ≠ 0)
    (hr : Steps p.tables e below (T.setTop { g with pc := g.pc + 1, stack := .long (x % y) :: rest }) target) : Steps p.tables e below (T.setTop g) target :=
  XS.lrem X.here hx hg hd hs hy (by rw [lrem_mod]; exact hr)
end New
end Jvm.RoadKit
namespace Jvm.Pilot.@@N@@
open Jvm Jvm.ClassFile Sem Op Lib Jvm.Free Jvm.Stand Jvm.LawKit Jvm.RoadKit Bundle Jvm.Pilot.@@N@@.Jvm.D
theorem own_selP {Z s : State} {args a0 : Array Value} {y : MethodName} {n : Nat} (hZ : Z.Warmed39 s.vm) (wi : (Jvm.Cond.instantiable y.cls n).before a0 Z = true) (wp : (Jvm.Cond.privateMethod y).before a0 Z = true) (wm : (Jvm.Cond.instanceMethod y).before a0 Z = true) (hy : y.cls ≠ "java/lang/invoke/MethodHandle" ∧ y.cls ≠ "java/lang/invoke/VarHandle") : (Jvm.Cond.selects y.cls y y).before args s = true := by
  obtain ⟨c, k, h1, h2, -, h3, -⟩ := Cond.instantiable_spec (mv (args := args) hZ wi)
  exact Jvm.Stand.selects_self_of_private h1 h2 (by simp only [Bool.or_eq_false_iff] at h3; exact h3.1) (Cond.privateMethod_at (mvP hZ wp (args := args))) (mv hZ wm) hy
theorem own_fitC {Z : State} {h : Heap} {a : Addr} {cl : Cell} {ty : FieldType} {vs : List Value} {dv : Value} (A : Arr Z h a cl ty) (H : Has cl vs dv) (G : ∀ i, i < cl.slots.size → fits ty (vs.getD i dv) = true) : FitC Z cl := fun i v hv => by
  obtain ⟨hi, -⟩ := Array.getElem?_eq_some_iff.mp hv
  obtain ⟨hs, k, hk, comp, hkind⟩ := A.2.1
  have e : Z.slotType? cl.cls .none i = some ty := by simp [State.slotType?, hk, hkind]
  have q := G i hi
  have hv' : v = vs.getD i dv := Option.some.inj (hv.symm.trans (H i hi))
  rw [State.fitsSlot, e, hv']
  exact q
theorem own_ibW {Z s : State} {vm₁ : Vm} {Ts : List String} (I : IB Z s.vm Ts) (h : s.WarmedH vm₁) : IB Z vm₁ Ts := by
  obtain ⟨more, q1, q2⟩ := I
  exact ⟨more, by rw [h.interned_eq]; exact q1, q2⟩
theorem own_litS {Z s : State} {vm₁ : Vm} {own : String} {i : Nat} {a : Addr} (L : Lit s own i a) (h : s.Warmed39 vm₁) : Lit (Z.setVm vm₁) own i a := State.resolvedAt?_warmed39 (s := s) h L
theorem own_litW {Z s : State} {vm₁ : Vm} {own : String} {i : Nat} {a : Addr} (L : Lit s own i a) (h : s.WarmedH vm₁) : Lit (Z.setVm vm₁) own i a := own_litS L h.wide
theorem own_backOfV {p : Program} {l : Launch} {e : Env} {R : Room} {s : State} {args : Array Value} {below : List Frame} {Z : State} {a0 : Array Value} {h : Heap} {y : MethodName} {bytes : ByteArray} {maxL : Nat} {ret : Option FieldType} {rm : Room} {len W : Nat} {as' : Array Value} {VP : Vm → Prop} {Q : Option Value → Heap → Vm → List Loc → Prop}
    (hM : MetFree l y (head1 [Jvm.Cond.code y bytes maxL ret] rm) (fun a U => a = as' ∧ Z.Warmed39 U.vm ∧ U.heap = h ∧ VP U.vm) (fun _ _ _ _ _ => True) (fun _ U o U' => ∃ v L, o = .returned v ∧ Q v U'.heap U'.vm L ∧ ReturnedEndW U o U' L rm.cells rm.slots))
    (hZ : Z.Warmed39 s.vm) (wc : (Jvm.Cond.code y bytes maxL ret).before a0 Z = true) (wz : (Jvm.Cond.initialized y.cls).before a0 Z = true) (hf : rm.frames + 1 ≤ R.frames) (hl : W + (maxL + 11) + rm.locals ≤ R.locals) :
    BackS l R p e below s args y len W (fun A a => a = as' ∧ A.U.heap = h ∧ VP A.U.vm ∧ A.cells + rm.cells ≤ R.cells ∧ A.slots + rm.slots ≤ R.slots)
      (fun A _ v B => ∃ L, Q v B.U.heap B.U.vm L ∧ B.locs = A.locs ++ L ∧ B.cells = A.cells + rm.cells ∧ B.slots = A.slots + rm.slots) := by
  refine BackS.of_freeW (bytes := bytes) (maxL := maxL) (ret := ret) (E := fun _ _ o t L k n => k = rm.cells ∧ n = rm.slots ∧ ∃ v, o = .returned v ∧ Q v t.heap t.vm L) hM hf hl ?_ ?_ (fun _ _ _ _ _ _ _ _ _ => trivial) ?_ ?_
  · intro m meth c A a Y hp
    have hU : Z.Warmed39 A.U.vm := wtrans hZ Y.warmed
    refine ⟨?_, mv hU wc, mv hU wz, hp.2.2.2.1, hp.2.2.2.2⟩
    show (Jvm.Cond.and _ .tt).before a A.U = true
    rw [Cond.before_and, mv hU wc]
    rfl
  · intro m meth c A a g mk Y hp
    exact ⟨hp.1, wtrans hZ Y.warmed, hp.2.1, hp.2.2.1⟩
  · rintro _ _ _ _ ⟨v, L, h1, h2, h3⟩
    exact ⟨L, _, _, h3, rfl, rfl, v, h1, h2⟩
  · rintro m meth c A a g mk v t L k n Y hp _ _ ⟨e1, e2, v', e3, e4⟩
    cases e3
    subst e1 e2
    exact ⟨L, e4, rfl, rfl, rfl⟩
theorem own_n0 {Z : State} {n0 : Nat} {h : Heap} (X : Old Z n0 h) : n0 ≤ h.size := X.1 ▸ X.2.1
/-- the run comes from U to an end of which P says enough -/
def Go (p : Program) (e : Env) (below : List Frame) (P : Outcome → State → Prop) (U : State) : Prop := ∃ s₂ o, Steps p.tables e below U s₂ ∧ s₂.status = .running ∧ Ended s₂ below o ∧ P o s₂
theorem Go.st {p : Program} {e : Env} {below : List Frame} {P : Outcome → State → Prop} {U V : State} (k : ∀ t, Steps p.tables e below V t → Steps p.tables e below U t) (g : Go p e below P V) : Go p e below P U := by
  obtain ⟨a, b, h, r⟩ := g
  exact ⟨a, b, k _ h, r⟩
theorem Go.tr {p : Program} {e : Env} {below : List Frame} {P : Outcome → State → Prop} {U V : State} (k : Steps p.tables e below U V) (g : Go p e below P V) : Go p e below P U := by
  obtain ⟨a, b, h, r⟩ := g
  exact ⟨a, b, k.trans h, r⟩
theorem Go.start {p : Program} {e : Env} {below : List Frame} {P : Outcome → State → Prop} {U V : State} (k : ∀ {t}, Steps p.tables e below V t → Steps p.tables e below U t) (g : Go p e below P V) : ∃ s₂ o, Steps p.tables e below U s₂ ∧ s₂.status = .running ∧ Ended s₂ below o ∧ P o s₂ := by
  obtain ⟨a, b, h, r⟩ := g
  exact ⟨a, b, k h, r⟩
theorem own_valI {args : Array Value} {s : State} {t : Term} {k : Int32} (h : (Cond.eq t (.int k)).value args s none s [] = some true) : t.eval args s none [] s = some (.int k) := by
  obtain ⟨x, y, h1, h2, h3, -⟩ := cmp_v (Or.inl h)
  have e2 : y = .int k := (Option.some.inj h2).symm
  subst e2
  cases x <;> simp [Kin, Value.isRef] at h3
  simp only [Cond.value, h1, h2] at h
  simp at h
  rw [h1, h]
theorem own_valJ {args : Array Value} {s : State} {t : Term} {k : Int64} (h : (Cond.eq t (.long k)).value args s none s [] = some true) : t.eval args s none [] s = some (.long k) := by
  obtain ⟨x, y, h1, h2, h3, -⟩ := cmp_v (Or.inl h)
  have e2 : y = .long k := (Option.some.inj h2).symm
  subst e2
  cases x <;> simp [Kin, Value.isRef] at h3
  simp only [Cond.value, h1, h2] at h
  simp at h
  rw [h1, h]
theorem own_eqR {args : Array Value} {s : State} {t u : Term} {a : Addr} (ev : t.eval args s none [] s = some (.ref a)) (h : (Cond.eq t u).value args s none s [] = some true) : u.eval args s none [] s = some (.ref a) := by
  obtain ⟨x, y, h1, h2, h3, -⟩ := cmp_v (Or.inl h)
  cases h1.symm.trans ev
  have hy : y.isRef = true := h3.2
  have q := gotT (eq_R h1 h2 rfl hy) h
  rw [h2, ← q]
theorem own_eqL {args : Array Value} {s : State} {t u : Term} {a : Addr} (ev : u.eval args s none [] s = some (.ref a)) (h : (Cond.eq t u).value args s none s [] = some true) : t.eval args s none [] s = some (.ref a) := by
  obtain ⟨x, y, h1, h2, -, h4⟩ := cmp_v (Or.inl h)
  cases h2.symm.trans ev
  have hx : x.isRef = true := h4.2
  have q := gotT (eq_R h1 h2 hx rfl) h
  rw [h1, q]
theorem own_elI {Z : State} {args : Array Value} {t : Term} {a : Addr} {cl : Cell} {ty : FieldType} {i k : Int32} (A : Arr Z Z.heap a cl ty) (ev : t.eval args Z none [] Z = some (.ref a)) (h : (Cond.eq (.elem t (.int i)) (.int k)).value args Z none Z [] = some true) : cl.slots[i.toNatClampNeg]? = some (.int k) := (elem_in (own_valI h) ev rfl A.1).2
theorem own_elJ {Z : State} {args : Array Value} {t : Term} {a : Addr} {cl : Cell} {ty : FieldType} {i : Int32} {k : Int64} (A : Arr Z Z.heap a cl ty) (ev : t.eval args Z none [] Z = some (.ref a)) (h : (Cond.eq (.elem t (.int i)) (.long k)).value args Z none Z [] = some true) : cl.slots[i.toNatClampNeg]? = some (.long k) := (elem_in (own_valJ h) ev rfl A.1).2
theorem own_elR {Z : State} {args : Array Value} {t u : Term} {a b : Addr} {cl : Cell} {ty : FieldType} {i : Int32} (A : Arr Z Z.heap a cl ty) (ev : t.eval args Z none [] Z = some (.ref a)) (eu : u.eval args Z none [] Z = some (.ref b)) (h : (Cond.eq (.elem t (.int i)) u).value args Z none Z [] = some true) : cl.slots[i.toNatClampNeg]? = some (.ref b) := (elem_in (own_eqL eu h) ev rfl A.1).2
theorem own_arv {Z : State} {args : Array Value} {t : Term} {a : Addr} {cl : Cell} {ty : FieldType} {z : Int32} {vs : List Value} {dv : Value} (hf : Fit Z) (A : Arr Z Z.heap a cl ty) (ev : t.eval args Z none [] Z = some (.ref a)) (h : (Cond.eq (.length t) (.int z)).value args Z none Z [] = some true) (hz : ¬ z < 0) (hl : z.toNatClampNeg = vs.length) (H : HasL cl 0 vs) : Arv Z Z.heap a cl.cls ty z vs dv := by
  have hv := own_valI h
  have hA : Z.arrayAt? a = some cl := A.fin (Vm.Alike.refl _)
  have q : cl.slots.size < 2 ^ 31 := by
    simp only [Term.eval, ev, hA] at hv
    by_cases hq : cl.slots.size < 2 ^ 31
    · exact hq
    · simp [hA, hq] at hv
  have e : cl.slots.size.toInt32 = z := by
    have := len_f (args := args) (first := Z) (o := none) (idx := []) ev hA q
    rw [this] at hv
    exact Value.int.inj (Option.some.inj hv)
  exact Arv.start hf A q e hz hl H
theorem own_neI {args : Array Value} {s : State} {t : Term} {x k : Int32} (ev : t.eval args s none [] s = some (.int x)) (h : (Cond.not (Cond.eq t (.int k))).value args s none s [] = some true) : ¬ (x = k) := by
  have h' := not_v h
  intro e
  subst e
  simp [Cond.value, ev, Term.eval] at h'
theorem own_b32 (x : Int32) : -2147483648 ≤ x.toInt ∧ x.toInt < 2147483648 := ⟨Int32.le_toInt x, Int32.toInt_lt x⟩
theorem own_b64 (x : Int64) : -9223372036854775808 ≤ x.toInt ∧ x.toInt < 9223372036854775808 := ⟨Int64.le_toInt x, Int64.toInt_lt x⟩
theorem own_nlt32 {x y : Int32} (h : ¬ x < y) : ¬ x.toInt < y.toInt := fun q => h (Int32.lt_iff_toInt_lt.mpr q)
theorem own_nlt64 {x y : Int64} (h : ¬ x < y) : ¬ x.toInt < y.toInt := fun q => h (Int64.lt_iff_toInt_lt.mpr q)
theorem own_neq32 {x y : Int32} (h : ¬ x = y) : ¬ x.toInt = y.toInt := fun q => h (Int32.toInt_inj.mp q)
theorem own_neq64 {x y : Int64} (h : ¬ x = y) : ¬ x.toInt = y.toInt := fun q => h (Int64.toInt_inj.mp q)
theorem own_mask32 (x m : Int32) (k : Nat) (P : Int) (hk : k ≤ 31) (hm : m.toBitVec.toNat = 2 ^ k - 1) (hP : P = (2 ^ k : Nat)) : (x &&& m).toInt = x.toInt % P := by rw [hP]; exact c_mask x m k hk hm
theorem own_mask64 (x m : Int64) (k : Nat) (P : Int) (hk : k ≤ 63) (hm : m.toBitVec.toNat = 2 ^ k - 1) (hP : P = (2 ^ k : Nat)) : (x &&& m).toInt = x.toInt % P := by rw [hP]; exact c_maskL x m k hk hm
theorem own_rem32 (x y : Int32) (d : Int) (hy : y.toInt = d) : (0 ≤ x.toInt → (x % y).toInt = x.toInt % d) ∧ (x.toInt < 0 → (x % y).toInt = -((-x.toInt) % d)) := c_irem x y d hy
theorem own_rem64 (x y : Int64) (d : Int) (hy : y.toInt = d) : (0 ≤ x.toInt → (x % y).toInt = x.toInt % d) ∧ (x.toInt < 0 → (x % y).toInt = -((-x.toInt) % d)) := by rw [Int64.toInt_mod, hy]; exact tr _ _
theorem own_iushr0 (x q : Int32) (hk : q.toBitVec.toNat % 32 = 0) : ((x.toUInt32 >>> (q &&& 31).toUInt32).toInt32).toInt = x.toInt := by
  have e : q &&& 31 = 0 := by
    apply Int32.toBitVec_inj.mp
    apply BitVec.eq_of_toNat_eq
    rw [Int32.toBitVec_and, BitVec.toNat_and]
    show q.toBitVec.toNat &&& 31 = 0
    rw [show (31 : Nat) = 2 ^ 5 - 1 from rfl, Nat.and_two_pow_sub_one_eq_mod]
    exact hk
  rw [e, show (0 : Int32).toUInt32 = 0 from by decide]
  simp
theorem own_lushr0 (x : Int64) (q : Int32) (hk : q.toBitVec.toNat % 64 = 0) : ((x.toUInt64 >>> (q &&& 0x3f).toInt64.toUInt64).toInt64).toInt = x.toInt := by
  have e : q &&& 0x3f = 0 := by
    apply Int32.toBitVec_inj.mp
    apply BitVec.eq_of_toNat_eq
    rw [Int32.toBitVec_and, BitVec.toNat_and]
    show q.toBitVec.toNat &&& 63 = 0
    rw [show (63 : Nat) = 2 ^ 6 - 1 from rfl, Nat.and_two_pow_sub_one_eq_mod]
    exact hk
  rw [e, show (0 : Int32).toInt64.toUInt64 = 0 from by decide]
  simp
theorem own_ishr (x q : Int32) (k : Nat) (P : Int) (hk : q.toBitVec.toNat % 32 = k) (hP : P = (2 ^ k : Nat)) : (x >>> (q &&& 31)).toInt = x.toInt / P := by rw [hP]; exact c_ishr x q k hk
theorem own_ishl (x q : Int32) (k : Nat) (P : Int) (hk : q.toBitVec.toNat % 32 = k) (hP : P = (2 ^ k : Nat)) : ((x <<< (q &&& 31)).toInt - x.toInt * P) % 4294967296 = 0 := by rw [hP]; exact c_ishl x q k hk
theorem own_iushr (x q : Int32) (k : Nat) (P : Int) (hk : q.toBitVec.toNat % 32 = k) (hP : P = (2 ^ k : Nat)) (h0 : 0 < k) : ((x.toUInt32 >>> (q &&& 31).toUInt32).toInt32).toInt = (x.toInt % 4294967296) / P := by rw [hP]; exact c_iushr x q k hk h0
theorem own_lshr (x : Int64) (q : Int32) (k : Nat) (P : Int) (hk : q.toBitVec.toNat % 64 = k) (hP : P = (2 ^ k : Nat)) : (x >>> (q &&& 0x3f).toInt64).toInt = x.toInt / P := by rw [hP]; exact c_lshr x q k hk
theorem own_lshl (x : Int64) (q : Int32) (k : Nat) (P : Int) (hk : q.toBitVec.toNat % 64 = k) (hP : P = (2 ^ k : Nat)) : ((x <<< (q &&& 0x3f).toInt64).toInt - x.toInt * P) % 18446744073709551616 = 0 := by rw [hP]; exact c_lshl x q k hk
theorem own_lushr (x : Int64) (q : Int32) (k : Nat) (P : Int) (hk : q.toBitVec.toNat % 64 = k) (hP : P = (2 ^ k : Nat)) (h0 : 0 < k) : ((x.toUInt64 >>> (q &&& 0x3f).toInt64.toUInt64).toInt64).toInt = (x.toInt % 18446744073709551616) / P := by rw [hP]; exact c_lushr x q k hk h0
theorem own_addOk64 {x y : Int64} (h : Jvm.Free.XT.fits64 (x.toInt + y.toInt)) : ¬ (((x + y) ^^^ x) &&& ((x + y) ^^^ y)) < 0 := by
  have q := Jvm.Free.XT.addOk64 h
  rw [Int64.xor_comm (x + y) x, Int64.xor_comm (x + y) y]
  exact q

theorem w0 {Z : State} {a0 : Array Value} (hw : ∀ d ∈ tables_1, d.before a0 Z = true) : (Jvm.Cond.arrayClass Jvm.ClassFile.FieldType.char).before a0 Z = true := hw _ (List.mem_of_getElem? (i := 0) rfl)
theorem w1 {Z : State} {a0 : Array Value} (hw : ∀ d ∈ tables_1, d.before a0 Z = true) : (Jvm.Cond.classLink "com/example/envelop/envelop/learn/TranslationNamedPinLaw" (7 : Nat) "java/lang/String").before a0 Z = true := hw _ (List.mem_of_getElem? (i := 1) rfl)
theorem w2 {Z : State} {a0 : Array Value} (hw : ∀ d ∈ tables_1, d.before a0 Z = true) : (Jvm.Cond.instantiable "java/lang/String" (4 : Nat)).before a0 Z = true := hw _ (List.mem_of_getElem? (i := 2) rfl)
theorem w3 {Z : State} {a0 : Array Value} (hw : ∀ d ∈ tables_1, d.before a0 Z = true) : (Jvm.Cond.initialized "java/lang/String").before a0 Z = true := hw _ (List.mem_of_getElem? (i := 3) rfl)
theorem w4 {Z : State} {a0 : Array Value} (hw : ∀ d ∈ tables_1, d.before a0 Z = true) : (Jvm.Cond.methodLink "com/example/envelop/envelop/learn/TranslationNamedPinLaw" (9 : Nat) ({ cls := "java/lang/String", name := "<init>", desc := "([C)V" } : Jvm.MethodName)).before a0 Z = true := hw _ (List.mem_of_getElem? (i := 4) rfl)
theorem w5 {Z : State} {a0 : Array Value} (hw : ∀ d ∈ tables_1, d.before a0 Z = true) : (Jvm.Cond.instanceMethod ({ cls := "java/lang/String", name := "<init>", desc := "([C)V" } : Jvm.MethodName)).before a0 Z = true := hw _ (List.mem_of_getElem? (i := 5) rfl)
theorem w6 {Z : State} {a0 : Array Value} (hw : ∀ d ∈ tables_1, d.before a0 Z = true) : (Jvm.Cond.code ({ cls := "java/lang/String", name := "<init>", desc := "([C)V" } : Jvm.MethodName) jdk_42_method_3_code (2 : Nat) (Option.none : Option Jvm.ClassFile.FieldType)).before a0 Z = true := hw _ (List.mem_of_getElem? (i := 6) rfl)
theorem w7 {Z : State} {a0 : Array Value} (hw : ∀ d ∈ tables_1, d.before a0 Z = true) : (Jvm.Cond.methodLink "java/lang/String" (27 : Nat) ({ cls := "java/lang/String", name := "<init>", desc := "([CIILjava/lang/Void;)V" } : Jvm.MethodName)).before a0 Z = true := hw _ (List.mem_of_getElem? (i := 7) rfl)
theorem w8 {Z : State} {a0 : Array Value} (hw : ∀ d ∈ tables_1, d.before a0 Z = true) : (Jvm.Cond.instanceMethod ({ cls := "java/lang/String", name := "<init>", desc := "([CIILjava/lang/Void;)V" } : Jvm.MethodName)).before a0 Z = true := hw _ (List.mem_of_getElem? (i := 8) rfl)
theorem w10 {Z : State} {a0 : Array Value} (hw : ∀ d ∈ tables_1, d.before a0 Z = true) : (Jvm.Cond.code ({ cls := "java/lang/String", name := "<init>", desc := "([CIILjava/lang/Void;)V" } : Jvm.MethodName) jdk_42_method_149_code (6 : Nat) (Option.none : Option Jvm.ClassFile.FieldType)).before a0 Z = true := hw _ (List.mem_of_getElem? (i := 10) rfl)
theorem w11 {Z : State} {a0 : Array Value} (hw : ∀ d ∈ tables_1, d.before a0 Z = true) : (Jvm.Cond.methodLink "java/lang/String" (1 : Nat) ({ cls := "java/lang/Object", name := "<init>", desc := "()V" } : Jvm.MethodName)).before a0 Z = true := hw _ (List.mem_of_getElem? (i := 11) rfl)
theorem w12 {Z : State} {a0 : Array Value} (hw : ∀ d ∈ tables_1, d.before a0 Z = true) : (Jvm.Cond.instanceMethod ({ cls := "java/lang/Object", name := "<init>", desc := "()V" } : Jvm.MethodName)).before a0 Z = true := hw _ (List.mem_of_getElem? (i := 12) rfl)
theorem w13 {Z : State} {a0 : Array Value} (hw : ∀ d ∈ tables_1, d.before a0 Z = true) : (Jvm.Cond.code ({ cls := "java/lang/Object", name := "<init>", desc := "()V" } : Jvm.MethodName) object_method_1_code (1 : Nat) (Option.none : Option Jvm.ClassFile.FieldType)).before a0 Z = true := hw _ (List.mem_of_getElem? (i := 13) rfl)
theorem w14 {Z : State} {a0 : Array Value} (hw : ∀ d ∈ tables_1, d.before a0 Z = true) : (Jvm.Cond.fieldLink "java/lang/String" (38 : Nat) "java/lang/String" "COMPACT_STRINGS" "Z").before a0 Z = true := hw _ (List.mem_of_getElem? (i := 14) rfl)
theorem w15 {Z : State} {a0 : Array Value} (hw : ∀ d ∈ tables_1, d.before a0 Z = true) : (Jvm.Cond.methodLink "java/lang/String" (177 : Nat) ({ cls := "java/lang/StringUTF16", name := "compress", desc := "([CII)[B" } : Jvm.MethodName)).before a0 Z = true := hw _ (List.mem_of_getElem? (i := 15) rfl)
theorem w16 {Z : State} {a0 : Array Value} (hw : ∀ d ∈ tables_1, d.before a0 Z = true) : (Jvm.Cond.static ({ cls := "java/lang/StringUTF16", name := "compress", desc := "([CII)[B" } : Jvm.MethodName)).before a0 Z = true := hw _ (List.mem_of_getElem? (i := 16) rfl)
theorem w17 {Z : State} {a0 : Array Value} (hw : ∀ d ∈ tables_1, d.before a0 Z = true) : (Jvm.Cond.initialized "java/lang/StringUTF16").before a0 Z = true := hw _ (List.mem_of_getElem? (i := 17) rfl)
theorem w18 {Z : State} {a0 : Array Value} (hw : ∀ d ∈ tables_1, d.before a0 Z = true) : (Jvm.Cond.code ({ cls := "java/lang/StringUTF16", name := "compress", desc := "([CII)[B" } : Jvm.MethodName) jdk_52_method_16_code (6 : Nat) (Option.some (Jvm.ClassFile.FieldType.array Jvm.ClassFile.FieldType.byte))).before a0 Z = true := hw _ (List.mem_of_getElem? (i := 18) rfl)
theorem w19 {Z : State} {a0 : Array Value} (hw : ∀ d ∈ tables_1, d.before a0 Z = true) : (Jvm.Cond.arrayClass Jvm.ClassFile.FieldType.byte).before a0 Z = true := hw _ (List.mem_of_getElem? (i := 19) rfl)
theorem w20 {Z : State} {a0 : Array Value} (hw : ∀ d ∈ tables_1, d.before a0 Z = true) : (Jvm.Cond.methodLink "java/lang/StringUTF16" (115 : Nat) ({ cls := "java/lang/StringUTF16", name := "compress", desc := "([CI[BII)I" } : Jvm.MethodName)).before a0 Z = true := hw _ (List.mem_of_getElem? (i := 20) rfl)
theorem w21 {Z : State} {a0 : Array Value} (hw : ∀ d ∈ tables_1, d.before a0 Z = true) : (Jvm.Cond.static ({ cls := "java/lang/StringUTF16", name := "compress", desc := "([CI[BII)I" } : Jvm.MethodName)).before a0 Z = true := hw _ (List.mem_of_getElem? (i := 21) rfl)
theorem w22 {Z : State} {a0 : Array Value} (hw : ∀ d ∈ tables_1, d.before a0 Z = true) : (Jvm.Cond.code ({ cls := "java/lang/StringUTF16", name := "compress", desc := "([CI[BII)I" } : Jvm.MethodName) jdk_52_method_21_code (7 : Nat) (Option.some Jvm.ClassFile.FieldType.int)).before a0 Z = true := hw _ (List.mem_of_getElem? (i := 22) rfl)
theorem w23 {Z : State} {a0 : Array Value} (hw : ∀ d ∈ tables_1, d.before a0 Z = true) : (Jvm.Cond.methodLink "java/lang/String" (47 : Nat) ({ cls := "java/lang/StringUTF16", name := "coderFromArrayLen", desc := "([BI)B" } : Jvm.MethodName)).before a0 Z = true := hw _ (List.mem_of_getElem? (i := 23) rfl)
theorem w24 {Z : State} {a0 : Array Value} (hw : ∀ d ∈ tables_1, d.before a0 Z = true) : (Jvm.Cond.static ({ cls := "java/lang/StringUTF16", name := "coderFromArrayLen", desc := "([BI)B" } : Jvm.MethodName)).before a0 Z = true := hw _ (List.mem_of_getElem? (i := 24) rfl)
theorem w25 {Z : State} {a0 : Array Value} (hw : ∀ d ∈ tables_1, d.before a0 Z = true) : (Jvm.Cond.code ({ cls := "java/lang/StringUTF16", name := "coderFromArrayLen", desc := "([BI)B" } : Jvm.MethodName) jdk_52_method_15_code (2 : Nat) (Option.some Jvm.ClassFile.FieldType.byte)).before a0 Z = true := hw _ (List.mem_of_getElem? (i := 25) rfl)
theorem w26 {Z : State} {a0 : Array Value} (hw : ∀ d ∈ tables_1, d.before a0 Z = true) : (Jvm.Cond.fieldLink "java/lang/String" (15 : Nat) "java/lang/String" "coder" "B").before a0 Z = true := hw _ (List.mem_of_getElem? (i := 26) rfl)
theorem w27 {Z : State} {a0 : Array Value} (hw : ∀ d ∈ tables_1, d.before a0 Z = true) : (Jvm.Cond.laysFinal "java/lang/String" "java/lang/String" "coder" "B").before a0 Z = true := hw _ (List.mem_of_getElem? (i := 27) rfl)
theorem w28 {Z : State} {a0 : Array Value} (hw : ∀ d ∈ tables_1, d.before a0 Z = true) : (Jvm.Cond.fieldLink "java/lang/String" (9 : Nat) "java/lang/String" "value" "[B").before a0 Z = true := hw _ (List.mem_of_getElem? (i := 28) rfl)
theorem w29 {Z : State} {a0 : Array Value} (hw : ∀ d ∈ tables_1, d.before a0 Z = true) : (Jvm.Cond.laysFinal "java/lang/String" "java/lang/String" "value" "[B").before a0 Z = true := hw _ (List.mem_of_getElem? (i := 29) rfl)
theorem w30 {Z : State} {a0 : Array Value} (hw : ∀ d ∈ tables_1, d.before a0 Z = true) : (Jvm.Cond.fieldLink "com/example/envelop/envelop/learn/TranslationNamedPinLaw" (18 : Nat) "com/example/envelop/envelop/learn/Translation" "TWO_OPERATOR" "Lcom/example/envelop/envelop/learn/Translation;").before a0 Z = true := hw _ (List.mem_of_getElem? (i := 30) rfl)
theorem w31 {Z : State} {a0 : Array Value} (hw : ∀ d ∈ tables_1, d.before a0 Z = true) : (Jvm.Cond.initialized "com/example/envelop/envelop/learn/Translation").before a0 Z = true := hw _ (List.mem_of_getElem? (i := 31) rfl)
theorem w32 {Z : State} {a0 : Array Value} (hw : ∀ d ∈ tables_1, d.before a0 Z = true) : (Jvm.Cond.laysStatic "com/example/envelop/envelop/learn/Translation" "TWO_OPERATOR" "Lcom/example/envelop/envelop/learn/Translation;").before a0 Z = true := hw _ (List.mem_of_getElem? (i := 32) rfl)
theorem w33 {Z : State} {a0 : Array Value} (hw : ∀ d ∈ tables_1, d.before a0 Z = true) : (Jvm.Cond.methodLink "com/example/envelop/envelop/learn/TranslationNamedPinLaw" (21 : Nat) ({ cls := "com/example/envelop/envelop/learn/Translation", name := "named", desc := "(Ljava/lang/String;)Lcom/example/envelop/envelop/learn/Translation;" } : Jvm.MethodName)).before a0 Z = true := hw _ (List.mem_of_getElem? (i := 33) rfl)
theorem w34 {Z : State} {a0 : Array Value} (hw : ∀ d ∈ tables_1, d.before a0 Z = true) : (Jvm.Cond.static ({ cls := "com/example/envelop/envelop/learn/Translation", name := "named", desc := "(Ljava/lang/String;)Lcom/example/envelop/envelop/learn/Translation;" } : Jvm.MethodName)).before a0 Z = true := hw _ (List.mem_of_getElem? (i := 34) rfl)
theorem w35 {Z : State} {a0 : Array Value} (hw : ∀ d ∈ tables_1, d.before a0 Z = true) : (Jvm.Cond.code ({ cls := "com/example/envelop/envelop/learn/Translation", name := "named", desc := "(Ljava/lang/String;)Lcom/example/envelop/envelop/learn/Translation;" } : Jvm.MethodName) prog_28_method_4_code (5 : Nat) (Option.some (Jvm.ClassFile.FieldType.object "com/example/envelop/envelop/learn/Translation"))).before a0 Z = true := hw _ (List.mem_of_getElem? (i := 35) rfl)
theorem w36 {Z : State} {a0 : Array Value} (hw : ∀ d ∈ tables_1, d.before a0 Z = true) : (Jvm.Cond.methodLink "com/example/envelop/envelop/learn/Translation" (37 : Nat) ({ cls := "com/example/envelop/envelop/learn/Translation", name := "values", desc := "()[Lcom/example/envelop/envelop/learn/Translation;" } : Jvm.MethodName)).before a0 Z = true := hw _ (List.mem_of_getElem? (i := 36) rfl)
theorem w37 {Z : State} {a0 : Array Value} (hw : ∀ d ∈ tables_1, d.before a0 Z = true) : (Jvm.Cond.static ({ cls := "com/example/envelop/envelop/learn/Translation", name := "values", desc := "()[Lcom/example/envelop/envelop/learn/Translation;" } : Jvm.MethodName)).before a0 Z = true := hw _ (List.mem_of_getElem? (i := 37) rfl)
theorem w38 {Z : State} {a0 : Array Value} (hw : ∀ d ∈ tables_1, d.before a0 Z = true) : (Jvm.Cond.code ({ cls := "com/example/envelop/envelop/learn/Translation", name := "values", desc := "()[Lcom/example/envelop/envelop/learn/Translation;" } : Jvm.MethodName) prog_28_method_1_code (0 : Nat) (Option.some (Jvm.ClassFile.FieldType.array (Jvm.ClassFile.FieldType.object "com/example/envelop/envelop/learn/Translation")))).before a0 Z = true := hw _ (List.mem_of_getElem? (i := 38) rfl)
theorem w39 {Z : State} {a0 : Array Value} (hw : ∀ d ∈ tables_1, d.before a0 Z = true) : (Jvm.Cond.fieldLink "com/example/envelop/envelop/learn/Translation" (10 : Nat) "com/example/envelop/envelop/learn/Translation" "$VALUES" "[Lcom/example/envelop/envelop/learn/Translation;").before a0 Z = true := hw _ (List.mem_of_getElem? (i := 39) rfl)
theorem w40 {Z : State} {a0 : Array Value} (hw : ∀ d ∈ tables_1, d.before a0 Z = true) : (Jvm.Cond.laysStatic "com/example/envelop/envelop/learn/Translation" "$VALUES" "[Lcom/example/envelop/envelop/learn/Translation;").before a0 Z = true := hw _ (List.mem_of_getElem? (i := 40) rfl)
theorem w41 {Z : State} {a0 : Array Value} (hw : ∀ d ∈ tables_1, d.before a0 Z = true) : (Jvm.Cond.methodLink "com/example/envelop/envelop/learn/Translation" (14 : Nat) ({ cls := "[Lcom/example/envelop/envelop/learn/Translation;", name := "clone", desc := "()Ljava/lang/Object;" } : Jvm.MethodName)).before a0 Z = true := hw _ (List.mem_of_getElem? (i := 41) rfl)
theorem w42 {Z : State} {a0 : Array Value} (hw : ∀ d ∈ tables_1, d.before a0 Z = true) : (Jvm.Cond.sameMethod "[Lcom/example/envelop/envelop/learn/Translation;" "java/lang/Object" "clone" "()Ljava/lang/Object;").before a0 Z = true := hw _ (List.mem_of_getElem? (i := 42) rfl)
theorem w44 {Z : State} {a0 : Array Value} (hw : ∀ d ∈ tables_1, d.before a0 Z = true) : (Jvm.Cond.instanceMethod ({ cls := "java/lang/Object", name := "clone", desc := "()Ljava/lang/Object;" } : Jvm.MethodName)).before a0 Z = true := hw _ (List.mem_of_getElem? (i := 44) rfl)
theorem w45 {Z : State} {a0 : Array Value} (hw : ∀ d ∈ tables_1, d.before a0 Z = true) : (Jvm.Cond.selects "[Lcom/example/envelop/envelop/learn/Translation;" ({ cls := "[Lcom/example/envelop/envelop/learn/Translation;", name := "clone", desc := "()Ljava/lang/Object;" } : Jvm.MethodName) ({ cls := "java/lang/Object", name := "clone", desc := "()Ljava/lang/Object;" } : Jvm.MethodName)).before a0 Z = true := hw _ (List.mem_of_getElem? (i := 45) rfl)
theorem w46 {Z : State} {a0 : Array Value} (hw : ∀ d ∈ tables_1, d.before a0 Z = true) : (Jvm.Cond.native ({ cls := "java/lang/Object", name := "clone", desc := "()Ljava/lang/Object;" } : Jvm.MethodName)).before a0 Z = true := hw _ (List.mem_of_getElem? (i := 46) rfl)
theorem w47 {Z : State} {a0 : Array Value} (hw : ∀ d ∈ tables_1, d.before a0 Z = true) : (Jvm.Cond.castable "[Lcom/example/envelop/envelop/learn/Translation;" "java/lang/Cloneable").before a0 Z = true := hw _ (List.mem_of_getElem? (i := 47) rfl)
theorem w48 {Z : State} {a0 : Array Value} (hw : ∀ d ∈ tables_1, d.before a0 Z = true) : (Jvm.Cond.laysStatic "com/example/envelop/envelop/learn/Translation" "THREE_OPERATOR" "Lcom/example/envelop/envelop/learn/Translation;").before a0 Z = true := hw _ (List.mem_of_getElem? (i := 48) rfl)
theorem w49 {Z : State} {a0 : Array Value} (hw : ∀ d ∈ tables_1, d.before a0 Z = true) : (Jvm.Cond.initializedFor "com/example/envelop/envelop/learn/Translation" "$VALUES" "[Lcom/example/envelop/envelop/learn/Translation;").before a0 Z = true := hw _ (List.mem_of_getElem? (i := 49) rfl)
theorem w50 {Z : State} {a0 : Array Value} (hw : ∀ d ∈ tables_1, d.before a0 Z = true) : (Jvm.Cond.classLink "com/example/envelop/envelop/learn/Translation" (15 : Nat) "[Lcom/example/envelop/envelop/learn/Translation;").before a0 Z = true := hw _ (List.mem_of_getElem? (i := 50) rfl)
theorem w52 {Z : State} {a0 : Array Value} (hw : ∀ d ∈ tables_1, d.before a0 Z = true) : (Jvm.Cond.fieldLink "com/example/envelop/envelop/learn/Translation" (29 : Nat) "com/example/envelop/envelop/learn/Translation" "text" "Ljava/lang/String;").before a0 Z = true := hw _ (List.mem_of_getElem? (i := 52) rfl)
theorem w54 {Z : State} {a0 : Array Value} (hw : ∀ d ∈ tables_1, d.before a0 Z = true) : (Jvm.Cond.methodLink "com/example/envelop/envelop/learn/Translation" (41 : Nat) ({ cls := "java/lang/String", name := "equals", desc := "(Ljava/lang/Object;)Z" } : Jvm.MethodName)).before a0 Z = true := hw _ (List.mem_of_getElem? (i := 54) rfl)
theorem w55 {Z : State} {a0 : Array Value} (hw : ∀ d ∈ tables_1, d.before a0 Z = true) : (Jvm.Cond.declares ({ cls := "java/lang/String", name := "equals", desc := "(Ljava/lang/Object;)Z" } : Jvm.MethodName)).before a0 Z = true := hw _ (List.mem_of_getElem? (i := 55) rfl)
theorem w56 {Z : State} {a0 : Array Value} (hw : ∀ d ∈ tables_1, d.before a0 Z = true) : (Jvm.Cond.instanceMethod ({ cls := "java/lang/String", name := "equals", desc := "(Ljava/lang/Object;)Z" } : Jvm.MethodName)).before a0 Z = true := hw _ (List.mem_of_getElem? (i := 56) rfl)
theorem w57 {Z : State} {a0 : Array Value} (hw : ∀ d ∈ tables_1, d.before a0 Z = true) : (Jvm.Cond.selects "java/lang/String" ({ cls := "java/lang/String", name := "equals", desc := "(Ljava/lang/Object;)Z" } : Jvm.MethodName) ({ cls := "java/lang/String", name := "equals", desc := "(Ljava/lang/Object;)Z" } : Jvm.MethodName)).before a0 Z = true := hw _ (List.mem_of_getElem? (i := 57) rfl)
theorem w58 {Z : State} {a0 : Array Value} (hw : ∀ d ∈ tables_1, d.before a0 Z = true) : (Jvm.Cond.code ({ cls := "java/lang/String", name := "equals", desc := "(Ljava/lang/Object;)Z" } : Jvm.MethodName) jdk_42_method_66_code (3 : Nat) (Option.some Jvm.ClassFile.FieldType.boolean)).before a0 Z = true := hw _ (List.mem_of_getElem? (i := 58) rfl)
theorem w59 {Z : State} {a0 : Array Value} (hw : ∀ d ∈ tables_1, d.before a0 Z = true) : (Jvm.Cond.classLink "java/lang/String" (10 : Nat) "java/lang/String").before a0 Z = true := hw _ (List.mem_of_getElem? (i := 59) rfl)
theorem w60 {Z : State} {a0 : Array Value} (hw : ∀ d ∈ tables_1, d.before a0 Z = true) : (Jvm.Cond.methodLink "java/lang/String" (541 : Nat) ({ cls := "java/lang/StringLatin1", name := "equals", desc := "([B[B)Z" } : Jvm.MethodName)).before a0 Z = true := hw _ (List.mem_of_getElem? (i := 60) rfl)
theorem w61 {Z : State} {a0 : Array Value} (hw : ∀ d ∈ tables_1, d.before a0 Z = true) : (Jvm.Cond.static ({ cls := "java/lang/StringLatin1", name := "equals", desc := "([B[B)Z" } : Jvm.MethodName)).before a0 Z = true := hw _ (List.mem_of_getElem? (i := 61) rfl)
theorem w62 {Z : State} {a0 : Array Value} (hw : ∀ d ∈ tables_1, d.before a0 Z = true) : (Jvm.Cond.initialized "java/lang/StringLatin1").before a0 Z = true := hw _ (List.mem_of_getElem? (i := 62) rfl)
theorem w63 {Z : State} {a0 : Array Value} (hw : ∀ d ∈ tables_1, d.before a0 Z = true) : (Jvm.Cond.code ({ cls := "java/lang/StringLatin1", name := "equals", desc := "([B[B)Z" } : Jvm.MethodName) jdk_43_method_13_code (3 : Nat) (Option.some Jvm.ClassFile.FieldType.boolean)).before a0 Z = true := hw _ (List.mem_of_getElem? (i := 63) rfl)
theorem w64 {Z : State} {a0 : Array Value} (hw : ∀ d ∈ tables_1, d.before a0 Z = true) : (Jvm.Cond.methodLink "com/example/envelop/envelop/learn/TranslationNamedPinLaw" (25 : Nat) ({ cls := "com/example/envelop/envelop/learn/Translation", name := "toString", desc := "()Ljava/lang/String;" } : Jvm.MethodName)).before a0 Z = true := hw _ (List.mem_of_getElem? (i := 64) rfl)
theorem w65 {Z : State} {a0 : Array Value} (hw : ∀ d ∈ tables_1, d.before a0 Z = true) : (Jvm.Cond.declares ({ cls := "com/example/envelop/envelop/learn/Translation", name := "toString", desc := "()Ljava/lang/String;" } : Jvm.MethodName)).before a0 Z = true := hw _ (List.mem_of_getElem? (i := 65) rfl)
theorem w66 {Z : State} {a0 : Array Value} (hw : ∀ d ∈ tables_1, d.before a0 Z = true) : (Jvm.Cond.instanceMethod ({ cls := "com/example/envelop/envelop/learn/Translation", name := "toString", desc := "()Ljava/lang/String;" } : Jvm.MethodName)).before a0 Z = true := hw _ (List.mem_of_getElem? (i := 66) rfl)
theorem w67 {Z : State} {a0 : Array Value} (hw : ∀ d ∈ tables_1, d.before a0 Z = true) : (Jvm.Cond.selects "com/example/envelop/envelop/learn/Translation" ({ cls := "com/example/envelop/envelop/learn/Translation", name := "toString", desc := "()Ljava/lang/String;" } : Jvm.MethodName) ({ cls := "com/example/envelop/envelop/learn/Translation", name := "toString", desc := "()Ljava/lang/String;" } : Jvm.MethodName)).before a0 Z = true := hw _ (List.mem_of_getElem? (i := 67) rfl)
theorem w68 {Z : State} {a0 : Array Value} (hw : ∀ d ∈ tables_1, d.before a0 Z = true) : (Jvm.Cond.code ({ cls := "com/example/envelop/envelop/learn/Translation", name := "toString", desc := "()Ljava/lang/String;" } : Jvm.MethodName) prog_28_method_6_code (1 : Nat) (Option.some (Jvm.ClassFile.FieldType.object "java/lang/String"))).before a0 Z = true := hw _ (List.mem_of_getElem? (i := 68) rfl)
theorem w69 {Z : State} {a0 : Array Value} (hw : ∀ d ∈ tables_1, d.before a0 Z = true) : (Jvm.Cond.methodLink "com/example/envelop/envelop/learn/TranslationNamedPinLaw" (29 : Nat) ({ cls := "java/lang/String", name := "equals", desc := "(Ljava/lang/Object;)Z" } : Jvm.MethodName)).before a0 Z = true := hw _ (List.mem_of_getElem? (i := 69) rfl)
theorem w70 {Z : State} {a0 : Array Value} (hw : ∀ d ∈ tables_1, d.before a0 Z = true) : (Jvm.Cond.fieldLink "com/example/envelop/envelop/learn/TranslationNamedPinLaw" (12 : Nat) "com/example/envelop/envelop/learn/Translation" "THREE_OPERATOR" "Lcom/example/envelop/envelop/learn/Translation;").before a0 Z = true := hw _ (List.mem_of_getElem? (i := 70) rfl)
theorem d1_0 : decode jdk_42_method_3_code 0 = .ok (.aload_n 0, 1) := by decide +kernel
theorem d1_1 : decode jdk_42_method_3_code 1 = .ok (.aload_n 1, 1) := by decide +kernel
theorem d1_2 : decode jdk_42_method_3_code 2 = .ok (.iconst 0, 1) := by decide +kernel
theorem d1_3 : decode jdk_42_method_3_code 3 = .ok (.aload_n 1, 1) := by decide +kernel
theorem d1_4 : decode jdk_42_method_3_code 4 = .ok (.arraylength, 1) := by decide +kernel
theorem d1_5 : decode jdk_42_method_3_code 5 = .ok (.aconst_null, 1) := by decide +kernel
theorem d1_6 : decode jdk_42_method_3_code 6 = .ok (.invokespecial 27, 3) := by decide +kernel
theorem d1_9 : decode jdk_42_method_3_code 9 = .ok (.return_, 1) := by decide +kernel
theorem d2_0 : decode jdk_42_method_149_code 0 = .ok (.aload_n 0, 1) := by decide +kernel
theorem d2_1 : decode jdk_42_method_149_code 1 = .ok (.invokespecial 1, 3) := by decide +kernel
theorem d2_4 : decode jdk_42_method_149_code 4 = .ok (.iload_n 3, 1) := by decide +kernel
theorem d2_5 : decode jdk_42_method_149_code 5 = .ok (.ifCond .ne 22, 3) := by decide +kernel
theorem d2_27 : decode jdk_42_method_149_code 27 = .ok (.getstatic 38, 3) := by decide +kernel
theorem d2_30 : decode jdk_42_method_149_code 30 = .ok (.ifCond .eq 28, 3) := by decide +kernel
theorem d2_33 : decode jdk_42_method_149_code 33 = .ok (.aload_n 1, 1) := by decide +kernel
theorem d2_34 : decode jdk_42_method_149_code 34 = .ok (.iload_n 2, 1) := by decide +kernel
theorem d2_35 : decode jdk_42_method_149_code 35 = .ok (.iload_n 3, 1) := by decide +kernel
theorem d2_36 : decode jdk_42_method_149_code 36 = .ok (.invokestatic 177, 3) := by decide +kernel
theorem d2_39 : decode jdk_42_method_149_code 39 = .ok (.astore 5, 2) := by decide +kernel
theorem d2_41 : decode jdk_42_method_149_code 41 = .ok (.aload_n 0, 1) := by decide +kernel
theorem d2_42 : decode jdk_42_method_149_code 42 = .ok (.aload 5, 2) := by decide +kernel
theorem d2_44 : decode jdk_42_method_149_code 44 = .ok (.iload_n 3, 1) := by decide +kernel
theorem d2_45 : decode jdk_42_method_149_code 45 = .ok (.invokestatic 47, 3) := by decide +kernel
theorem d2_48 : decode jdk_42_method_149_code 48 = .ok (.putfield 15, 3) := by decide +kernel
theorem d2_51 : decode jdk_42_method_149_code 51 = .ok (.aload_n 0, 1) := by decide +kernel
theorem d2_52 : decode jdk_42_method_149_code 52 = .ok (.aload 5, 2) := by decide +kernel
theorem d2_54 : decode jdk_42_method_149_code 54 = .ok (.putfield 9, 3) := by decide +kernel
theorem d2_57 : decode jdk_42_method_149_code 57 = .ok (.return_, 1) := by decide +kernel
theorem d4_0 : decode jdk_52_method_16_code 0 = .ok (.iload_n 2, 1) := by decide +kernel
theorem d4_1 : decode jdk_52_method_16_code 1 = .ok (.newarray .byte, 2) := by decide +kernel
theorem d4_3 : decode jdk_52_method_16_code 3 = .ok (.astore_n 3, 1) := by decide +kernel
theorem d4_4 : decode jdk_52_method_16_code 4 = .ok (.aload_n 0, 1) := by decide +kernel
theorem d4_5 : decode jdk_52_method_16_code 5 = .ok (.iload_n 1, 1) := by decide +kernel
theorem d4_6 : decode jdk_52_method_16_code 6 = .ok (.aload_n 3, 1) := by decide +kernel
theorem d4_7 : decode jdk_52_method_16_code 7 = .ok (.iconst 0, 1) := by decide +kernel
theorem d4_8 : decode jdk_52_method_16_code 8 = .ok (.iload_n 2, 1) := by decide +kernel
theorem d4_9 : decode jdk_52_method_16_code 9 = .ok (.invokestatic 115, 3) := by decide +kernel
theorem d4_12 : decode jdk_52_method_16_code 12 = .ok (.istore 4, 2) := by decide +kernel
theorem d4_14 : decode jdk_52_method_16_code 14 = .ok (.iload 4, 2) := by decide +kernel
theorem d4_16 : decode jdk_52_method_16_code 16 = .ok (.iload_n 2, 1) := by decide +kernel
theorem d4_17 : decode jdk_52_method_16_code 17 = .ok (.if_icmp .eq 40, 3) := by decide +kernel
theorem d4_57 : decode jdk_52_method_16_code 57 = .ok (.aload_n 3, 1) := by decide +kernel
theorem d4_58 : decode jdk_52_method_16_code 58 = .ok (.areturn, 1) := by decide +kernel
theorem d5_0 : decode jdk_52_method_21_code 0 = .ok (.iconst 0, 1) := by decide +kernel
theorem d5_1 : decode jdk_52_method_21_code 1 = .ok (.istore 5, 2) := by decide +kernel
theorem d5_3 : decode jdk_52_method_21_code 3 = .ok (.iload 5, 2) := by decide +kernel
theorem d5_5 : decode jdk_52_method_21_code 5 = .ok (.iload 4, 2) := by decide +kernel
theorem d5_7 : decode jdk_52_method_21_code 7 = .ok (.if_icmp .ge 37, 3) := by decide +kernel
theorem d5_10 : decode jdk_52_method_21_code 10 = .ok (.aload_n 0, 1) := by decide +kernel
theorem d5_11 : decode jdk_52_method_21_code 11 = .ok (.iload_n 1, 1) := by decide +kernel
theorem d5_12 : decode jdk_52_method_21_code 12 = .ok (.caload, 1) := by decide +kernel
theorem d5_13 : decode jdk_52_method_21_code 13 = .ok (.istore 6, 2) := by decide +kernel
theorem d5_15 : decode jdk_52_method_21_code 15 = .ok (.iload 6, 2) := by decide +kernel
theorem d5_17 : decode jdk_52_method_21_code 17 = .ok (.sipush 255, 3) := by decide +kernel
theorem d5_20 : decode jdk_52_method_21_code 20 = .ok (.if_icmp .le 6, 3) := by decide +kernel
theorem d5_26 : decode jdk_52_method_21_code 26 = .ok (.aload_n 2, 1) := by decide +kernel
theorem d5_27 : decode jdk_52_method_21_code 27 = .ok (.iload_n 3, 1) := by decide +kernel
theorem d5_28 : decode jdk_52_method_21_code 28 = .ok (.iload 6, 2) := by decide +kernel
theorem d5_30 : decode jdk_52_method_21_code 30 = .ok (.i2b, 1) := by decide +kernel
theorem d5_31 : decode jdk_52_method_21_code 31 = .ok (.bastore, 1) := by decide +kernel
theorem d5_32 : decode jdk_52_method_21_code 32 = .ok (.iinc 1 1, 3) := by decide +kernel
theorem d5_35 : decode jdk_52_method_21_code 35 = .ok (.iinc 3 1, 3) := by decide +kernel
theorem d5_38 : decode jdk_52_method_21_code 38 = .ok (.iinc 5 1, 3) := by decide +kernel
theorem d5_41 : decode jdk_52_method_21_code 41 = .ok (.goto (-38), 3) := by decide +kernel
theorem d5_44 : decode jdk_52_method_21_code 44 = .ok (.iload 4, 2) := by decide +kernel
theorem d5_46 : decode jdk_52_method_21_code 46 = .ok (.ireturn, 1) := by decide +kernel
theorem d6_0 : decode jdk_52_method_15_code 0 = .ok (.iload_n 1, 1) := by decide +kernel
theorem d6_1 : decode jdk_52_method_15_code 1 = .ok (.aload_n 0, 1) := by decide +kernel
theorem d6_2 : decode jdk_52_method_15_code 2 = .ok (.arraylength, 1) := by decide +kernel
theorem d6_3 : decode jdk_52_method_15_code 3 = .ok (.isub, 1) := by decide +kernel
theorem d6_4 : decode jdk_52_method_15_code 4 = .ok (.bipush 31, 2) := by decide +kernel
theorem d6_6 : decode jdk_52_method_15_code 6 = .ok (.iushr, 1) := by decide +kernel
theorem d6_7 : decode jdk_52_method_15_code 7 = .ok (.i2b, 1) := by decide +kernel
theorem d6_8 : decode jdk_52_method_15_code 8 = .ok (.ireturn, 1) := by decide +kernel
theorem d7_0 : decode prog_28_method_4_code 0 = .ok (.invokestatic 37, 3) := by decide +kernel
theorem d7_3 : decode prog_28_method_4_code 3 = .ok (.astore_n 1, 1) := by decide +kernel
theorem d7_4 : decode prog_28_method_4_code 4 = .ok (.aload_n 1, 1) := by decide +kernel
theorem d7_5 : decode prog_28_method_4_code 5 = .ok (.arraylength, 1) := by decide +kernel
theorem d7_6 : decode prog_28_method_4_code 6 = .ok (.istore_n 2, 1) := by decide +kernel
theorem d7_7 : decode prog_28_method_4_code 7 = .ok (.iconst 0, 1) := by decide +kernel
theorem d7_8 : decode prog_28_method_4_code 8 = .ok (.istore_n 3, 1) := by decide +kernel
theorem d7_9 : decode prog_28_method_4_code 9 = .ok (.iload_n 3, 1) := by decide +kernel
theorem d7_10 : decode prog_28_method_4_code 10 = .ok (.iload_n 2, 1) := by decide +kernel
theorem d7_11 : decode prog_28_method_4_code 11 = .ok (.if_icmp .ge 29, 3) := by decide +kernel
theorem d7_14 : decode prog_28_method_4_code 14 = .ok (.aload_n 1, 1) := by decide +kernel
theorem d7_15 : decode prog_28_method_4_code 15 = .ok (.iload_n 3, 1) := by decide +kernel
theorem d7_16 : decode prog_28_method_4_code 16 = .ok (.aaload, 1) := by decide +kernel
theorem d7_17 : decode prog_28_method_4_code 17 = .ok (.astore 4, 2) := by decide +kernel
theorem d7_19 : decode prog_28_method_4_code 19 = .ok (.aload 4, 2) := by decide +kernel
theorem d7_21 : decode prog_28_method_4_code 21 = .ok (.getfield 29, 3) := by decide +kernel
theorem d7_24 : decode prog_28_method_4_code 24 = .ok (.aload_n 0, 1) := by decide +kernel
theorem d7_25 : decode prog_28_method_4_code 25 = .ok (.invokevirtual 41, 3) := by decide +kernel
theorem d7_28 : decode prog_28_method_4_code 28 = .ok (.ifCond .eq 6, 3) := by decide +kernel
theorem d7_31 : decode prog_28_method_4_code 31 = .ok (.aload 4, 2) := by decide +kernel
theorem d7_33 : decode prog_28_method_4_code 33 = .ok (.areturn, 1) := by decide +kernel
theorem d7_34 : decode prog_28_method_4_code 34 = .ok (.iinc 3 1, 3) := by decide +kernel
theorem d7_37 : decode prog_28_method_4_code 37 = .ok (.goto (-28), 3) := by decide +kernel
theorem d8_0 : decode prog_28_method_1_code 0 = .ok (.getstatic 10, 3) := by decide +kernel
theorem d8_3 : decode prog_28_method_1_code 3 = .ok (.invokevirtual 14, 3) := by decide +kernel
theorem d8_6 : decode prog_28_method_1_code 6 = .ok (.checkcast 15, 3) := by decide +kernel
theorem d8_9 : decode prog_28_method_1_code 9 = .ok (.areturn, 1) := by decide +kernel
theorem d9_0 : decode jdk_42_method_66_code 0 = .ok (.aload_n 0, 1) := by decide +kernel
theorem d9_1 : decode jdk_42_method_66_code 1 = .ok (.aload_n 1, 1) := by decide +kernel
theorem d9_2 : decode jdk_42_method_66_code 2 = .ok (.if_acmp .ne 5, 3) := by decide +kernel
theorem d9_7 : decode jdk_42_method_66_code 7 = .ok (.aload_n 1, 1) := by decide +kernel
theorem d9_8 : decode jdk_42_method_66_code 8 = .ok (.instanceof 10, 3) := by decide +kernel
theorem d9_11 : decode jdk_42_method_66_code 11 = .ok (.ifCond .eq 43, 3) := by decide +kernel
theorem d9_14 : decode jdk_42_method_66_code 14 = .ok (.aload_n 1, 1) := by decide +kernel
theorem d9_15 : decode jdk_42_method_66_code 15 = .ok (.checkcast 10, 3) := by decide +kernel
theorem d9_18 : decode jdk_42_method_66_code 18 = .ok (.astore_n 2, 1) := by decide +kernel
theorem d9_19 : decode jdk_42_method_66_code 19 = .ok (.getstatic 38, 3) := by decide +kernel
theorem d9_22 : decode jdk_42_method_66_code 22 = .ok (.ifCond .eq 14, 3) := by decide +kernel
theorem d9_25 : decode jdk_42_method_66_code 25 = .ok (.aload_n 0, 1) := by decide +kernel
theorem d9_26 : decode jdk_42_method_66_code 26 = .ok (.getfield 15, 3) := by decide +kernel
theorem d9_29 : decode jdk_42_method_66_code 29 = .ok (.aload_n 2, 1) := by decide +kernel
theorem d9_30 : decode jdk_42_method_66_code 30 = .ok (.getfield 15, 3) := by decide +kernel
theorem d9_33 : decode jdk_42_method_66_code 33 = .ok (.if_icmp .ne 21, 3) := by decide +kernel
theorem d9_36 : decode jdk_42_method_66_code 36 = .ok (.aload_n 0, 1) := by decide +kernel
theorem d9_37 : decode jdk_42_method_66_code 37 = .ok (.getfield 9, 3) := by decide +kernel
theorem d9_40 : decode jdk_42_method_66_code 40 = .ok (.aload_n 2, 1) := by decide +kernel
theorem d9_41 : decode jdk_42_method_66_code 41 = .ok (.getfield 9, 3) := by decide +kernel
theorem d9_44 : decode jdk_42_method_66_code 44 = .ok (.invokestatic 541, 3) := by decide +kernel
theorem d9_47 : decode jdk_42_method_66_code 47 = .ok (.ifCond .eq 7, 3) := by decide +kernel
theorem d9_50 : decode jdk_42_method_66_code 50 = .ok (.iconst 1, 1) := by decide +kernel
theorem d9_51 : decode jdk_42_method_66_code 51 = .ok (.goto 4, 3) := by decide +kernel
theorem d9_54 : decode jdk_42_method_66_code 54 = .ok (.iconst 0, 1) := by decide +kernel
theorem d9_55 : decode jdk_42_method_66_code 55 = .ok (.ireturn, 1) := by decide +kernel
theorem d10_0 : decode jdk_43_method_13_code 0 = .ok (.aload_n 0, 1) := by decide +kernel
theorem d10_1 : decode jdk_43_method_13_code 1 = .ok (.arraylength, 1) := by decide +kernel
theorem d10_2 : decode jdk_43_method_13_code 2 = .ok (.aload_n 1, 1) := by decide +kernel
theorem d10_3 : decode jdk_43_method_13_code 3 = .ok (.arraylength, 1) := by decide +kernel
theorem d10_4 : decode jdk_43_method_13_code 4 = .ok (.if_icmp .ne 30, 3) := by decide +kernel
theorem d10_7 : decode jdk_43_method_13_code 7 = .ok (.iconst 0, 1) := by decide +kernel
theorem d10_8 : decode jdk_43_method_13_code 8 = .ok (.istore_n 2, 1) := by decide +kernel
theorem d10_9 : decode jdk_43_method_13_code 9 = .ok (.iload_n 2, 1) := by decide +kernel
theorem d10_10 : decode jdk_43_method_13_code 10 = .ok (.aload_n 0, 1) := by decide +kernel
theorem d10_11 : decode jdk_43_method_13_code 11 = .ok (.arraylength, 1) := by decide +kernel
theorem d10_12 : decode jdk_43_method_13_code 12 = .ok (.if_icmp .ge 20, 3) := by decide +kernel
theorem d10_15 : decode jdk_43_method_13_code 15 = .ok (.aload_n 0, 1) := by decide +kernel
theorem d10_16 : decode jdk_43_method_13_code 16 = .ok (.iload_n 2, 1) := by decide +kernel
theorem d10_17 : decode jdk_43_method_13_code 17 = .ok (.baload, 1) := by decide +kernel
theorem d10_18 : decode jdk_43_method_13_code 18 = .ok (.aload_n 1, 1) := by decide +kernel
theorem d10_19 : decode jdk_43_method_13_code 19 = .ok (.iload_n 2, 1) := by decide +kernel
theorem d10_20 : decode jdk_43_method_13_code 20 = .ok (.baload, 1) := by decide +kernel
theorem d10_21 : decode jdk_43_method_13_code 21 = .ok (.if_icmp .eq 5, 3) := by decide +kernel
theorem d10_24 : decode jdk_43_method_13_code 24 = .ok (.iconst 0, 1) := by decide +kernel
theorem d10_25 : decode jdk_43_method_13_code 25 = .ok (.ireturn, 1) := by decide +kernel
theorem d10_26 : decode jdk_43_method_13_code 26 = .ok (.iinc 2 1, 3) := by decide +kernel
theorem d10_29 : decode jdk_43_method_13_code 29 = .ok (.goto (-20), 3) := by decide +kernel
theorem d10_32 : decode jdk_43_method_13_code 32 = .ok (.iconst 1, 1) := by decide +kernel
theorem d10_33 : decode jdk_43_method_13_code 33 = .ok (.ireturn, 1) := by decide +kernel
theorem d11_0 : decode prog_28_method_6_code 0 = .ok (.aload_n 0, 1) := by decide +kernel
theorem d11_1 : decode prog_28_method_6_code 1 = .ok (.getfield 29, 3) := by decide +kernel
theorem d11_4 : decode prog_28_method_6_code 4 = .ok (.areturn, 1) := by decide +kernel
theorem pd_0 : parseMethodDescriptor "([CI[BII)I" = some ⟨[(.array .char), .int, (.array .byte), .int, .int], some .int⟩ := by decide +kernel
theorem pd_1 : parseMethodDescriptor "([CII)[B" = some ⟨[(.array .char), .int, .int], some (.array .byte)⟩ := by decide +kernel
theorem pd_2 : parseMethodDescriptor "([BI)B" = some ⟨[(.array .byte), .int], some .byte⟩ := by decide +kernel
theorem pd_3 : parseMethodDescriptor "([CIILjava/lang/Void;)V" = some ⟨[(.array .char), .int, .int, (.object "java/lang/Void")], none⟩ := by decide +kernel
theorem pd_4 : parseMethodDescriptor "([C)V" = some ⟨[(.array .char)], none⟩ := by decide +kernel
theorem pd_5 : parseMethodDescriptor "()[Lcom/example/envelop/envelop/learn/Translation;" = some ⟨[], some (.array (.object "com/example/envelop/envelop/learn/Translation"))⟩ := by decide +kernel
theorem pd_6 : parseMethodDescriptor "([B[B)Z" = some ⟨[(.array .byte), (.array .byte)], some .boolean⟩ := by decide +kernel
theorem pd_7 : parseMethodDescriptor "(Ljava/lang/Object;)Z" = some ⟨[(.object "java/lang/Object")], some .boolean⟩ := by decide +kernel
theorem pd_8 : parseMethodDescriptor "(Ljava/lang/String;)Lcom/example/envelop/envelop/learn/Translation;" = some ⟨[(.object "java/lang/String")], some (.object "com/example/envelop/envelop/learn/Translation")⟩ := by decide +kernel
theorem pd_9 : parseMethodDescriptor "()Ljava/lang/String;" = some ⟨[], some (.object "java/lang/String")⟩ := by decide +kernel
theorem pn_0 : plainName "java/lang/StringUTF16" = true := by first | (simp [plainName, overriddenIn]; done) | decide +kernel
theorem pn_1 : plainName "java/lang/String" = true := by first | (simp [plainName, overriddenIn]; done) | decide +kernel
theorem pn_2 : plainName "com/example/envelop/envelop/learn/Translation" = true := by first | (simp [plainName, overriddenIn]; done) | decide +kernel
theorem pn_3 : plainName "java/lang/StringLatin1" = true := by first | (simp [plainName, overriddenIn]; done) | decide +kernel
theorem pn_4 : plainName "com/example/envelop/envelop/learn/TranslationNamedPinLaw" = true := by first | (simp [plainName, overriddenIn]; done) | decide +kernel
def Q_rm5_1 (Z : State) (a1 : Addr) (a2 : Addr) (k3 : ClassId) (k4 : ClassId) (h0 : Heap) (n0 : Nat) (v : Option Value) (h : Heap) (L : List Loc) : Prop := v = some (.int (3 : Int32)) ∧ Fr n0 L ∧ Keep h0 h [a2] ∧ Arv Z h a2 k4 .byte (3 : Int32) [(.int (50 : Int32)), (.int (111 : Int32)), (.int (112 : Int32))] (.int (0 : Int32))
set_option maxRecDepth 65536 in
set_option maxHeartbeats 40000000 in
theorem rm5_1 (l : Launch) (Z : State) (a0 : Array Value) (hw : ∀ d ∈ tables_1, d.before a0 Z = true) (ws : List Jvm.Cond) (a1 : Addr) (a2 : Addr) (k3 : ClassId) (k4 : ClassId) (h0 : Heap) (n0 : Nat) (O0 : Old Z n0 h0) (P1 : Arv Z h0 a1 k3 .char (3 : Int32) [(.int (50 : Int32)), (.int (111 : Int32)), (.int (112 : Int32))] (.int (0 : Int32))) (P2 : Arv Z h0 a2 k4 .byte (3 : Int32) [(.int (0 : Int32)), (.int (0 : Int32)), (.int (0 : Int32))] (.int (0 : Int32))) (P3 : n0 ≤ a2) (P4 : a1 ≠ a2) :
    MetFree l (⟨"java/lang/StringUTF16", "compress", "([CI[BII)I"⟩ : MethodName) (head1 (Jvm.Cond.code (⟨"java/lang/StringUTF16", "compress", "([CI[BII)I"⟩ : MethodName) jdk_52_method_21_code 7 (some .int) :: ws) ({ frames := 0, cells := 0, slots := 0, locals := 0 } : Room)) (fun a U => a = #[(.ref a1), (.int (0 : Int32)), (.ref a2), (.int (0 : Int32)), (.int (3 : Int32))] ∧ Z.Warmed39 U.vm ∧ U.heap = h0) (fun _ _ _ _ _ => True) (fun _ U o U' => ∃ v L, o = .returned v ∧ Q_rm5_1 Z a1 a2 k3 k4 h0 n0 v U'.heap L ∧ FrameEnd U o U' L ({ frames := 0, cells := 0, slots := 0, locals := 0 } : Room).cells ({ frames := 0, cells := 0, slots := 0, locals := 0 } : Room).slots) := by
  refine MetFree.of_bodySF (plainFor_of_name pn_0) hisR ?_
  intro p e s m args below meth c s₁ Bd hml0 hP hK
  obtain ⟨rfl, hZ, hh⟩ := hP
  have hx := Bd.exec
  have hby := Bd.bytes
  have hml : c.maxLocals = 7 := hml0
  have hown : s.vm.findClass "java/lang/StringUTF16" = some m.cls := findClass_of_methodNamed Bd.named
  have hnm := (name_of_methodNamed Bd.named Bd.method).1
  have X0 : Stand p l e ({ frames := 0, cells := 0, slots := 0, locals := 0 } : Room) s m #[(.ref a1), (.int (0 : Int32)), (.ref a2), (.int (0 : Int32)), (.int (3 : Int32))] below meth c s₁ [] 0 0 := Stand.of_body Bd
  have e0 : s₁.heap = h0 := by rw [← hh, Bd.state]; rfl
  have N0 := Fr.nil n0
  refine Go.start (P := (fun o U' => ∃ v L, o = .returned v ∧ Q_rm5_1 Z a1 a2 k3 k4 h0 n0 v U'.heap L ∧ FrameEnd s o U' L ({ frames := 0, cells := 0, slots := 0, locals := 0 } : Room).cells ({ frames := 0, cells := 0, slots := 0, locals := 0 } : Room).slots)) (castTop (g' := (mkF m 0 #[.val (.ref a1), .val (.int (0 : Int32)), .val (.ref a2), .val (.int (0 : Int32)), .val (.int (3 : Int32)), .unset, .unset] [])) (by first | rfl | simp [entryFrame, mkF, argsToLocals, Value.category]) (T := s₁)) ?_
  refine Go.st (fun t k => XS.iconst X0.here hx rfl (hb hby d5_0) k) ?_
  show Go p e below _ (s₁.setTop (mkF m 1 #[.val (.ref a1), .val (.int (0 : Int32)), .val (.ref a2), .val (.int (0 : Int32)), .val (.int (3 : Int32)), .unset, .unset] [(.int (0 : Int32))]))
  refine Go.st (fun t k => XS.istore X0.here hx rfl (hb hby d5_1) rfl (l' := #[.val (.ref a1), .val (.int (0 : Int32)), .val (.ref a2), .val (.int (0 : Int32)), .val (.int (3 : Int32)), .val (.int (0 : Int32)), .unset]) rfl k) ?_
  show Go p e below _ (s₁.setTop (mkF m 3 #[.val (.ref a1), .val (.int (0 : Int32)), .val (.ref a2), .val (.int (0 : Int32)), .val (.int (3 : Int32)), .val (.int (0 : Int32)), .unset] []))
  refine Go.st (fun t k => XS.iload X0.here hx rfl (hb hby d5_3) rfl k) ?_
  show Go p e below _ (s₁.setTop (mkF m 5 #[.val (.ref a1), .val (.int (0 : Int32)), .val (.ref a2), .val (.int (0 : Int32)), .val (.int (3 : Int32)), .val (.int (0 : Int32)), .unset] [(.int (0 : Int32))]))
  refine Go.st (fun t k => XS.iload X0.here hx rfl (hb hby d5_5) rfl k) ?_
  show Go p e below _ (s₁.setTop (mkF m 7 #[.val (.ref a1), .val (.int (0 : Int32)), .val (.ref a2), .val (.int (0 : Int32)), .val (.int (3 : Int32)), .val (.int (0 : Int32)), .unset] [(.int (3 : Int32)), (.int (0 : Int32))]))
  refine Go.st (fun t k => XS.icmpNo X0.here hx rfl (hb hby d5_7) rfl (Jvm.Free.XT.ii_ge_f (by decide : (0 : Int32) < (3 : Int32))) k) ?_
  show Go p e below _ (s₁.setTop (mkF m 10 #[.val (.ref a1), .val (.int (0 : Int32)), .val (.ref a2), .val (.int (0 : Int32)), .val (.int (3 : Int32)), .val (.int (0 : Int32)), .unset] []))
  refine Go.st (fun t k => XS.aloadN X0.here hx rfl (hb hby d5_10) rfl rfl k) ?_
  show Go p e below _ (s₁.setTop (mkF m 11 #[.val (.ref a1), .val (.int (0 : Int32)), .val (.ref a2), .val (.int (0 : Int32)), .val (.int (3 : Int32)), .val (.int (0 : Int32)), .unset] [(.ref a1)]))
  refine Go.st (fun t k => XS.iloadN X0.here hx rfl (hb hby d5_11) rfl k) ?_
  show Go p e below _ (s₁.setTop (mkF m 12 #[.val (.ref a1), .val (.int (0 : Int32)), .val (.ref a2), .val (.int (0 : Int32)), .val (.int (3 : Int32)), .val (.int (0 : Int32)), .unset] [(.int (0 : Int32)), (.ref a1)]))
  obtain ⟨cl1, Ar1, q1, S1, M1, H1, G1⟩ := id P1
  have hin1 : ¬ ((0 : Int32) < 0 ∨ cl1.slots.size ≤ ((0 : Int32)).toNatClampNeg) := inb_of S1 ⟨by decide, by decide⟩
  have hat1 : cl1.slots[((0 : Int32)).toNatClampNeg]? = some (.int (50 : Int32)) := H1.at hin1 rfl
  refine Go.st (fun t k => X0.caload hx (j := (0 : Int32)) (v := (.int (50 : Int32))) (by rw [e0]; exact Ar1.1) (State.isArrayOf_alike hZ.alike Ar1.2.1) Ar1.2.2 hin1 hat1 (g := (mkF m 12 #[.val (.ref a1), .val (.int (0 : Int32)), .val (.ref a2), .val (.int (0 : Int32)), .val (.int (3 : Int32)), .val (.int (0 : Int32)), .unset] [(.int (0 : Int32)), (.ref a1)])) rfl rfl (hb hby d5_12) t k) ?_
  show Go p e below _ (s₁.setTop (mkF m 13 #[.val (.ref a1), .val (.int (0 : Int32)), .val (.ref a2), .val (.int (0 : Int32)), .val (.int (3 : Int32)), .val (.int (0 : Int32)), .unset] [(.int (50 : Int32))]))
  refine Go.st (fun t k => XS.istore X0.here hx rfl (hb hby d5_13) rfl (l' := #[.val (.ref a1), .val (.int (0 : Int32)), .val (.ref a2), .val (.int (0 : Int32)), .val (.int (3 : Int32)), .val (.int (0 : Int32)), .val (.int (50 : Int32))]) rfl k) ?_
  show Go p e below _ (s₁.setTop (mkF m 15 #[.val (.ref a1), .val (.int (0 : Int32)), .val (.ref a2), .val (.int (0 : Int32)), .val (.int (3 : Int32)), .val (.int (0 : Int32)), .val (.int (50 : Int32))] []))
  refine Go.st (fun t k => XS.iload X0.here hx rfl (hb hby d5_15) rfl k) ?_
  show Go p e below _ (s₁.setTop (mkF m 17 #[.val (.ref a1), .val (.int (0 : Int32)), .val (.ref a2), .val (.int (0 : Int32)), .val (.int (3 : Int32)), .val (.int (0 : Int32)), .val (.int (50 : Int32))] [(.int (50 : Int32))]))
  refine Go.st (fun t k => XS.sipush X0.here hx rfl (hb hby d5_17) k) ?_
  show Go p e below _ (s₁.setTop (mkF m 20 #[.val (.ref a1), .val (.int (0 : Int32)), .val (.ref a2), .val (.int (0 : Int32)), .val (.int (3 : Int32)), .val (.int (0 : Int32)), .val (.int (50 : Int32))] [(.int (255 : Int32)), (.int (50 : Int32))]))
  refine Go.st (fun t k => XS.icmpYes X0.here hx rfl (pc0 := 20) (pc' := 26) rfl (hb hby d5_20) rfl (Jvm.Free.XT.ii_le_t (by decide : ¬ ((255 : Int32) < (50 : Int32)))) (by decide) (by decide) k) ?_
  show Go p e below _ (s₁.setTop (mkF m 26 #[.val (.ref a1), .val (.int (0 : Int32)), .val (.ref a2), .val (.int (0 : Int32)), .val (.int (3 : Int32)), .val (.int (0 : Int32)), .val (.int (50 : Int32))] []))
  refine Go.st (fun t k => XS.aloadN X0.here hx rfl (hb hby d5_26) rfl rfl k) ?_
  show Go p e below _ (s₁.setTop (mkF m 27 #[.val (.ref a1), .val (.int (0 : Int32)), .val (.ref a2), .val (.int (0 : Int32)), .val (.int (3 : Int32)), .val (.int (0 : Int32)), .val (.int (50 : Int32))] [(.ref a2)]))
  refine Go.st (fun t k => XS.iloadN X0.here hx rfl (hb hby d5_27) rfl k) ?_
  show Go p e below _ (s₁.setTop (mkF m 28 #[.val (.ref a1), .val (.int (0 : Int32)), .val (.ref a2), .val (.int (0 : Int32)), .val (.int (3 : Int32)), .val (.int (0 : Int32)), .val (.int (50 : Int32))] [(.int (0 : Int32)), (.ref a2)]))
  refine Go.st (fun t k => XS.iload X0.here hx rfl (hb hby d5_28) rfl k) ?_
  show Go p e below _ (s₁.setTop (mkF m 30 #[.val (.ref a1), .val (.int (0 : Int32)), .val (.ref a2), .val (.int (0 : Int32)), .val (.int (3 : Int32)), .val (.int (0 : Int32)), .val (.int (50 : Int32))] [(.int (50 : Int32)), (.int (0 : Int32)), (.ref a2)]))
  refine Go.st (fun t k => XS.i2b X0.here hx rfl (hb hby d5_30) rfl k) ?_
  show Go p e below _ (s₁.setTop (mkF m 31 #[.val (.ref a1), .val (.int (0 : Int32)), .val (.ref a2), .val (.int (0 : Int32)), .val (.int (3 : Int32)), .val (.int (0 : Int32)), .val (.int (50 : Int32))] [(.int (50 : Int32)), (.int (0 : Int32)), (.ref a2)]))
  obtain ⟨cl2, Ar2, q2, S2, M2, H2, G2⟩ := id P2
  have hin2 : ¬ ((0 : Int32) < 0 ∨ cl2.slots.size ≤ ((0 : Int32)).toNatClampNeg) := inb_of S2 ⟨by decide, by decide⟩
  obtain ⟨T2, h2, X2, e2, W2, st2⟩ := stB X0 hx hZ e0 Ar2 (j := (0 : Int32)) hin2 (g := (mkF m 31 #[.val (.ref a1), .val (.int (0 : Int32)), .val (.ref a2), .val (.int (0 : Int32)), .val (.int (3 : Int32)), .val (.int (0 : Int32)), .val (.int (50 : Int32))] [(.int (50 : Int32)), (.int (0 : Int32)), (.ref a2)])) rfl rfl (hb hby d5_31)
  have V2 : Arv Z h2 a2 k4 .byte (3 : Int32) [(.int (50 : Int32)), (.int (0 : Int32)), (.int (0 : Int32))] (.int (0 : Int32)) := Arv.set Ar2 q2 S2 M2 H2 G2 (by decide) W2 0 rfl (Nat.le_of_ble_eq_true rfl)
  have N2 := Fr.snoc X2 N0 P3
  have O2 : Old Z n0 h2 := O0.wr W2 P3
  have K2 : Keep h0 h2 [a2] := (Keep.refl h0 [a2]).wr W2 (Or.inl (List.mem_of_getElem? (i := 0) rfl))
  refine Go.st st2 ?_
  show Go p e below _ (T2.setTop (mkF m 32 #[.val (.ref a1), .val (.int (0 : Int32)), .val (.ref a2), .val (.int (0 : Int32)), .val (.int (3 : Int32)), .val (.int (0 : Int32)), .val (.int (50 : Int32))] []))
  refine Go.st (fun t k => XS.iinc X2.here hx rfl (hb hby d5_32) rfl (l' := #[.val (.ref a1), .val (.int (1 : Int32)), .val (.ref a2), .val (.int (0 : Int32)), .val (.int (3 : Int32)), .val (.int (0 : Int32)), .val (.int (50 : Int32))]) rfl k) ?_
  show Go p e below _ (T2.setTop (mkF m 35 #[.val (.ref a1), .val (.int (1 : Int32)), .val (.ref a2), .val (.int (0 : Int32)), .val (.int (3 : Int32)), .val (.int (0 : Int32)), .val (.int (50 : Int32))] []))
  refine Go.st (fun t k => XS.iinc X2.here hx rfl (hb hby d5_35) rfl (l' := #[.val (.ref a1), .val (.int (1 : Int32)), .val (.ref a2), .val (.int (1 : Int32)), .val (.int (3 : Int32)), .val (.int (0 : Int32)), .val (.int (50 : Int32))]) rfl k) ?_
  show Go p e below _ (T2.setTop (mkF m 38 #[.val (.ref a1), .val (.int (1 : Int32)), .val (.ref a2), .val (.int (1 : Int32)), .val (.int (3 : Int32)), .val (.int (0 : Int32)), .val (.int (50 : Int32))] []))
  refine Go.st (fun t k => XS.iinc X2.here hx rfl (hb hby d5_38) rfl (l' := #[.val (.ref a1), .val (.int (1 : Int32)), .val (.ref a2), .val (.int (1 : Int32)), .val (.int (3 : Int32)), .val (.int (1 : Int32)), .val (.int (50 : Int32))]) rfl k) ?_
  show Go p e below _ (T2.setTop (mkF m 41 #[.val (.ref a1), .val (.int (1 : Int32)), .val (.ref a2), .val (.int (1 : Int32)), .val (.int (3 : Int32)), .val (.int (1 : Int32)), .val (.int (50 : Int32))] []))
  refine Go.st (fun t k => XS.goto X2.here hx rfl (pc0 := 41) (pc' := 3) rfl (hb hby d5_41) (by decide) (by decide) k) ?_
  show Go p e below _ (T2.setTop (mkF m 3 #[.val (.ref a1), .val (.int (1 : Int32)), .val (.ref a2), .val (.int (1 : Int32)), .val (.int (3 : Int32)), .val (.int (1 : Int32)), .val (.int (50 : Int32))] []))
  refine Go.st (fun t k => XS.iload X2.here hx rfl (hb hby d5_3) rfl k) ?_
  show Go p e below _ (T2.setTop (mkF m 5 #[.val (.ref a1), .val (.int (1 : Int32)), .val (.ref a2), .val (.int (1 : Int32)), .val (.int (3 : Int32)), .val (.int (1 : Int32)), .val (.int (50 : Int32))] [(.int (1 : Int32))]))
  refine Go.st (fun t k => XS.iload X2.here hx rfl (hb hby d5_5) rfl k) ?_
  show Go p e below _ (T2.setTop (mkF m 7 #[.val (.ref a1), .val (.int (1 : Int32)), .val (.ref a2), .val (.int (1 : Int32)), .val (.int (3 : Int32)), .val (.int (1 : Int32)), .val (.int (50 : Int32))] [(.int (3 : Int32)), (.int (1 : Int32))]))
  refine Go.st (fun t k => XS.icmpNo X2.here hx rfl (hb hby d5_7) rfl (Jvm.Free.XT.ii_ge_f (by decide : (1 : Int32) < (3 : Int32))) k) ?_
  show Go p e below _ (T2.setTop (mkF m 10 #[.val (.ref a1), .val (.int (1 : Int32)), .val (.ref a2), .val (.int (1 : Int32)), .val (.int (3 : Int32)), .val (.int (1 : Int32)), .val (.int (50 : Int32))] []))
  refine Go.st (fun t k => XS.aloadN X2.here hx rfl (hb hby d5_10) rfl rfl k) ?_
  show Go p e below _ (T2.setTop (mkF m 11 #[.val (.ref a1), .val (.int (1 : Int32)), .val (.ref a2), .val (.int (1 : Int32)), .val (.int (3 : Int32)), .val (.int (1 : Int32)), .val (.int (50 : Int32))] [(.ref a1)]))
  refine Go.st (fun t k => XS.iloadN X2.here hx rfl (hb hby d5_11) rfl k) ?_
  show Go p e below _ (T2.setTop (mkF m 12 #[.val (.ref a1), .val (.int (1 : Int32)), .val (.ref a2), .val (.int (1 : Int32)), .val (.int (3 : Int32)), .val (.int (1 : Int32)), .val (.int (50 : Int32))] [(.int (1 : Int32)), (.ref a1)]))
  obtain ⟨cl3, Ar3, q3, S3, M3, H3, G3⟩ := id (P1.other W2 P4)
  have hin3 : ¬ ((1 : Int32) < 0 ∨ cl3.slots.size ≤ ((1 : Int32)).toNatClampNeg) := inb_of S3 ⟨by decide, by decide⟩
  have hat3 : cl3.slots[((1 : Int32)).toNatClampNeg]? = some (.int (111 : Int32)) := H3.at hin3 rfl
  refine Go.st (fun t k => X2.caload hx (j := (1 : Int32)) (v := (.int (111 : Int32))) (by rw [e2]; exact Ar3.1) (State.isArrayOf_alike hZ.alike Ar3.2.1) Ar3.2.2 hin3 hat3 (g := (mkF m 12 #[.val (.ref a1), .val (.int (1 : Int32)), .val (.ref a2), .val (.int (1 : Int32)), .val (.int (3 : Int32)), .val (.int (1 : Int32)), .val (.int (50 : Int32))] [(.int (1 : Int32)), (.ref a1)])) rfl rfl (hb hby d5_12) t k) ?_
  show Go p e below _ (T2.setTop (mkF m 13 #[.val (.ref a1), .val (.int (1 : Int32)), .val (.ref a2), .val (.int (1 : Int32)), .val (.int (3 : Int32)), .val (.int (1 : Int32)), .val (.int (50 : Int32))] [(.int (111 : Int32))]))
  refine Go.st (fun t k => XS.istore X2.here hx rfl (hb hby d5_13) rfl (l' := #[.val (.ref a1), .val (.int (1 : Int32)), .val (.ref a2), .val (.int (1 : Int32)), .val (.int (3 : Int32)), .val (.int (1 : Int32)), .val (.int (111 : Int32))]) rfl k) ?_
  show Go p e below _ (T2.setTop (mkF m 15 #[.val (.ref a1), .val (.int (1 : Int32)), .val (.ref a2), .val (.int (1 : Int32)), .val (.int (3 : Int32)), .val (.int (1 : Int32)), .val (.int (111 : Int32))] []))
  refine Go.st (fun t k => XS.iload X2.here hx rfl (hb hby d5_15) rfl k) ?_
  show Go p e below _ (T2.setTop (mkF m 17 #[.val (.ref a1), .val (.int (1 : Int32)), .val (.ref a2), .val (.int (1 : Int32)), .val (.int (3 : Int32)), .val (.int (1 : Int32)), .val (.int (111 : Int32))] [(.int (111 : Int32))]))
  refine Go.st (fun t k => XS.sipush X2.here hx rfl (hb hby d5_17) k) ?_
  show Go p e below _ (T2.setTop (mkF m 20 #[.val (.ref a1), .val (.int (1 : Int32)), .val (.ref a2), .val (.int (1 : Int32)), .val (.int (3 : Int32)), .val (.int (1 : Int32)), .val (.int (111 : Int32))] [(.int (255 : Int32)), (.int (111 : Int32))]))
  refine Go.st (fun t k => XS.icmpYes X2.here hx rfl (pc0 := 20) (pc' := 26) rfl (hb hby d5_20) rfl (Jvm.Free.XT.ii_le_t (by decide : ¬ ((255 : Int32) < (111 : Int32)))) (by decide) (by decide) k) ?_
  show Go p e below _ (T2.setTop (mkF m 26 #[.val (.ref a1), .val (.int (1 : Int32)), .val (.ref a2), .val (.int (1 : Int32)), .val (.int (3 : Int32)), .val (.int (1 : Int32)), .val (.int (111 : Int32))] []))
  refine Go.st (fun t k => XS.aloadN X2.here hx rfl (hb hby d5_26) rfl rfl k) ?_
  show Go p e below _ (T2.setTop (mkF m 27 #[.val (.ref a1), .val (.int (1 : Int32)), .val (.ref a2), .val (.int (1 : Int32)), .val (.int (3 : Int32)), .val (.int (1 : Int32)), .val (.int (111 : Int32))] [(.ref a2)]))
  refine Go.st (fun t k => XS.iloadN X2.here hx rfl (hb hby d5_27) rfl k) ?_
  show Go p e below _ (T2.setTop (mkF m 28 #[.val (.ref a1), .val (.int (1 : Int32)), .val (.ref a2), .val (.int (1 : Int32)), .val (.int (3 : Int32)), .val (.int (1 : Int32)), .val (.int (111 : Int32))] [(.int (1 : Int32)), (.ref a2)]))
  refine Go.st (fun t k => XS.iload X2.here hx rfl (hb hby d5_28) rfl k) ?_
  show Go p e below _ (T2.setTop (mkF m 30 #[.val (.ref a1), .val (.int (1 : Int32)), .val (.ref a2), .val (.int (1 : Int32)), .val (.int (3 : Int32)), .val (.int (1 : Int32)), .val (.int (111 : Int32))] [(.int (111 : Int32)), (.int (1 : Int32)), (.ref a2)]))
  refine Go.st (fun t k => XS.i2b X2.here hx rfl (hb hby d5_30) rfl k) ?_
  show Go p e below _ (T2.setTop (mkF m 31 #[.val (.ref a1), .val (.int (1 : Int32)), .val (.ref a2), .val (.int (1 : Int32)), .val (.int (3 : Int32)), .val (.int (1 : Int32)), .val (.int (111 : Int32))] [(.int (111 : Int32)), (.int (1 : Int32)), (.ref a2)]))
  obtain ⟨cl4, Ar4, q4, S4, M4, H4, G4⟩ := id V2
  have hin4 : ¬ ((1 : Int32) < 0 ∨ cl4.slots.size ≤ ((1 : Int32)).toNatClampNeg) := inb_of S4 ⟨by decide, by decide⟩
  obtain ⟨T4, h4, X4, e4, W4, st4⟩ := stB X2 hx hZ e2 Ar4 (j := (1 : Int32)) hin4 (g := (mkF m 31 #[.val (.ref a1), .val (.int (1 : Int32)), .val (.ref a2), .val (.int (1 : Int32)), .val (.int (3 : Int32)), .val (.int (1 : Int32)), .val (.int (111 : Int32))] [(.int (111 : Int32)), (.int (1 : Int32)), (.ref a2)])) rfl rfl (hb hby d5_31)
  have V4 : Arv Z h4 a2 k4 .byte (3 : Int32) [(.int (50 : Int32)), (.int (111 : Int32)), (.int (0 : Int32))] (.int (0 : Int32)) := Arv.set Ar4 q4 S4 M4 H4 G4 (by decide) W4 1 rfl (Nat.le_of_ble_eq_true rfl)
  have N4 := Fr.snoc X4 N2 P3
  have O4 : Old Z n0 h4 := O2.wr W4 P3
  have K4 : Keep h0 h4 [a2] := K2.wr W4 (Or.inl (List.mem_of_getElem? (i := 0) rfl))
  refine Go.st st4 ?_
  show Go p e below _ (T4.setTop (mkF m 32 #[.val (.ref a1), .val (.int (1 : Int32)), .val (.ref a2), .val (.int (1 : Int32)), .val (.int (3 : Int32)), .val (.int (1 : Int32)), .val (.int (111 : Int32))] []))
  refine Go.st (fun t k => XS.iinc X4.here hx rfl (hb hby d5_32) rfl (l' := #[.val (.ref a1), .val (.int (2 : Int32)), .val (.ref a2), .val (.int (1 : Int32)), .val (.int (3 : Int32)), .val (.int (1 : Int32)), .val (.int (111 : Int32))]) rfl k) ?_
  show Go p e below _ (T4.setTop (mkF m 35 #[.val (.ref a1), .val (.int (2 : Int32)), .val (.ref a2), .val (.int (1 : Int32)), .val (.int (3 : Int32)), .val (.int (1 : Int32)), .val (.int (111 : Int32))] []))
  refine Go.st (fun t k => XS.iinc X4.here hx rfl (hb hby d5_35) rfl (l' := #[.val (.ref a1), .val (.int (2 : Int32)), .val (.ref a2), .val (.int (2 : Int32)), .val (.int (3 : Int32)), .val (.int (1 : Int32)), .val (.int (111 : Int32))]) rfl k) ?_
  show Go p e below _ (T4.setTop (mkF m 38 #[.val (.ref a1), .val (.int (2 : Int32)), .val (.ref a2), .val (.int (2 : Int32)), .val (.int (3 : Int32)), .val (.int (1 : Int32)), .val (.int (111 : Int32))] []))
  refine Go.st (fun t k => XS.iinc X4.here hx rfl (hb hby d5_38) rfl (l' := #[.val (.ref a1), .val (.int (2 : Int32)), .val (.ref a2), .val (.int (2 : Int32)), .val (.int (3 : Int32)), .val (.int (2 : Int32)), .val (.int (111 : Int32))]) rfl k) ?_
  show Go p e below _ (T4.setTop (mkF m 41 #[.val (.ref a1), .val (.int (2 : Int32)), .val (.ref a2), .val (.int (2 : Int32)), .val (.int (3 : Int32)), .val (.int (2 : Int32)), .val (.int (111 : Int32))] []))
  refine Go.st (fun t k => XS.goto X4.here hx rfl (pc0 := 41) (pc' := 3) rfl (hb hby d5_41) (by decide) (by decide) k) ?_
  show Go p e below _ (T4.setTop (mkF m 3 #[.val (.ref a1), .val (.int (2 : Int32)), .val (.ref a2), .val (.int (2 : Int32)), .val (.int (3 : Int32)), .val (.int (2 : Int32)), .val (.int (111 : Int32))] []))
  refine Go.st (fun t k => XS.iload X4.here hx rfl (hb hby d5_3) rfl k) ?_
  show Go p e below _ (T4.setTop (mkF m 5 #[.val (.ref a1), .val (.int (2 : Int32)), .val (.ref a2), .val (.int (2 : Int32)), .val (.int (3 : Int32)), .val (.int (2 : Int32)), .val (.int (111 : Int32))] [(.int (2 : Int32))]))
  refine Go.st (fun t k => XS.iload X4.here hx rfl (hb hby d5_5) rfl k) ?_
  show Go p e below _ (T4.setTop (mkF m 7 #[.val (.ref a1), .val (.int (2 : Int32)), .val (.ref a2), .val (.int (2 : Int32)), .val (.int (3 : Int32)), .val (.int (2 : Int32)), .val (.int (111 : Int32))] [(.int (3 : Int32)), (.int (2 : Int32))]))
  refine Go.st (fun t k => XS.icmpNo X4.here hx rfl (hb hby d5_7) rfl (Jvm.Free.XT.ii_ge_f (by decide : (2 : Int32) < (3 : Int32))) k) ?_
  show Go p e below _ (T4.setTop (mkF m 10 #[.val (.ref a1), .val (.int (2 : Int32)), .val (.ref a2), .val (.int (2 : Int32)), .val (.int (3 : Int32)), .val (.int (2 : Int32)), .val (.int (111 : Int32))] []))
  refine Go.st (fun t k => XS.aloadN X4.here hx rfl (hb hby d5_10) rfl rfl k) ?_
  show Go p e below _ (T4.setTop (mkF m 11 #[.val (.ref a1), .val (.int (2 : Int32)), .val (.ref a2), .val (.int (2 : Int32)), .val (.int (3 : Int32)), .val (.int (2 : Int32)), .val (.int (111 : Int32))] [(.ref a1)]))
  refine Go.st (fun t k => XS.iloadN X4.here hx rfl (hb hby d5_11) rfl k) ?_
  show Go p e below _ (T4.setTop (mkF m 12 #[.val (.ref a1), .val (.int (2 : Int32)), .val (.ref a2), .val (.int (2 : Int32)), .val (.int (3 : Int32)), .val (.int (2 : Int32)), .val (.int (111 : Int32))] [(.int (2 : Int32)), (.ref a1)]))
  obtain ⟨cl5, Ar5, q5, S5, M5, H5, G5⟩ := id ((P1.other W2 P4).other W4 P4)
  have hin5 : ¬ ((2 : Int32) < 0 ∨ cl5.slots.size ≤ ((2 : Int32)).toNatClampNeg) := inb_of S5 ⟨by decide, by decide⟩
  have hat5 : cl5.slots[((2 : Int32)).toNatClampNeg]? = some (.int (112 : Int32)) := H5.at hin5 rfl
  refine Go.st (fun t k => X4.caload hx (j := (2 : Int32)) (v := (.int (112 : Int32))) (by rw [e4]; exact Ar5.1) (State.isArrayOf_alike hZ.alike Ar5.2.1) Ar5.2.2 hin5 hat5 (g := (mkF m 12 #[.val (.ref a1), .val (.int (2 : Int32)), .val (.ref a2), .val (.int (2 : Int32)), .val (.int (3 : Int32)), .val (.int (2 : Int32)), .val (.int (111 : Int32))] [(.int (2 : Int32)), (.ref a1)])) rfl rfl (hb hby d5_12) t k) ?_
  show Go p e below _ (T4.setTop (mkF m 13 #[.val (.ref a1), .val (.int (2 : Int32)), .val (.ref a2), .val (.int (2 : Int32)), .val (.int (3 : Int32)), .val (.int (2 : Int32)), .val (.int (111 : Int32))] [(.int (112 : Int32))]))
  refine Go.st (fun t k => XS.istore X4.here hx rfl (hb hby d5_13) rfl (l' := #[.val (.ref a1), .val (.int (2 : Int32)), .val (.ref a2), .val (.int (2 : Int32)), .val (.int (3 : Int32)), .val (.int (2 : Int32)), .val (.int (112 : Int32))]) rfl k) ?_
  show Go p e below _ (T4.setTop (mkF m 15 #[.val (.ref a1), .val (.int (2 : Int32)), .val (.ref a2), .val (.int (2 : Int32)), .val (.int (3 : Int32)), .val (.int (2 : Int32)), .val (.int (112 : Int32))] []))
  refine Go.st (fun t k => XS.iload X4.here hx rfl (hb hby d5_15) rfl k) ?_
  show Go p e below _ (T4.setTop (mkF m 17 #[.val (.ref a1), .val (.int (2 : Int32)), .val (.ref a2), .val (.int (2 : Int32)), .val (.int (3 : Int32)), .val (.int (2 : Int32)), .val (.int (112 : Int32))] [(.int (112 : Int32))]))
  refine Go.st (fun t k => XS.sipush X4.here hx rfl (hb hby d5_17) k) ?_
  show Go p e below _ (T4.setTop (mkF m 20 #[.val (.ref a1), .val (.int (2 : Int32)), .val (.ref a2), .val (.int (2 : Int32)), .val (.int (3 : Int32)), .val (.int (2 : Int32)), .val (.int (112 : Int32))] [(.int (255 : Int32)), (.int (112 : Int32))]))
  refine Go.st (fun t k => XS.icmpYes X4.here hx rfl (pc0 := 20) (pc' := 26) rfl (hb hby d5_20) rfl (Jvm.Free.XT.ii_le_t (by decide : ¬ ((255 : Int32) < (112 : Int32)))) (by decide) (by decide) k) ?_
  show Go p e below _ (T4.setTop (mkF m 26 #[.val (.ref a1), .val (.int (2 : Int32)), .val (.ref a2), .val (.int (2 : Int32)), .val (.int (3 : Int32)), .val (.int (2 : Int32)), .val (.int (112 : Int32))] []))
  refine Go.st (fun t k => XS.aloadN X4.here hx rfl (hb hby d5_26) rfl rfl k) ?_
  show Go p e below _ (T4.setTop (mkF m 27 #[.val (.ref a1), .val (.int (2 : Int32)), .val (.ref a2), .val (.int (2 : Int32)), .val (.int (3 : Int32)), .val (.int (2 : Int32)), .val (.int (112 : Int32))] [(.ref a2)]))
  refine Go.st (fun t k => XS.iloadN X4.here hx rfl (hb hby d5_27) rfl k) ?_
  show Go p e below _ (T4.setTop (mkF m 28 #[.val (.ref a1), .val (.int (2 : Int32)), .val (.ref a2), .val (.int (2 : Int32)), .val (.int (3 : Int32)), .val (.int (2 : Int32)), .val (.int (112 : Int32))] [(.int (2 : Int32)), (.ref a2)]))
  refine Go.st (fun t k => XS.iload X4.here hx rfl (hb hby d5_28) rfl k) ?_
  show Go p e below _ (T4.setTop (mkF m 30 #[.val (.ref a1), .val (.int (2 : Int32)), .val (.ref a2), .val (.int (2 : Int32)), .val (.int (3 : Int32)), .val (.int (2 : Int32)), .val (.int (112 : Int32))] [(.int (112 : Int32)), (.int (2 : Int32)), (.ref a2)]))
  refine Go.st (fun t k => XS.i2b X4.here hx rfl (hb hby d5_30) rfl k) ?_
  show Go p e below _ (T4.setTop (mkF m 31 #[.val (.ref a1), .val (.int (2 : Int32)), .val (.ref a2), .val (.int (2 : Int32)), .val (.int (3 : Int32)), .val (.int (2 : Int32)), .val (.int (112 : Int32))] [(.int (112 : Int32)), (.int (2 : Int32)), (.ref a2)]))
  obtain ⟨cl6, Ar6, q6, S6, M6, H6, G6⟩ := id V4
  have hin6 : ¬ ((2 : Int32) < 0 ∨ cl6.slots.size ≤ ((2 : Int32)).toNatClampNeg) := inb_of S6 ⟨by decide, by decide⟩
  obtain ⟨T6, h6, X6, e6, W6, st6⟩ := stB X4 hx hZ e4 Ar6 (j := (2 : Int32)) hin6 (g := (mkF m 31 #[.val (.ref a1), .val (.int (2 : Int32)), .val (.ref a2), .val (.int (2 : Int32)), .val (.int (3 : Int32)), .val (.int (2 : Int32)), .val (.int (112 : Int32))] [(.int (112 : Int32)), (.int (2 : Int32)), (.ref a2)])) rfl rfl (hb hby d5_31)
  have V6 : Arv Z h6 a2 k4 .byte (3 : Int32) [(.int (50 : Int32)), (.int (111 : Int32)), (.int (112 : Int32))] (.int (0 : Int32)) := Arv.set Ar6 q6 S6 M6 H6 G6 (by decide) W6 2 rfl (Nat.le_of_ble_eq_true rfl)
  have N6 := Fr.snoc X6 N4 P3
  have O6 : Old Z n0 h6 := O4.wr W6 P3
  have K6 : Keep h0 h6 [a2] := K4.wr W6 (Or.inl (List.mem_of_getElem? (i := 0) rfl))
  refine Go.st st6 ?_
  show Go p e below _ (T6.setTop (mkF m 32 #[.val (.ref a1), .val (.int (2 : Int32)), .val (.ref a2), .val (.int (2 : Int32)), .val (.int (3 : Int32)), .val (.int (2 : Int32)), .val (.int (112 : Int32))] []))
  refine Go.st (fun t k => XS.iinc X6.here hx rfl (hb hby d5_32) rfl (l' := #[.val (.ref a1), .val (.int (3 : Int32)), .val (.ref a2), .val (.int (2 : Int32)), .val (.int (3 : Int32)), .val (.int (2 : Int32)), .val (.int (112 : Int32))]) rfl k) ?_
  show Go p e below _ (T6.setTop (mkF m 35 #[.val (.ref a1), .val (.int (3 : Int32)), .val (.ref a2), .val (.int (2 : Int32)), .val (.int (3 : Int32)), .val (.int (2 : Int32)), .val (.int (112 : Int32))] []))
  refine Go.st (fun t k => XS.iinc X6.here hx rfl (hb hby d5_35) rfl (l' := #[.val (.ref a1), .val (.int (3 : Int32)), .val (.ref a2), .val (.int (3 : Int32)), .val (.int (3 : Int32)), .val (.int (2 : Int32)), .val (.int (112 : Int32))]) rfl k) ?_
  show Go p e below _ (T6.setTop (mkF m 38 #[.val (.ref a1), .val (.int (3 : Int32)), .val (.ref a2), .val (.int (3 : Int32)), .val (.int (3 : Int32)), .val (.int (2 : Int32)), .val (.int (112 : Int32))] []))
  refine Go.st (fun t k => XS.iinc X6.here hx rfl (hb hby d5_38) rfl (l' := #[.val (.ref a1), .val (.int (3 : Int32)), .val (.ref a2), .val (.int (3 : Int32)), .val (.int (3 : Int32)), .val (.int (3 : Int32)), .val (.int (112 : Int32))]) rfl k) ?_
  show Go p e below _ (T6.setTop (mkF m 41 #[.val (.ref a1), .val (.int (3 : Int32)), .val (.ref a2), .val (.int (3 : Int32)), .val (.int (3 : Int32)), .val (.int (3 : Int32)), .val (.int (112 : Int32))] []))
  refine Go.st (fun t k => XS.goto X6.here hx rfl (pc0 := 41) (pc' := 3) rfl (hb hby d5_41) (by decide) (by decide) k) ?_
  show Go p e below _ (T6.setTop (mkF m 3 #[.val (.ref a1), .val (.int (3 : Int32)), .val (.ref a2), .val (.int (3 : Int32)), .val (.int (3 : Int32)), .val (.int (3 : Int32)), .val (.int (112 : Int32))] []))
  refine Go.st (fun t k => XS.iload X6.here hx rfl (hb hby d5_3) rfl k) ?_
  show Go p e below _ (T6.setTop (mkF m 5 #[.val (.ref a1), .val (.int (3 : Int32)), .val (.ref a2), .val (.int (3 : Int32)), .val (.int (3 : Int32)), .val (.int (3 : Int32)), .val (.int (112 : Int32))] [(.int (3 : Int32))]))
  refine Go.st (fun t k => XS.iload X6.here hx rfl (hb hby d5_5) rfl k) ?_
  show Go p e below _ (T6.setTop (mkF m 7 #[.val (.ref a1), .val (.int (3 : Int32)), .val (.ref a2), .val (.int (3 : Int32)), .val (.int (3 : Int32)), .val (.int (3 : Int32)), .val (.int (112 : Int32))] [(.int (3 : Int32)), (.int (3 : Int32))]))
  refine Go.st (fun t k => XS.icmpYes X6.here hx rfl (pc0 := 7) (pc' := 44) rfl (hb hby d5_7) rfl (Jvm.Free.XT.ii_ge_t (by decide : ¬ ((3 : Int32) < (3 : Int32)))) (by decide) (by decide) k) ?_
  show Go p e below _ (T6.setTop (mkF m 44 #[.val (.ref a1), .val (.int (3 : Int32)), .val (.ref a2), .val (.int (3 : Int32)), .val (.int (3 : Int32)), .val (.int (3 : Int32)), .val (.int (112 : Int32))] []))
  refine Go.st (fun t k => XS.iload X6.here hx rfl (hb hby d5_44) rfl k) ?_
  show Go p e below _ (T6.setTop (mkF m 46 #[.val (.ref a1), .val (.int (3 : Int32)), .val (.ref a2), .val (.int (3 : Int32)), .val (.int (3 : Int32)), .val (.int (3 : Int32)), .val (.int (112 : Int32))] [(.int (3 : Int32))]))
  obtain ⟨fs, hr, hrun, hended, hWd, hsame⟩ := X6.leave (v := some (.int (3 : Int32))) (fun h => by rw [Bd.returns] at h; cases h)
  refine ⟨_, _, ?_, hrun, hended, _, _, rfl, ?_, ⟨⟨_, rfl⟩, hWd, hsame.mono (by decide) (by decide)⟩⟩
  · exact retI X6 hx Bd.returns (hb hby d5_46) hr
  · show Q_rm5_1 Z a1 a2 k3 k4 h0 n0 _ T6.heap _
    rw [e6]
    exact ⟨rfl, N6, K6, V6⟩
def Q_rm4_1 (Z : State) (a1 : Addr) (k2 : ClassId) (h0 : Heap) (n0 : Nat) (v : Option Value) (h : Heap) (L : List Loc) : Prop := ∃ (b1 : Addr) (k1 : ClassId), v = some (.ref b1) ∧ Fr n0 L ∧ Keep h0 h [] ∧ h0.size ≤ b1 ∧ Arv Z h b1 k1 .byte (3 : Int32) [(.int (50 : Int32)), (.int (111 : Int32)), (.int (112 : Int32))] (.int (0 : Int32))
set_option maxRecDepth 65536 in
set_option maxHeartbeats 40000000 in
theorem rm4_1 (l : Launch) (Z : State) (a0 : Array Value) (hw : ∀ d ∈ tables_1, d.before a0 Z = true) (ws : List Jvm.Cond) (a1 : Addr) (k2 : ClassId) (h0 : Heap) (n0 : Nat) (O0 : Old Z n0 h0) (P1 : Arv Z h0 a1 k2 .char (3 : Int32) [(.int (50 : Int32)), (.int (111 : Int32)), (.int (112 : Int32))] (.int (0 : Int32))) :
    MetFree l (⟨"java/lang/StringUTF16", "compress", "([CII)[B"⟩ : MethodName) (head1 (Jvm.Cond.code (⟨"java/lang/StringUTF16", "compress", "([CII)[B"⟩ : MethodName) jdk_52_method_16_code 6 (some (.array .byte)) :: ws) ({ frames := 1, cells := 1, slots := 3, locals := 18 } : Room)) (fun a U => a = #[(.ref a1), (.int (0 : Int32)), (.int (3 : Int32))] ∧ Z.Warmed39 U.vm ∧ U.heap = h0) (fun _ _ _ _ _ => True) (fun _ U o U' => ∃ v L, o = .returned v ∧ Q_rm4_1 Z a1 k2 h0 n0 v U'.heap L ∧ FrameEnd U o U' L ({ frames := 1, cells := 1, slots := 3, locals := 18 } : Room).cells ({ frames := 1, cells := 1, slots := 3, locals := 18 } : Room).slots) := by
  refine MetFree.of_bodySF (plainFor_of_name pn_0) hisR ?_
  intro p e s m args below meth c s₁ Bd hml0 hP hK
  obtain ⟨rfl, hZ, hh⟩ := hP
  have hx := Bd.exec
  have hby := Bd.bytes
  have hml : c.maxLocals = 6 := hml0
  have hown : s.vm.findClass "java/lang/StringUTF16" = some m.cls := findClass_of_methodNamed Bd.named
  have hnm := (name_of_methodNamed Bd.named Bd.method).1
  have X0 : Stand p l e ({ frames := 1, cells := 1, slots := 3, locals := 18 } : Room) s m #[(.ref a1), (.int (0 : Int32)), (.int (3 : Int32))] below meth c s₁ [] 0 0 := Stand.of_body Bd
  have e0 : s₁.heap = h0 := by rw [← hh, Bd.state]; rfl
  have N0 := Fr.nil n0
  refine Go.start (P := (fun o U' => ∃ v L, o = .returned v ∧ Q_rm4_1 Z a1 k2 h0 n0 v U'.heap L ∧ FrameEnd s o U' L ({ frames := 1, cells := 1, slots := 3, locals := 18 } : Room).cells ({ frames := 1, cells := 1, slots := 3, locals := 18 } : Room).slots)) (castTop (g' := (mkF m 0 #[.val (.ref a1), .val (.int (0 : Int32)), .val (.int (3 : Int32)), .unset, .unset, .unset] [])) (by first | rfl | simp [entryFrame, mkF, argsToLocals, Value.category]) (T := s₁)) ?_
  refine Go.st (fun t k => XS.iloadN X0.here hx rfl (hb hby d4_0) rfl k) ?_
  show Go p e below _ (s₁.setTop (mkF m 1 #[.val (.ref a1), .val (.int (0 : Int32)), .val (.int (3 : Int32)), .unset, .unset, .unset] [(.int (3 : Int32))]))
  obtain ⟨T1, h1, k1, X1, e1, E1, A1, st1⟩ := newP X0 hx hZ (aty := .byte) (w19 hw) e0 (g := (mkF m 1 #[.val (.ref a1), .val (.int (0 : Int32)), .val (.int (3 : Int32)), .unset, .unset, .unset] [(.int (3 : Int32))])) rfl (hb hby d4_1) rfl (by decide) (cap := 3) (by decide) (by decide) (by decide) (by decide)
  obtain ⟨b1, z1⟩ : ∃ z, z = h0.size := ⟨_, rfl⟩
  rw [← z1] at A1 st1
  have g_b1 : n0 ≤ b1 := Nat.le_trans (own_n0 O0) (Nat.le_of_eq z1.symm)
  have s_b1 : h0.size ≤ b1 := Nat.le_trans (Keep.refl h0 []).1 (Nat.le_of_eq z1.symm)
  have V1 : Arv Z h1 b1 k1 .byte (3 : Int32) [(.int (0 : Int32)), (.int (0 : Int32)), (.int (0 : Int32))] (.int (0 : Int32)) := (Arv.new A1 (by decide)).pad (pad_rep [] (.int (0 : Int32)) 3)
  have O1 : Old Z n0 h1 := O0.ext E1
  have K1 : Keep h0 h1 [] := (Keep.refl h0 []).ext E1
  refine Go.st st1 ?_
  show Go p e below _ (T1.setTop (mkF m 3 #[.val (.ref a1), .val (.int (0 : Int32)), .val (.int (3 : Int32)), .unset, .unset, .unset] [(.ref b1)]))
  refine Go.st (fun t k => XS.astoreN X1.here hx rfl (hb hby d4_3) rfl rfl (l' := #[.val (.ref a1), .val (.int (0 : Int32)), .val (.int (3 : Int32)), .val (.ref b1), .unset, .unset]) rfl k) ?_
  show Go p e below _ (T1.setTop (mkF m 4 #[.val (.ref a1), .val (.int (0 : Int32)), .val (.int (3 : Int32)), .val (.ref b1), .unset, .unset] []))
  refine Go.st (fun t k => XS.aloadN X1.here hx rfl (hb hby d4_4) rfl rfl k) ?_
  show Go p e below _ (T1.setTop (mkF m 5 #[.val (.ref a1), .val (.int (0 : Int32)), .val (.int (3 : Int32)), .val (.ref b1), .unset, .unset] [(.ref a1)]))
  refine Go.st (fun t k => XS.iloadN X1.here hx rfl (hb hby d4_5) rfl k) ?_
  show Go p e below _ (T1.setTop (mkF m 6 #[.val (.ref a1), .val (.int (0 : Int32)), .val (.int (3 : Int32)), .val (.ref b1), .unset, .unset] [(.int (0 : Int32)), (.ref a1)]))
  refine Go.st (fun t k => XS.aloadN X1.here hx rfl (hb hby d4_6) rfl rfl k) ?_
  show Go p e below _ (T1.setTop (mkF m 7 #[.val (.ref a1), .val (.int (0 : Int32)), .val (.int (3 : Int32)), .val (.ref b1), .unset, .unset] [(.ref b1), (.int (0 : Int32)), (.ref a1)]))
  refine Go.st (fun t k => XS.iconst X1.here hx rfl (hb hby d4_7) k) ?_
  show Go p e below _ (T1.setTop (mkF m 8 #[.val (.ref a1), .val (.int (0 : Int32)), .val (.int (3 : Int32)), .val (.ref b1), .unset, .unset] [(.int (0 : Int32)), (.ref b1), (.int (0 : Int32)), (.ref a1)]))
  refine Go.st (fun t k => XS.iloadN X1.here hx rfl (hb hby d4_8) rfl k) ?_
  show Go p e below _ (T1.setTop (mkF m 9 #[.val (.ref a1), .val (.int (0 : Int32)), .val (.int (3 : Int32)), .val (.ref b1), .unset, .unset] [(.int (3 : Int32)), (.int (0 : Int32)), (.ref b1), (.int (0 : Int32)), (.ref a1)]))
  obtain ⟨_, _, ⟨T2, L2, k2, n2⟩, -, X2, ⟨Lc2, hQ2, l2, y2, z2⟩, st2⟩ := Jvm.LawKit.callS X1 hx (y := (⟨"java/lang/StringUTF16", "compress", "([CI[BII)I"⟩ : MethodName)) hown (mvT hZ (w20 hw)) (mvT hZ (w21 hw)) (mvT hZ (w17 hw)) (mvT hZ (w22 hw)) (by decide) (backOf (W := 0) (rm5_1 l Z a0 hw [] a1 b1 k2 k1 h1 n0 O1 (P1.ext E1) V1 g_b1 (Nat.ne_of_lt (Nat.lt_of_lt_of_le P1.lt (Nat.le_of_eq z1.symm)))) hZ (w22 hw) (w17 hw) (by decide) (by decide)) (g := (mkF m 9 #[.val (.ref a1), .val (.int (0 : Int32)), .val (.int (3 : Int32)), .val (.ref b1), .unset, .unset] [(.int (3 : Int32)), (.int (0 : Int32)), (.ref b1), (.int (0 : Int32)), (.ref a1)])) rfl (by rw [hml]; rfl) (argsL := [(.ref a1), (.int (0 : Int32)), (.ref b1), (.int (0 : Int32)), (.int (3 : Int32))]) (rest := []) (lenOf pd_0 rfl) rfl (by show 2 * 0 + _ ≤ _; exact Nat.le_of_eq rfl) (hb hby d4_9) (fun vm₁ hw₁ => ⟨rfl, e1, (by decide : 1 + 0 ≤ _), (by decide : 3 + 0 ≤ _)⟩)
  dsimp only [Pt.U, Pt.locs, Pt.cells, Pt.slots] at X2 l2 y2 z2 st2 hQ2
  subst l2 y2 z2
  obtain ⟨rfl, M2, K2c, r2_0⟩ := hQ2
  have N2 := Fr.app N0 M2
  have O2 : Old Z n0 T2.heap := O1.keep K2c (allS g_b1 all0)
  have K2 : Keep h0 T2.heap [] := K1.trans K2c (allS (Or.inr s_b1) all0)
  refine Go.st st2 ?_
  show Go p e below _ (T2.setTop (mkF m 12 #[.val (.ref a1), .val (.int (0 : Int32)), .val (.int (3 : Int32)), .val (.ref b1), .unset, .unset] [(.int (3 : Int32))]))
  refine Go.st (fun t k => XS.istore X2.here hx rfl (hb hby d4_12) rfl (l' := #[.val (.ref a1), .val (.int (0 : Int32)), .val (.int (3 : Int32)), .val (.ref b1), .val (.int (3 : Int32)), .unset]) rfl k) ?_
  show Go p e below _ (T2.setTop (mkF m 14 #[.val (.ref a1), .val (.int (0 : Int32)), .val (.int (3 : Int32)), .val (.ref b1), .val (.int (3 : Int32)), .unset] []))
  refine Go.st (fun t k => XS.iload X2.here hx rfl (hb hby d4_14) rfl k) ?_
  show Go p e below _ (T2.setTop (mkF m 16 #[.val (.ref a1), .val (.int (0 : Int32)), .val (.int (3 : Int32)), .val (.ref b1), .val (.int (3 : Int32)), .unset] [(.int (3 : Int32))]))
  refine Go.st (fun t k => XS.iloadN X2.here hx rfl (hb hby d4_16) rfl k) ?_
  show Go p e below _ (T2.setTop (mkF m 17 #[.val (.ref a1), .val (.int (0 : Int32)), .val (.int (3 : Int32)), .val (.ref b1), .val (.int (3 : Int32)), .unset] [(.int (3 : Int32)), (.int (3 : Int32))]))
  refine Go.st (fun t k => XS.icmpYes X2.here hx rfl (pc0 := 17) (pc' := 57) rfl (hb hby d4_17) rfl (Jvm.Free.XT.ii_eq_t (by decide : (3 : Int32) = (3 : Int32))) (by decide) (by decide) k) ?_
  show Go p e below _ (T2.setTop (mkF m 57 #[.val (.ref a1), .val (.int (0 : Int32)), .val (.int (3 : Int32)), .val (.ref b1), .val (.int (3 : Int32)), .unset] []))
  refine Go.st (fun t k => XS.aloadN X2.here hx rfl (hb hby d4_57) rfl rfl k) ?_
  show Go p e below _ (T2.setTop (mkF m 58 #[.val (.ref a1), .val (.int (0 : Int32)), .val (.int (3 : Int32)), .val (.ref b1), .val (.int (3 : Int32)), .unset] [(.ref b1)]))
  obtain ⟨fs, hr, hrun, hended, hWd, hsame⟩ := X2.leave (v := some (.ref b1)) (fun h => by rw [Bd.returns] at h; cases h)
  refine ⟨_, _, ?_, hrun, hended, _, _, rfl, ?_, ⟨⟨_, rfl⟩, hWd, hsame.mono (by decide) (by decide)⟩⟩
  · exact own_retA X2 hx Bd.returns rfl rfl (hb hby d4_58) hr
  · show Q_rm4_1 Z a1 k2 h0 n0 _ T2.heap _
    exact ⟨b1, k1, rfl, N2, K2, s_b1, r2_0⟩
def Q_rm6_1 (Z : State) (a1 : Addr) (k2 : ClassId) (h0 : Heap) (n0 : Nat) (v : Option Value) (h : Heap) (L : List Loc) : Prop := v = some (.int (0 : Int32)) ∧ Fr n0 L ∧ h = h0
set_option maxRecDepth 65536 in
set_option maxHeartbeats 40000000 in
theorem rm6_1 (l : Launch) (Z : State) (a0 : Array Value) (hw : ∀ d ∈ tables_1, d.before a0 Z = true) (ws : List Jvm.Cond) (a1 : Addr) (k2 : ClassId) (h0 : Heap) (n0 : Nat) (O0 : Old Z n0 h0) (P1 : Arv Z h0 a1 k2 .byte (3 : Int32) [(.int (50 : Int32)), (.int (111 : Int32)), (.int (112 : Int32))] (.int (0 : Int32))) :
    MetFree l (⟨"java/lang/StringUTF16", "coderFromArrayLen", "([BI)B"⟩ : MethodName) (head1 (Jvm.Cond.code (⟨"java/lang/StringUTF16", "coderFromArrayLen", "([BI)B"⟩ : MethodName) jdk_52_method_15_code 2 (some .byte) :: ws) ({ frames := 0, cells := 0, slots := 0, locals := 0 } : Room)) (fun a U => a = #[(.ref a1), (.int (3 : Int32))] ∧ Z.Warmed39 U.vm ∧ U.heap = h0) (fun _ _ _ _ _ => True) (fun _ U o U' => ∃ v L, o = .returned v ∧ Q_rm6_1 Z a1 k2 h0 n0 v U'.heap L ∧ FrameEnd U o U' L ({ frames := 0, cells := 0, slots := 0, locals := 0 } : Room).cells ({ frames := 0, cells := 0, slots := 0, locals := 0 } : Room).slots) := by
  refine MetFree.of_bodySF (plainFor_of_name pn_0) hisR ?_
  intro p e s m args below meth c s₁ Bd hml0 hP hK
  obtain ⟨rfl, hZ, hh⟩ := hP
  have hx := Bd.exec
  have hby := Bd.bytes
  have hml : c.maxLocals = 2 := hml0
  have hown : s.vm.findClass "java/lang/StringUTF16" = some m.cls := findClass_of_methodNamed Bd.named
  have hnm := (name_of_methodNamed Bd.named Bd.method).1
  have X0 : Stand p l e ({ frames := 0, cells := 0, slots := 0, locals := 0 } : Room) s m #[(.ref a1), (.int (3 : Int32))] below meth c s₁ [] 0 0 := Stand.of_body Bd
  have e0 : s₁.heap = h0 := by rw [← hh, Bd.state]; rfl
  have N0 := Fr.nil n0
  refine Go.start (P := (fun o U' => ∃ v L, o = .returned v ∧ Q_rm6_1 Z a1 k2 h0 n0 v U'.heap L ∧ FrameEnd s o U' L ({ frames := 0, cells := 0, slots := 0, locals := 0 } : Room).cells ({ frames := 0, cells := 0, slots := 0, locals := 0 } : Room).slots)) (castTop (g' := (mkF m 0 #[.val (.ref a1), .val (.int (3 : Int32))] [])) (by first | rfl | simp [entryFrame, mkF, argsToLocals, Value.category]) (T := s₁)) ?_
  refine Go.st (fun t k => XS.iloadN X0.here hx rfl (hb hby d6_0) rfl k) ?_
  show Go p e below _ (s₁.setTop (mkF m 1 #[.val (.ref a1), .val (.int (3 : Int32))] [(.int (3 : Int32))]))
  refine Go.st (fun t k => XS.aloadN X0.here hx rfl (hb hby d6_1) rfl rfl k) ?_
  show Go p e below _ (s₁.setTop (mkF m 2 #[.val (.ref a1), .val (.int (3 : Int32))] [(.ref a1), (.int (3 : Int32))]))
  obtain ⟨cl1, Ar1, -, S1, M1, -, -⟩ := id P1
  refine Go.st (fun t k => X0.arraylength hx (by rw [e0]; exact Ar1.1) (State.isArrayOf_alike hZ.alike Ar1.2.1) (g := (mkF m 2 #[.val (.ref a1), .val (.int (3 : Int32))] [(.ref a1), (.int (3 : Int32))])) rfl rfl (hb hby d6_2) t k) ?_
  rw [len_of S1 M1]
  show Go p e below _ (s₁.setTop (mkF m 3 #[.val (.ref a1), .val (.int (3 : Int32))] [(.int (3 : Int32)), (.int (3 : Int32))]))
  refine Go.st (fun t k => XS.isub X0.here hx rfl (hb hby d6_3) rfl k) ?_
  show Go p e below _ (s₁.setTop (mkF m 4 #[.val (.ref a1), .val (.int (3 : Int32))] [(.int (0 : Int32))]))
  refine Go.st (fun t k => XS.bipush X0.here hx rfl (hb hby d6_4) k) ?_
  show Go p e below _ (s₁.setTop (mkF m 6 #[.val (.ref a1), .val (.int (3 : Int32))] [(.int (31 : Int32)), (.int (0 : Int32))]))
  refine Go.st (fun t k => XS.iushr X0.here hx rfl (hb hby d6_6) rfl k) ?_
  show Go p e below _ (s₁.setTop (mkF m 7 #[.val (.ref a1), .val (.int (3 : Int32))] [(.int (0 : Int32))]))
  refine Go.st (fun t k => XS.i2b X0.here hx rfl (hb hby d6_7) rfl k) ?_
  show Go p e below _ (s₁.setTop (mkF m 8 #[.val (.ref a1), .val (.int (3 : Int32))] [(.int (0 : Int32))]))
  obtain ⟨fs, hr, hrun, hended, hWd, hsame⟩ := X0.leave (v := some (.int (0 : Int32))) (fun h => by rw [Bd.returns] at h; cases h)
  refine ⟨_, _, ?_, hrun, hended, _, _, rfl, ?_, ⟨⟨_, rfl⟩, hWd, hsame.mono (by decide) (by decide)⟩⟩
  · exact retN X0 hx (t := .byte) Bd.returns (by simp) (hb hby d6_8) hr
  · show Q_rm6_1 Z a1 k2 h0 n0 _ s₁.heap _
    rw [e0]
    exact ⟨rfl, N0, rfl⟩
def Q_rm2_1 (Z : State) (a1 : Addr) (a2 : Addr) (p3 : Int32) (k4 : ClassId) (h0 : Heap) (n0 : Nat) (v : Option Value) (h : Heap) (L : List Loc) : Prop := ∃ (b1_3 : Addr) (k1_3 : ClassId), v = none ∧ Fr n0 L ∧ Keep h0 h [a1] ∧ h0.size ≤ b1_3 ∧ Fld Z h a1 "java/lang/String" "coder" "B" (.int (0 : Int32)) ∧ Fld Z h a1 "java/lang/String" "value" "[B" (.ref b1_3) ∧ Arv Z h b1_3 k1_3 .byte (3 : Int32) [(.int (50 : Int32)), (.int (111 : Int32)), (.int (112 : Int32))] (.int (0 : Int32))
set_option maxRecDepth 65536 in
set_option maxHeartbeats 40000000 in
theorem rm2_1 (l : Launch) (Z : State) (a0 : Array Value) (hw : ∀ d ∈ tables_1, d.before a0 Z = true) (ws : List Jvm.Cond) (a1 : Addr) (a2 : Addr) (p3 : Int32) (k4 : ClassId) (h0 : Heap) (n0 : Nat) (O0 : Old Z n0 h0) (P1 : Sta Z Z.heap "java/lang/String" "COMPACT_STRINGS" "Z" (.int p3)) (P2 : ¬ (p3 = (0 : Int32))) (P3 : Arv Z h0 a2 k4 .char (3 : Int32) [(.int (50 : Int32)), (.int (111 : Int32)), (.int (112 : Int32))] (.int (0 : Int32))) (P4 : Exa Z h0 a1 "java/lang/String") (P5 : Fld Z h0 a1 "java/lang/String" "coder" "B" (.int (0 : Int32))) (P6 : n0 ≤ a1) (P7 : Fld Z h0 a1 "java/lang/String" "value" "[B" .null) :
    MetFree l (⟨"java/lang/String", "<init>", "([CIILjava/lang/Void;)V"⟩ : MethodName) (head1 (Jvm.Cond.code (⟨"java/lang/String", "<init>", "([CIILjava/lang/Void;)V"⟩ : MethodName) jdk_42_method_149_code 6 none :: ws) ({ frames := 2, cells := 1, slots := 3, locals := 35 } : Room)) (fun a U => a = #[(.ref a1), (.ref a2), (.int (0 : Int32)), (.int (3 : Int32)), .null] ∧ Z.Warmed39 U.vm ∧ U.heap = h0) (fun _ _ _ _ _ => True) (fun _ U o U' => ∃ v L, o = .returned v ∧ Q_rm2_1 Z a1 a2 p3 k4 h0 n0 v U'.heap L ∧ FrameEnd U o U' L ({ frames := 2, cells := 1, slots := 3, locals := 35 } : Room).cells ({ frames := 2, cells := 1, slots := 3, locals := 35 } : Room).slots) := by
  refine MetFree.of_bodySF (plainFor_of_name pn_1) hisR ?_
  intro p e s m args below meth c s₁ Bd hml0 hP hK
  obtain ⟨rfl, hZ, hh⟩ := hP
  have hx := Bd.exec
  have hby := Bd.bytes
  have hml : c.maxLocals = 6 := hml0
  have hown : s.vm.findClass "java/lang/String" = some m.cls := findClass_of_methodNamed Bd.named
  have hnm := (name_of_methodNamed Bd.named Bd.method).1
  have X0 : Stand p l e ({ frames := 2, cells := 1, slots := 3, locals := 35 } : Room) s m #[(.ref a1), (.ref a2), (.int (0 : Int32)), (.int (3 : Int32)), .null] below meth c s₁ [] 0 0 := Stand.of_body Bd
  have e0 : s₁.heap = h0 := by rw [← hh, Bd.state]; rfl
  have N0 := Fr.nil n0
  refine Go.start (P := (fun o U' => ∃ v L, o = .returned v ∧ Q_rm2_1 Z a1 a2 p3 k4 h0 n0 v U'.heap L ∧ FrameEnd s o U' L ({ frames := 2, cells := 1, slots := 3, locals := 35 } : Room).cells ({ frames := 2, cells := 1, slots := 3, locals := 35 } : Room).slots)) (castTop (g' := (mkF m 0 #[.val (.ref a1), .val (.ref a2), .val (.int (0 : Int32)), .val (.int (3 : Int32)), .val .null, .unset] [])) (by first | rfl | simp [entryFrame, mkF, argsToLocals, Value.category]) (T := s₁)) ?_
  refine Go.st (fun t k => XS.aloadN X0.here hx rfl (hb hby d2_0) rfl rfl k) ?_
  show Go p e below _ (s₁.setTop (mkF m 1 #[.val (.ref a1), .val (.ref a2), .val (.int (0 : Int32)), .val (.int (3 : Int32)), .val .null, .unset] [(.ref a1)]))
  obtain ⟨T1, X1, e1, st1⟩ := initO X0 hx hZ hown (w11 hw) (w12 hw) (w13 hw) e0 (g := (mkF m 1 #[.val (.ref a1), .val (.ref a2), .val (.int (0 : Int32)), .val (.int (3 : Int32)), .val .null, .unset] [(.ref a1)])) rfl (by rw [hml]; rfl) rfl (hb hby d2_1) (by decide) (W := 0) (by show 2 * 0 + _ ≤ _; exact Nat.le_of_eq rfl) (by decide)
  refine Go.st st1 ?_
  show Go p e below _ (T1.setTop (mkF m 4 #[.val (.ref a1), .val (.ref a2), .val (.int (0 : Int32)), .val (.int (3 : Int32)), .val .null, .unset] []))
  refine Go.st (fun t k => XS.iloadN X1.here hx rfl (hb hby d2_4) rfl k) ?_
  show Go p e below _ (T1.setTop (mkF m 5 #[.val (.ref a1), .val (.ref a2), .val (.int (0 : Int32)), .val (.int (3 : Int32)), .val .null, .unset] [(.int (3 : Int32))]))
  refine Go.st (fun t k => XS.ifYes X1.here hx rfl (pc0 := 5) (pc' := 27) rfl (hb hby d2_5) rfl (Jvm.Free.XT.i0_ne_t (by decide : ¬ ((3 : Int32) = (0 : Int32)))) (by decide) (by decide) k) ?_
  show Go p e below _ (T1.setTop (mkF m 27 #[.val (.ref a1), .val (.ref a2), .val (.int (0 : Int32)), .val (.int (3 : Int32)), .val .null, .unset] []))
  obtain ⟨T2, X2, e2, st2⟩ := getS2 X1 hx hZ hown (host := "") (Or.inl (w14 hw)) Via.refl e1 (P1.ext O0.2) (g := (mkF m 27 #[.val (.ref a1), .val (.ref a2), .val (.int (0 : Int32)), .val (.int (3 : Int32)), .val .null, .unset] [])) rfl (hb hby d2_27)
  refine Go.st st2 ?_
  show Go p e below _ (T2.setTop (mkF m 30 #[.val (.ref a1), .val (.ref a2), .val (.int (0 : Int32)), .val (.int (3 : Int32)), .val .null, .unset] [(.int p3)]))
  refine Go.st (fun t k => XS.ifNo X2.here hx rfl (hb hby d2_30) rfl (Jvm.Free.XT.i0_eq_f P2) k) ?_
  show Go p e below _ (T2.setTop (mkF m 33 #[.val (.ref a1), .val (.ref a2), .val (.int (0 : Int32)), .val (.int (3 : Int32)), .val .null, .unset] []))
  refine Go.st (fun t k => XS.aloadN X2.here hx rfl (hb hby d2_33) rfl rfl k) ?_
  show Go p e below _ (T2.setTop (mkF m 34 #[.val (.ref a1), .val (.ref a2), .val (.int (0 : Int32)), .val (.int (3 : Int32)), .val .null, .unset] [(.ref a2)]))
  refine Go.st (fun t k => XS.iloadN X2.here hx rfl (hb hby d2_34) rfl k) ?_
  show Go p e below _ (T2.setTop (mkF m 35 #[.val (.ref a1), .val (.ref a2), .val (.int (0 : Int32)), .val (.int (3 : Int32)), .val .null, .unset] [(.int (0 : Int32)), (.ref a2)]))
  refine Go.st (fun t k => XS.iloadN X2.here hx rfl (hb hby d2_35) rfl k) ?_
  show Go p e below _ (T2.setTop (mkF m 36 #[.val (.ref a1), .val (.ref a2), .val (.int (0 : Int32)), .val (.int (3 : Int32)), .val .null, .unset] [(.int (3 : Int32)), (.int (0 : Int32)), (.ref a2)]))
  obtain ⟨_, _, ⟨T3, L3, k3, n3⟩, -, X3, ⟨Lc3, hQ3, l3, y3, z3⟩, st3⟩ := Jvm.LawKit.callS X2 hx (y := (⟨"java/lang/StringUTF16", "compress", "([CII)[B"⟩ : MethodName)) hown (mvT hZ (w15 hw)) (mvT hZ (w16 hw)) (mvT hZ (w17 hw)) (mvT hZ (w18 hw)) (by decide) (backOf (W := 0) (rm4_1 l Z a0 hw [] a2 k4 h0 n0 O0 P3) hZ (w18 hw) (w17 hw) (by decide) (by decide)) (g := (mkF m 36 #[.val (.ref a1), .val (.ref a2), .val (.int (0 : Int32)), .val (.int (3 : Int32)), .val .null, .unset] [(.int (3 : Int32)), (.int (0 : Int32)), (.ref a2)])) rfl (by rw [hml]; rfl) (argsL := [(.ref a2), (.int (0 : Int32)), (.int (3 : Int32))]) (rest := []) (lenOf pd_1 rfl) rfl (by show 2 * 0 + _ ≤ _; exact Nat.le_of_eq rfl) (hb hby d2_36) (fun vm₁ hw₁ => ⟨rfl, e2, (by decide : 0 + 1 ≤ _), (by decide : 0 + 3 ≤ _)⟩)
  dsimp only [Pt.U, Pt.locs, Pt.cells, Pt.slots] at X3 l3 y3 z3 st3 hQ3
  subst l3 y3 z3
  obtain ⟨b1_3, k1_3, rfl, M3, K3c, r3_0, r3_1⟩ := hQ3
  have N3 := Fr.app N0 M3
  have g_b1_3 : n0 ≤ b1_3 := Nat.le_trans (own_n0 O0) r3_0
  have s_b1_3 : h0.size ≤ b1_3 := Nat.le_trans (Keep.refl h0 [a1]).1 r3_0
  have O3 : Old Z n0 T3.heap := O0.keep K3c all0
  have K3 : Keep h0 T3.heap [a1] := (Keep.refl h0 [a1]).trans K3c all0
  refine Go.st st3 ?_
  show Go p e below _ (T3.setTop (mkF m 39 #[.val (.ref a1), .val (.ref a2), .val (.int (0 : Int32)), .val (.int (3 : Int32)), .val .null, .unset] [(.ref b1_3)]))
  refine Go.st (fun t k => XS.astore X3.here hx rfl (hb hby d2_39) rfl rfl (l' := #[.val (.ref a1), .val (.ref a2), .val (.int (0 : Int32)), .val (.int (3 : Int32)), .val .null, .val (.ref b1_3)]) rfl k) ?_
  show Go p e below _ (T3.setTop (mkF m 41 #[.val (.ref a1), .val (.ref a2), .val (.int (0 : Int32)), .val (.int (3 : Int32)), .val .null, .val (.ref b1_3)] []))
  refine Go.st (fun t k => XS.aloadN X3.here hx rfl (hb hby d2_41) rfl rfl k) ?_
  show Go p e below _ (T3.setTop (mkF m 42 #[.val (.ref a1), .val (.ref a2), .val (.int (0 : Int32)), .val (.int (3 : Int32)), .val .null, .val (.ref b1_3)] [(.ref a1)]))
  refine Go.st (fun t k => XS.aload X3.here hx rfl (hb hby d2_42) rfl rfl k) ?_
  show Go p e below _ (T3.setTop (mkF m 44 #[.val (.ref a1), .val (.ref a2), .val (.int (0 : Int32)), .val (.int (3 : Int32)), .val .null, .val (.ref b1_3)] [(.ref b1_3), (.ref a1)]))
  refine Go.st (fun t k => XS.iloadN X3.here hx rfl (hb hby d2_44) rfl k) ?_
  show Go p e below _ (T3.setTop (mkF m 45 #[.val (.ref a1), .val (.ref a2), .val (.int (0 : Int32)), .val (.int (3 : Int32)), .val .null, .val (.ref b1_3)] [(.int (3 : Int32)), (.ref b1_3), (.ref a1)]))
  obtain ⟨_, _, ⟨T4, L4, k4, n4⟩, -, X4, ⟨Lc4, hQ4, l4, y4, z4⟩, st4⟩ := Jvm.LawKit.callS X3 hx (y := (⟨"java/lang/StringUTF16", "coderFromArrayLen", "([BI)B"⟩ : MethodName)) hown (mvT hZ (w23 hw)) (mvT hZ (w24 hw)) (mvT hZ (w17 hw)) (mvT hZ (w25 hw)) (by decide) (backOf (W := 1) (rm6_1 l Z a0 hw [] b1_3 k1_3 T3.heap n0 O3 r3_1) hZ (w25 hw) (w17 hw) (by decide) (by decide)) (g := (mkF m 45 #[.val (.ref a1), .val (.ref a2), .val (.int (0 : Int32)), .val (.int (3 : Int32)), .val .null, .val (.ref b1_3)] [(.int (3 : Int32)), (.ref b1_3), (.ref a1)])) rfl (by rw [hml]; rfl) (argsL := [(.ref b1_3), (.int (3 : Int32))]) (rest := [(.ref a1)]) (lenOf pd_2 rfl) rfl (by show 2 * 0 + _ ≤ _; exact Nat.le_of_eq rfl) (hb hby d2_45) (fun vm₁ hw₁ => ⟨rfl, rfl, (by decide : 1 + 0 ≤ _), (by decide : 3 + 0 ≤ _)⟩)
  dsimp only [Pt.U, Pt.locs, Pt.cells, Pt.slots] at X4 l4 y4 z4 st4 hQ4
  subst l4 y4 z4
  obtain ⟨rfl, M4, eh4⟩ := hQ4
  have N4 := Fr.app N3 M4
  refine Go.st st4 ?_
  show Go p e below _ (T4.setTop (mkF m 48 #[.val (.ref a1), .val (.ref a2), .val (.int (0 : Int32)), .val (.int (3 : Int32)), .val .null, .val (.ref b1_3)] [(.int (0 : Int32)), (.ref a1)]))
  obtain ⟨T5, h5, X5, e5, W5, st5⟩ := putFN X4 hx hZ hown (w26 hw) Via.refl eh4 (P5.keep K3c nin0) (P4.keep K3c) (Or.inr ⟨(w27 hw), rfl, hnm⟩) (w2 hw) (ty := .byte) (v' := (.int (0 : Int32))) (by decide) rfl (by decide) (g := (mkF m 48 #[.val (.ref a1), .val (.ref a2), .val (.int (0 : Int32)), .val (.int (3 : Int32)), .val .null, .val (.ref b1_3)] [(.int (0 : Int32)), (.ref a1)])) rfl rfl (hb hby d2_48)
  have F5 : Fld Z h5 a1 "java/lang/String" "coder" "B" (.int (0 : Int32)) := (P5.keep K3c nin0).same W5
  have N5 := Fr.snoc X5 N4 P6
  have O5 : Old Z n0 h5 := O3.wr W5 P6
  have K5 : Keep h0 h5 [a1] := K3.wr W5 (Or.inl (List.mem_of_getElem? (i := 0) rfl))
  refine Go.st st5 ?_
  show Go p e below _ (T5.setTop (mkF m 51 #[.val (.ref a1), .val (.ref a2), .val (.int (0 : Int32)), .val (.int (3 : Int32)), .val .null, .val (.ref b1_3)] []))
  refine Go.st (fun t k => XS.aloadN X5.here hx rfl (hb hby d2_51) rfl rfl k) ?_
  show Go p e below _ (T5.setTop (mkF m 52 #[.val (.ref a1), .val (.ref a2), .val (.int (0 : Int32)), .val (.int (3 : Int32)), .val .null, .val (.ref b1_3)] [(.ref a1)]))
  refine Go.st (fun t k => XS.aload X5.here hx rfl (hb hby d2_52) rfl rfl k) ?_
  show Go p e below _ (T5.setTop (mkF m 54 #[.val (.ref a1), .val (.ref a2), .val (.int (0 : Int32)), .val (.int (3 : Int32)), .val .null, .val (.ref b1_3)] [(.ref b1_3), (.ref a1)]))
  have c6 := ((P7.keep K3c nin0).other W5 (Or.inr (slot_ne (Or.inr (w29 hw)) (Or.inr (w27 hw)) (by decide) (t := (.array .byte)) (t' := .byte) (by decide) (by decide))))
  obtain ⟨T7, h7, X7, e7, W7, st7⟩ := putF X5 hx hZ hown (host := "") (Or.inl (w28 hw)) Via.refl e5 c6 ((P4.keep K3c).wr W5) (Or.inr ⟨(w29 hw), rfl, hnm⟩) (w2 hw) (ty := (.array .byte)) (by decide) rfl rfl (g := (mkF m 54 #[.val (.ref a1), .val (.ref a2), .val (.int (0 : Int32)), .val (.int (3 : Int32)), .val .null, .val (.ref b1_3)] [(.ref b1_3), (.ref a1)])) rfl rfl (hb hby d2_54)
  have F7 : Fld Z h7 a1 "java/lang/String" "value" "[B" (.ref b1_3) := c6.same W7
  have N7 := Fr.snoc X7 N5 P6
  have O7 : Old Z n0 h7 := O5.wr W7 P6
  have K7 : Keep h0 h7 [a1] := K5.wr W7 (Or.inl (List.mem_of_getElem? (i := 0) rfl))
  refine Go.st st7 ?_
  show Go p e below _ (T7.setTop (mkF m 57 #[.val (.ref a1), .val (.ref a2), .val (.int (0 : Int32)), .val (.int (3 : Int32)), .val .null, .val (.ref b1_3)] []))
  obtain ⟨fs, hr, hrun, hended, hWd, hsame⟩ := X7.leave (v := none) (fun _ => rfl)
  have c8 := (F5.other W7 (Or.inr (slot_ne (Or.inr (w27 hw)) (Or.inr (w29 hw)) (by decide) (t := .byte) (t' := (.array .byte)) (by decide) (by decide))))
  have c9 := ((r3_1.other W5 (Ne.symm (Nat.ne_of_lt (Nat.lt_of_lt_of_le P4.lt r3_0)))).other W7 (Ne.symm (Nat.ne_of_lt (Nat.lt_of_lt_of_le P4.lt r3_0))))
  refine ⟨_, _, ?_, hrun, hended, _, _, rfl, ?_, ⟨⟨_, rfl⟩, hWd, hsame.mono (by decide) (by decide)⟩⟩
  · exact X7.returnOut hx Bd.returns (hb hby d2_57) hr
  · show Q_rm2_1 Z a1 a2 p3 k4 h0 n0 _ T7.heap _
    rw [e7]
    exact ⟨b1_3, k1_3, rfl, N7, K7, s_b1_3, c8, F7, c9⟩
def Q_rm1_1 (Z : State) (a1 : Addr) (a2 : Addr) (k3 : ClassId) (p4 : Int32) (h0 : Heap) (n0 : Nat) (v : Option Value) (h : Heap) (L : List Loc) : Prop := ∃ (b1_3_2 : Addr) (k1_3_2 : ClassId), v = none ∧ Fr n0 L ∧ Keep h0 h [a1] ∧ h0.size ≤ b1_3_2 ∧ Fld Z h a1 "java/lang/String" "coder" "B" (.int (0 : Int32)) ∧ Fld Z h a1 "java/lang/String" "value" "[B" (.ref b1_3_2) ∧ Arv Z h b1_3_2 k1_3_2 .byte (3 : Int32) [(.int (50 : Int32)), (.int (111 : Int32)), (.int (112 : Int32))] (.int (0 : Int32))
set_option maxRecDepth 65536 in
set_option maxHeartbeats 40000000 in
theorem rm1_1 (l : Launch) (Z : State) (a0 : Array Value) (hw : ∀ d ∈ tables_1, d.before a0 Z = true) (ws : List Jvm.Cond) (a1 : Addr) (a2 : Addr) (k3 : ClassId) (p4 : Int32) (h0 : Heap) (n0 : Nat) (O0 : Old Z n0 h0) (P1 : Arv Z h0 a2 k3 .char (3 : Int32) [(.int (50 : Int32)), (.int (111 : Int32)), (.int (112 : Int32))] (.int (0 : Int32))) (P2 : Sta Z Z.heap "java/lang/String" "COMPACT_STRINGS" "Z" (.int p4)) (P3 : ¬ (p4 = (0 : Int32))) (P4 : Exa Z h0 a1 "java/lang/String") (P5 : Fld Z h0 a1 "java/lang/String" "coder" "B" (.int (0 : Int32))) (P6 : n0 ≤ a1) (P7 : Fld Z h0 a1 "java/lang/String" "value" "[B" .null) :
    MetFree l (⟨"java/lang/String", "<init>", "([C)V"⟩ : MethodName) (head1 (Jvm.Cond.code (⟨"java/lang/String", "<init>", "([C)V"⟩ : MethodName) jdk_42_method_3_code 2 none :: ws) ({ frames := 3, cells := 1, slots := 3, locals := 52 } : Room)) (fun a U => a = #[(.ref a1), (.ref a2)] ∧ Z.Warmed39 U.vm ∧ U.heap = h0) (fun _ _ _ _ _ => True) (fun _ U o U' => ∃ v L, o = .returned v ∧ Q_rm1_1 Z a1 a2 k3 p4 h0 n0 v U'.heap L ∧ FrameEnd U o U' L ({ frames := 3, cells := 1, slots := 3, locals := 52 } : Room).cells ({ frames := 3, cells := 1, slots := 3, locals := 52 } : Room).slots) := by
  refine MetFree.of_bodySF (plainFor_of_name pn_1) hisR ?_
  intro p e s m args below meth c s₁ Bd hml0 hP hK
  obtain ⟨rfl, hZ, hh⟩ := hP
  have hx := Bd.exec
  have hby := Bd.bytes
  have hml : c.maxLocals = 2 := hml0
  have hown : s.vm.findClass "java/lang/String" = some m.cls := findClass_of_methodNamed Bd.named
  have hnm := (name_of_methodNamed Bd.named Bd.method).1
  have X0 : Stand p l e ({ frames := 3, cells := 1, slots := 3, locals := 52 } : Room) s m #[(.ref a1), (.ref a2)] below meth c s₁ [] 0 0 := Stand.of_body Bd
  have e0 : s₁.heap = h0 := by rw [← hh, Bd.state]; rfl
  have N0 := Fr.nil n0
  refine Go.start (P := (fun o U' => ∃ v L, o = .returned v ∧ Q_rm1_1 Z a1 a2 k3 p4 h0 n0 v U'.heap L ∧ FrameEnd s o U' L ({ frames := 3, cells := 1, slots := 3, locals := 52 } : Room).cells ({ frames := 3, cells := 1, slots := 3, locals := 52 } : Room).slots)) (castTop (g' := (mkF m 0 #[.val (.ref a1), .val (.ref a2)] [])) (by first | rfl | simp [entryFrame, mkF, argsToLocals, Value.category]) (T := s₁)) ?_
  refine Go.st (fun t k => XS.aloadN X0.here hx rfl (hb hby d1_0) rfl rfl k) ?_
  show Go p e below _ (s₁.setTop (mkF m 1 #[.val (.ref a1), .val (.ref a2)] [(.ref a1)]))
  refine Go.st (fun t k => XS.aloadN X0.here hx rfl (hb hby d1_1) rfl rfl k) ?_
  show Go p e below _ (s₁.setTop (mkF m 2 #[.val (.ref a1), .val (.ref a2)] [(.ref a2), (.ref a1)]))
  refine Go.st (fun t k => XS.iconst X0.here hx rfl (hb hby d1_2) k) ?_
  show Go p e below _ (s₁.setTop (mkF m 3 #[.val (.ref a1), .val (.ref a2)] [(.int (0 : Int32)), (.ref a2), (.ref a1)]))
  refine Go.st (fun t k => XS.aloadN X0.here hx rfl (hb hby d1_3) rfl rfl k) ?_
  show Go p e below _ (s₁.setTop (mkF m 4 #[.val (.ref a1), .val (.ref a2)] [(.ref a2), (.int (0 : Int32)), (.ref a2), (.ref a1)]))
  obtain ⟨cl1, Ar1, -, S1, M1, -, -⟩ := id P1
  refine Go.st (fun t k => X0.arraylength hx (by rw [e0]; exact Ar1.1) (State.isArrayOf_alike hZ.alike Ar1.2.1) (g := (mkF m 4 #[.val (.ref a1), .val (.ref a2)] [(.ref a2), (.int (0 : Int32)), (.ref a2), (.ref a1)])) rfl rfl (hb hby d1_4) t k) ?_
  rw [len_of S1 M1]
  show Go p e below _ (s₁.setTop (mkF m 5 #[.val (.ref a1), .val (.ref a2)] [(.int (3 : Int32)), (.int (0 : Int32)), (.ref a2), (.ref a1)]))
  refine Go.st (fun t k => XS.aconstNull X0.here hx rfl (hb hby d1_5) k) ?_
  show Go p e below _ (s₁.setTop (mkF m 6 #[.val (.ref a1), .val (.ref a2)] [.null, (.int (3 : Int32)), (.int (0 : Int32)), (.ref a2), (.ref a1)]))
  obtain ⟨_, _, ⟨T2, L2, k2, n2⟩, -, X2, ⟨Lc2, hQ2, l2, y2, z2⟩, st2⟩ := X0.specialBack hx (y := (⟨"java/lang/String", "<init>", "([CIILjava/lang/Void;)V"⟩ : MethodName)) rfl hown (mvT hZ (w7 hw)) (mvT hZ (w8 hw)) (mvT hZ (w10 hw)) (by decide) (backOf (W := 0) (rm2_1 l Z a0 hw [] a1 a2 p4 k3 h0 n0 O0 P2 P3 P1 P4 P5 P6 P7) hZ (w10 hw) (w3 hw) (by decide) (by decide)) (g := (mkF m 6 #[.val (.ref a1), .val (.ref a2)] [.null, (.int (3 : Int32)), (.int (0 : Int32)), (.ref a2), (.ref a1)])) rfl (by rw [hml]; rfl) (Steps.refl _) (a := a1) (argsL := [(.ref a2), (.int (0 : Int32)), (.int (3 : Int32)), .null]) (rest := []) (lenOf pd_3 rfl) rfl (by show 2 * 0 + _ ≤ _; exact Nat.le_of_eq rfl) (hb hby d1_6) (fun vm₁ hw₁ => ⟨rfl, e0, (by decide : 0 + 1 ≤ _), (by decide : 0 + 3 ≤ _)⟩)
  dsimp only [Pt.U, Pt.locs, Pt.cells, Pt.slots] at X2 l2 y2 z2 st2 hQ2
  subst l2 y2 z2
  obtain ⟨b1_3_2, k1_3_2, rfl, M2, K2c, r2_0, r2_1, r2_2, r2_3⟩ := hQ2
  have N2 := Fr.app N0 M2
  have g_b1_3_2 : n0 ≤ b1_3_2 := Nat.le_trans (own_n0 O0) r2_0
  have s_b1_3_2 : h0.size ≤ b1_3_2 := Nat.le_trans (Keep.refl h0 [a1]).1 r2_0
  have O2 : Old Z n0 T2.heap := O0.keep K2c (allS P6 all0)
  have K2 : Keep h0 T2.heap [a1] := (Keep.refl h0 [a1]).trans K2c (allS (Or.inl (List.mem_of_getElem? (i := 0) rfl)) all0)
  refine Go.tr st2 ?_
  show Go p e below _ (T2.setTop (mkF m 9 #[.val (.ref a1), .val (.ref a2)] []))
  obtain ⟨fs, hr, hrun, hended, hWd, hsame⟩ := X2.leave (v := none) (fun _ => rfl)
  refine ⟨_, _, ?_, hrun, hended, _, _, rfl, ?_, ⟨⟨_, rfl⟩, hWd, hsame.mono (by decide) (by decide)⟩⟩
  · exact X2.returnOut hx Bd.returns (hb hby d1_9) hr
  · show Q_rm1_1 Z a1 a2 k3 p4 h0 n0 _ T2.heap _
    exact ⟨b1_3_2, k1_3_2, rfl, N2, K2, s_b1_3_2, r2_1, r2_2, r2_3⟩
def Q_rm8_1 (Z : State) (a1 : Addr) (k2 : ClassId) (a3 : Addr) (a4 : Addr) (h0 : Heap) (n0 : Nat) (v : Option Value) (h : Heap) (L : List Loc) : Prop := ∃ (b2 : Addr), v = some (.ref b2) ∧ Fr n0 L ∧ Keep h0 h [] ∧ h0.size ≤ b2 ∧ Arv Z h b2 k2 (.object "com/example/envelop/envelop/learn/Translation") (2 : Int32) [(.ref a3), (.ref a4)] .null ∧ Exa Z h b2 "[Lcom/example/envelop/envelop/learn/Translation;"
set_option maxRecDepth 65536 in
set_option maxHeartbeats 40000000 in
theorem rm8_1 (l : Launch) (Z : State) (a0 : Array Value) (hw : ∀ d ∈ tables_1, d.before a0 Z = true) (ws : List Jvm.Cond) (a1 : Addr) (k2 : ClassId) (a3 : Addr) (a4 : Addr) (h0 : Heap) (n0 : Nat) (O0 : Old Z n0 h0) (P1 : Sta Z Z.heap "com/example/envelop/envelop/learn/Translation" "$VALUES" "[Lcom/example/envelop/envelop/learn/Translation;" (.ref a1)) (P2 : Arv Z Z.heap a1 k2 (.object "com/example/envelop/envelop/learn/Translation") (2 : Int32) [(.ref a3), (.ref a4)] .null) (P3 : Exa Z Z.heap a1 "[Lcom/example/envelop/envelop/learn/Translation;") :
    MetFree l (⟨"com/example/envelop/envelop/learn/Translation", "values", "()[Lcom/example/envelop/envelop/learn/Translation;"⟩ : MethodName) (head1 (Jvm.Cond.code (⟨"com/example/envelop/envelop/learn/Translation", "values", "()[Lcom/example/envelop/envelop/learn/Translation;"⟩ : MethodName) prog_28_method_1_code 0 (some (.array (.object "com/example/envelop/envelop/learn/Translation"))) :: ws) ({ frames := 1, cells := 1, slots := 2, locals := 14 } : Room)) (fun a U => a = #[] ∧ Z.Warmed39 U.vm ∧ U.heap = h0) (fun _ _ _ _ _ => True) (fun _ U o U' => ∃ v L, o = .returned v ∧ Q_rm8_1 Z a1 k2 a3 a4 h0 n0 v U'.heap L ∧ FrameEnd U o U' L ({ frames := 1, cells := 1, slots := 2, locals := 14 } : Room).cells ({ frames := 1, cells := 1, slots := 2, locals := 14 } : Room).slots) := by
  refine MetFree.of_bodySF (plainFor_of_name pn_2) hisR ?_
  intro p e s m args below meth c s₁ Bd hml0 hP hK
  obtain ⟨rfl, hZ, hh⟩ := hP
  have hx := Bd.exec
  have hby := Bd.bytes
  have hml : c.maxLocals = 0 := hml0
  have hown : s.vm.findClass "com/example/envelop/envelop/learn/Translation" = some m.cls := findClass_of_methodNamed Bd.named
  have hnm := (name_of_methodNamed Bd.named Bd.method).1
  have X0 : Stand p l e ({ frames := 1, cells := 1, slots := 2, locals := 14 } : Room) s m #[] below meth c s₁ [] 0 0 := Stand.of_body Bd
  have e0 : s₁.heap = h0 := by rw [← hh, Bd.state]; rfl
  have N0 := Fr.nil n0
  refine Go.start (P := (fun o U' => ∃ v L, o = .returned v ∧ Q_rm8_1 Z a1 k2 a3 a4 h0 n0 v U'.heap L ∧ FrameEnd s o U' L ({ frames := 1, cells := 1, slots := 2, locals := 14 } : Room).cells ({ frames := 1, cells := 1, slots := 2, locals := 14 } : Room).slots)) (castTop (g' := (mkF m 0 #[] [])) (by first | rfl | simp [entryFrame, mkF, argsToLocals, Value.category]) (T := s₁)) ?_
  obtain ⟨T1, X1, e1, st1⟩ := getS2 X0 hx hZ hown (host := "") (Or.inl (w39 hw)) Via.refl e0 (P1.ext O0.2) (g := (mkF m 0 #[] [])) rfl (hb hby d8_0)
  refine Go.st st1 ?_
  show Go p e below _ (T1.setTop (mkF m 3 #[] [(.ref a1)]))
  obtain ⟨cl2, Ar2, q2, S2, M2, H2, G2⟩ := id (P2.ext O0.2)
  obtain ⟨T2, h2, X2, e2, E2, A2, B2, st2⟩ := cloneA X1 hx hZ hown (w41 hw) (w42 hw) (w46 hw) (w44 hw) (w45 hw) (w47 hw) e1 Ar2 (P3.ext O0.2) (own_fitC Ar2 H2 G2) (g := (mkF m 3 #[] [(.ref a1)])) rfl (by rw [hml]; rfl) (rest := []) rfl (hb hby d8_3) (by decide) (W := 0) (cap := 2) (by show 2 * 0 + _ ≤ _; exact Nat.le_of_eq rfl) (by decide) (by rw [S2]; decide) (by decide) (by decide)
  obtain ⟨b2, z2⟩ : ∃ z, z = h0.size := ⟨_, rfl⟩
  rw [← z2] at A2 B2 st2
  have g_b2 : n0 ≤ b2 := Nat.le_trans (own_n0 O0) (Nat.le_of_eq z2.symm)
  have s_b2 : h0.size ≤ b2 := Nat.le_trans (Keep.refl h0 []).1 (Nat.le_of_eq z2.symm)
  have V2 : Arv Z h2 b2 k2 (.object "com/example/envelop/envelop/learn/Translation") (2 : Int32) [(.ref a3), (.ref a4)] .null := ⟨cloneOf cl2, A2, q2, S2, M2, H2, G2⟩
  have O2 : Old Z n0 h2 := O0.ext E2
  have K2 : Keep h0 h2 [] := (Keep.refl h0 []).ext E2
  refine Go.st st2 ?_
  show Go p e below _ (T2.setTop (mkF m 6 #[] [(.ref b2)]))
  obtain ⟨T3, X3, e3, st3⟩ := castY X2 hx hZ hown (w50 hw) e2 (Ins.self B2) (g := (mkF m 6 #[] [(.ref b2)])) rfl rfl (hb hby d8_6)
  refine Go.st st3 ?_
  show Go p e below _ (T3.setTop (mkF m 9 #[] [(.ref b2)]))
  obtain ⟨fs, hr, hrun, hended, hWd, hsame⟩ := X3.leave (v := some (.ref b2)) (fun h => by rw [Bd.returns] at h; cases h)
  refine ⟨_, _, ?_, hrun, hended, _, _, rfl, ?_, ⟨⟨_, rfl⟩, hWd, hsame.mono (by decide) (by decide)⟩⟩
  · exact own_retA X3 hx Bd.returns rfl rfl (hb hby d8_9) hr
  · show Q_rm8_1 Z a1 k2 a3 a4 h0 n0 _ T3.heap _
    rw [e3]
    exact ⟨b2, rfl, N0, K2, s_b2, V2, B2⟩
def Q_rm10_1 (Z : State) (a1 : Addr) (a2 : Addr) (k3 : ClassId) (k4 : ClassId) (h0 : Heap) (n0 : Nat) (v : Option Value) (h : Heap) (L : List Loc) : Prop := v = some (.int (1 : Int32)) ∧ Fr n0 L ∧ h = h0
set_option maxRecDepth 65536 in
set_option maxHeartbeats 40000000 in
theorem rm10_1 (l : Launch) (Z : State) (a0 : Array Value) (hw : ∀ d ∈ tables_1, d.before a0 Z = true) (ws : List Jvm.Cond) (a1 : Addr) (a2 : Addr) (k3 : ClassId) (k4 : ClassId) (h0 : Heap) (n0 : Nat) (O0 : Old Z n0 h0) (P1 : Arv Z Z.heap a1 k3 .byte (3 : Int32) [(.int (50 : Int32)), (.int (111 : Int32)), (.int (112 : Int32))] (.int (0 : Int32))) (P2 : Arv Z h0 a2 k4 .byte (3 : Int32) [(.int (50 : Int32)), (.int (111 : Int32)), (.int (112 : Int32))] (.int (0 : Int32))) :
    MetFree l (⟨"java/lang/StringLatin1", "equals", "([B[B)Z"⟩ : MethodName) (head1 (Jvm.Cond.code (⟨"java/lang/StringLatin1", "equals", "([B[B)Z"⟩ : MethodName) jdk_43_method_13_code 3 (some .boolean) :: ws) ({ frames := 0, cells := 0, slots := 0, locals := 0 } : Room)) (fun a U => a = #[(.ref a1), (.ref a2)] ∧ Z.Warmed39 U.vm ∧ U.heap = h0) (fun _ _ _ _ _ => True) (fun _ U o U' => ∃ v L, o = .returned v ∧ Q_rm10_1 Z a1 a2 k3 k4 h0 n0 v U'.heap L ∧ FrameEnd U o U' L ({ frames := 0, cells := 0, slots := 0, locals := 0 } : Room).cells ({ frames := 0, cells := 0, slots := 0, locals := 0 } : Room).slots) := by
  refine MetFree.of_bodySF (plainFor_of_name pn_3) hisR ?_
  intro p e s m args below meth c s₁ Bd hml0 hP hK
  obtain ⟨rfl, hZ, hh⟩ := hP
  have hx := Bd.exec
  have hby := Bd.bytes
  have hml : c.maxLocals = 3 := hml0
  have hown : s.vm.findClass "java/lang/StringLatin1" = some m.cls := findClass_of_methodNamed Bd.named
  have hnm := (name_of_methodNamed Bd.named Bd.method).1
  have X0 : Stand p l e ({ frames := 0, cells := 0, slots := 0, locals := 0 } : Room) s m #[(.ref a1), (.ref a2)] below meth c s₁ [] 0 0 := Stand.of_body Bd
  have e0 : s₁.heap = h0 := by rw [← hh, Bd.state]; rfl
  have N0 := Fr.nil n0
  refine Go.start (P := (fun o U' => ∃ v L, o = .returned v ∧ Q_rm10_1 Z a1 a2 k3 k4 h0 n0 v U'.heap L ∧ FrameEnd s o U' L ({ frames := 0, cells := 0, slots := 0, locals := 0 } : Room).cells ({ frames := 0, cells := 0, slots := 0, locals := 0 } : Room).slots)) (castTop (g' := (mkF m 0 #[.val (.ref a1), .val (.ref a2), .unset] [])) (by first | rfl | simp [entryFrame, mkF, argsToLocals, Value.category]) (T := s₁)) ?_
  refine Go.st (fun t k => XS.aloadN X0.here hx rfl (hb hby d10_0) rfl rfl k) ?_
  show Go p e below _ (s₁.setTop (mkF m 1 #[.val (.ref a1), .val (.ref a2), .unset] [(.ref a1)]))
  obtain ⟨cl1, Ar1, -, S1, M1, -, -⟩ := id (P1.ext O0.2)
  refine Go.st (fun t k => X0.arraylength hx (by rw [e0]; exact Ar1.1) (State.isArrayOf_alike hZ.alike Ar1.2.1) (g := (mkF m 1 #[.val (.ref a1), .val (.ref a2), .unset] [(.ref a1)])) rfl rfl (hb hby d10_1) t k) ?_
  rw [len_of S1 M1]
  show Go p e below _ (s₁.setTop (mkF m 2 #[.val (.ref a1), .val (.ref a2), .unset] [(.int (3 : Int32))]))
  refine Go.st (fun t k => XS.aloadN X0.here hx rfl (hb hby d10_2) rfl rfl k) ?_
  show Go p e below _ (s₁.setTop (mkF m 3 #[.val (.ref a1), .val (.ref a2), .unset] [(.ref a2), (.int (3 : Int32))]))
  obtain ⟨cl2, Ar2, -, S2, M2, -, -⟩ := id P2
  refine Go.st (fun t k => X0.arraylength hx (by rw [e0]; exact Ar2.1) (State.isArrayOf_alike hZ.alike Ar2.2.1) (g := (mkF m 3 #[.val (.ref a1), .val (.ref a2), .unset] [(.ref a2), (.int (3 : Int32))])) rfl rfl (hb hby d10_3) t k) ?_
  rw [len_of S2 M2]
  show Go p e below _ (s₁.setTop (mkF m 4 #[.val (.ref a1), .val (.ref a2), .unset] [(.int (3 : Int32)), (.int (3 : Int32))]))
  refine Go.st (fun t k => XS.icmpNo X0.here hx rfl (hb hby d10_4) rfl (Jvm.Free.XT.ii_ne_f (by decide : (3 : Int32) = (3 : Int32))) k) ?_
  show Go p e below _ (s₁.setTop (mkF m 7 #[.val (.ref a1), .val (.ref a2), .unset] []))
  refine Go.st (fun t k => XS.iconst X0.here hx rfl (hb hby d10_7) k) ?_
  show Go p e below _ (s₁.setTop (mkF m 8 #[.val (.ref a1), .val (.ref a2), .unset] [(.int (0 : Int32))]))
  refine Go.st (fun t k => XS.istoreN X0.here hx rfl (hb hby d10_8) rfl (l' := #[.val (.ref a1), .val (.ref a2), .val (.int (0 : Int32))]) rfl k) ?_
  show Go p e below _ (s₁.setTop (mkF m 9 #[.val (.ref a1), .val (.ref a2), .val (.int (0 : Int32))] []))
  refine Go.st (fun t k => XS.iloadN X0.here hx rfl (hb hby d10_9) rfl k) ?_
  show Go p e below _ (s₁.setTop (mkF m 10 #[.val (.ref a1), .val (.ref a2), .val (.int (0 : Int32))] [(.int (0 : Int32))]))
  refine Go.st (fun t k => XS.aloadN X0.here hx rfl (hb hby d10_10) rfl rfl k) ?_
  show Go p e below _ (s₁.setTop (mkF m 11 #[.val (.ref a1), .val (.ref a2), .val (.int (0 : Int32))] [(.ref a1), (.int (0 : Int32))]))
  obtain ⟨cl3, Ar3, -, S3, M3, -, -⟩ := id (P1.ext O0.2)
  refine Go.st (fun t k => X0.arraylength hx (by rw [e0]; exact Ar3.1) (State.isArrayOf_alike hZ.alike Ar3.2.1) (g := (mkF m 11 #[.val (.ref a1), .val (.ref a2), .val (.int (0 : Int32))] [(.ref a1), (.int (0 : Int32))])) rfl rfl (hb hby d10_11) t k) ?_
  rw [len_of S3 M3]
  show Go p e below _ (s₁.setTop (mkF m 12 #[.val (.ref a1), .val (.ref a2), .val (.int (0 : Int32))] [(.int (3 : Int32)), (.int (0 : Int32))]))
  refine Go.st (fun t k => XS.icmpNo X0.here hx rfl (hb hby d10_12) rfl (Jvm.Free.XT.ii_ge_f (by decide : (0 : Int32) < (3 : Int32))) k) ?_
  show Go p e below _ (s₁.setTop (mkF m 15 #[.val (.ref a1), .val (.ref a2), .val (.int (0 : Int32))] []))
  refine Go.st (fun t k => XS.aloadN X0.here hx rfl (hb hby d10_15) rfl rfl k) ?_
  show Go p e below _ (s₁.setTop (mkF m 16 #[.val (.ref a1), .val (.ref a2), .val (.int (0 : Int32))] [(.ref a1)]))
  refine Go.st (fun t k => XS.iloadN X0.here hx rfl (hb hby d10_16) rfl k) ?_
  show Go p e below _ (s₁.setTop (mkF m 17 #[.val (.ref a1), .val (.ref a2), .val (.int (0 : Int32))] [(.int (0 : Int32)), (.ref a1)]))
  obtain ⟨cl4, Ar4, q4, S4, M4, H4, G4⟩ := id (P1.ext O0.2)
  have hin4 : ¬ ((0 : Int32) < 0 ∨ cl4.slots.size ≤ ((0 : Int32)).toNatClampNeg) := inb_of S4 ⟨by decide, by decide⟩
  have hat4 : cl4.slots[((0 : Int32)).toNatClampNeg]? = some (.int (50 : Int32)) := H4.at hin4 rfl
  refine Go.st (fun t k => X0.baloadBytes hx (j := (0 : Int32)) (v := (.int (50 : Int32))) (by rw [e0]; exact Ar4.1) (State.isArrayOf_alike hZ.alike Ar4.2.1) Ar4.2.2 hin4 hat4 (g := (mkF m 17 #[.val (.ref a1), .val (.ref a2), .val (.int (0 : Int32))] [(.int (0 : Int32)), (.ref a1)])) rfl rfl (hb hby d10_17) t k) ?_
  show Go p e below _ (s₁.setTop (mkF m 18 #[.val (.ref a1), .val (.ref a2), .val (.int (0 : Int32))] [(.int (50 : Int32))]))
  refine Go.st (fun t k => XS.aloadN X0.here hx rfl (hb hby d10_18) rfl rfl k) ?_
  show Go p e below _ (s₁.setTop (mkF m 19 #[.val (.ref a1), .val (.ref a2), .val (.int (0 : Int32))] [(.ref a2), (.int (50 : Int32))]))
  refine Go.st (fun t k => XS.iloadN X0.here hx rfl (hb hby d10_19) rfl k) ?_
  show Go p e below _ (s₁.setTop (mkF m 20 #[.val (.ref a1), .val (.ref a2), .val (.int (0 : Int32))] [(.int (0 : Int32)), (.ref a2), (.int (50 : Int32))]))
  obtain ⟨cl5, Ar5, q5, S5, M5, H5, G5⟩ := id P2
  have hin5 : ¬ ((0 : Int32) < 0 ∨ cl5.slots.size ≤ ((0 : Int32)).toNatClampNeg) := inb_of S5 ⟨by decide, by decide⟩
  have hat5 : cl5.slots[((0 : Int32)).toNatClampNeg]? = some (.int (50 : Int32)) := H5.at hin5 rfl
  refine Go.st (fun t k => X0.baloadBytes hx (j := (0 : Int32)) (v := (.int (50 : Int32))) (by rw [e0]; exact Ar5.1) (State.isArrayOf_alike hZ.alike Ar5.2.1) Ar5.2.2 hin5 hat5 (g := (mkF m 20 #[.val (.ref a1), .val (.ref a2), .val (.int (0 : Int32))] [(.int (0 : Int32)), (.ref a2), (.int (50 : Int32))])) rfl rfl (hb hby d10_20) t k) ?_
  show Go p e below _ (s₁.setTop (mkF m 21 #[.val (.ref a1), .val (.ref a2), .val (.int (0 : Int32))] [(.int (50 : Int32)), (.int (50 : Int32))]))
  refine Go.st (fun t k => XS.icmpYes X0.here hx rfl (pc0 := 21) (pc' := 26) rfl (hb hby d10_21) rfl (Jvm.Free.XT.ii_eq_t (by decide : (50 : Int32) = (50 : Int32))) (by decide) (by decide) k) ?_
  show Go p e below _ (s₁.setTop (mkF m 26 #[.val (.ref a1), .val (.ref a2), .val (.int (0 : Int32))] []))
  refine Go.st (fun t k => XS.iinc X0.here hx rfl (hb hby d10_26) rfl (l' := #[.val (.ref a1), .val (.ref a2), .val (.int (1 : Int32))]) rfl k) ?_
  show Go p e below _ (s₁.setTop (mkF m 29 #[.val (.ref a1), .val (.ref a2), .val (.int (1 : Int32))] []))
  refine Go.st (fun t k => XS.goto X0.here hx rfl (pc0 := 29) (pc' := 9) rfl (hb hby d10_29) (by decide) (by decide) k) ?_
  show Go p e below _ (s₁.setTop (mkF m 9 #[.val (.ref a1), .val (.ref a2), .val (.int (1 : Int32))] []))
  refine Go.st (fun t k => XS.iloadN X0.here hx rfl (hb hby d10_9) rfl k) ?_
  show Go p e below _ (s₁.setTop (mkF m 10 #[.val (.ref a1), .val (.ref a2), .val (.int (1 : Int32))] [(.int (1 : Int32))]))
  refine Go.st (fun t k => XS.aloadN X0.here hx rfl (hb hby d10_10) rfl rfl k) ?_
  show Go p e below _ (s₁.setTop (mkF m 11 #[.val (.ref a1), .val (.ref a2), .val (.int (1 : Int32))] [(.ref a1), (.int (1 : Int32))]))
  obtain ⟨cl6, Ar6, -, S6, M6, -, -⟩ := id (P1.ext O0.2)
  refine Go.st (fun t k => X0.arraylength hx (by rw [e0]; exact Ar6.1) (State.isArrayOf_alike hZ.alike Ar6.2.1) (g := (mkF m 11 #[.val (.ref a1), .val (.ref a2), .val (.int (1 : Int32))] [(.ref a1), (.int (1 : Int32))])) rfl rfl (hb hby d10_11) t k) ?_
  rw [len_of S6 M6]
  show Go p e below _ (s₁.setTop (mkF m 12 #[.val (.ref a1), .val (.ref a2), .val (.int (1 : Int32))] [(.int (3 : Int32)), (.int (1 : Int32))]))
  refine Go.st (fun t k => XS.icmpNo X0.here hx rfl (hb hby d10_12) rfl (Jvm.Free.XT.ii_ge_f (by decide : (1 : Int32) < (3 : Int32))) k) ?_
  show Go p e below _ (s₁.setTop (mkF m 15 #[.val (.ref a1), .val (.ref a2), .val (.int (1 : Int32))] []))
  refine Go.st (fun t k => XS.aloadN X0.here hx rfl (hb hby d10_15) rfl rfl k) ?_
  show Go p e below _ (s₁.setTop (mkF m 16 #[.val (.ref a1), .val (.ref a2), .val (.int (1 : Int32))] [(.ref a1)]))
  refine Go.st (fun t k => XS.iloadN X0.here hx rfl (hb hby d10_16) rfl k) ?_
  show Go p e below _ (s₁.setTop (mkF m 17 #[.val (.ref a1), .val (.ref a2), .val (.int (1 : Int32))] [(.int (1 : Int32)), (.ref a1)]))
  obtain ⟨cl7, Ar7, q7, S7, M7, H7, G7⟩ := id (P1.ext O0.2)
  have hin7 : ¬ ((1 : Int32) < 0 ∨ cl7.slots.size ≤ ((1 : Int32)).toNatClampNeg) := inb_of S7 ⟨by decide, by decide⟩
  have hat7 : cl7.slots[((1 : Int32)).toNatClampNeg]? = some (.int (111 : Int32)) := H7.at hin7 rfl
  refine Go.st (fun t k => X0.baloadBytes hx (j := (1 : Int32)) (v := (.int (111 : Int32))) (by rw [e0]; exact Ar7.1) (State.isArrayOf_alike hZ.alike Ar7.2.1) Ar7.2.2 hin7 hat7 (g := (mkF m 17 #[.val (.ref a1), .val (.ref a2), .val (.int (1 : Int32))] [(.int (1 : Int32)), (.ref a1)])) rfl rfl (hb hby d10_17) t k) ?_
  show Go p e below _ (s₁.setTop (mkF m 18 #[.val (.ref a1), .val (.ref a2), .val (.int (1 : Int32))] [(.int (111 : Int32))]))
  refine Go.st (fun t k => XS.aloadN X0.here hx rfl (hb hby d10_18) rfl rfl k) ?_
  show Go p e below _ (s₁.setTop (mkF m 19 #[.val (.ref a1), .val (.ref a2), .val (.int (1 : Int32))] [(.ref a2), (.int (111 : Int32))]))
  refine Go.st (fun t k => XS.iloadN X0.here hx rfl (hb hby d10_19) rfl k) ?_
  show Go p e below _ (s₁.setTop (mkF m 20 #[.val (.ref a1), .val (.ref a2), .val (.int (1 : Int32))] [(.int (1 : Int32)), (.ref a2), (.int (111 : Int32))]))
  obtain ⟨cl8, Ar8, q8, S8, M8, H8, G8⟩ := id P2
  have hin8 : ¬ ((1 : Int32) < 0 ∨ cl8.slots.size ≤ ((1 : Int32)).toNatClampNeg) := inb_of S8 ⟨by decide, by decide⟩
  have hat8 : cl8.slots[((1 : Int32)).toNatClampNeg]? = some (.int (111 : Int32)) := H8.at hin8 rfl
  refine Go.st (fun t k => X0.baloadBytes hx (j := (1 : Int32)) (v := (.int (111 : Int32))) (by rw [e0]; exact Ar8.1) (State.isArrayOf_alike hZ.alike Ar8.2.1) Ar8.2.2 hin8 hat8 (g := (mkF m 20 #[.val (.ref a1), .val (.ref a2), .val (.int (1 : Int32))] [(.int (1 : Int32)), (.ref a2), (.int (111 : Int32))])) rfl rfl (hb hby d10_20) t k) ?_
  show Go p e below _ (s₁.setTop (mkF m 21 #[.val (.ref a1), .val (.ref a2), .val (.int (1 : Int32))] [(.int (111 : Int32)), (.int (111 : Int32))]))
  refine Go.st (fun t k => XS.icmpYes X0.here hx rfl (pc0 := 21) (pc' := 26) rfl (hb hby d10_21) rfl (Jvm.Free.XT.ii_eq_t (by decide : (111 : Int32) = (111 : Int32))) (by decide) (by decide) k) ?_
  show Go p e below _ (s₁.setTop (mkF m 26 #[.val (.ref a1), .val (.ref a2), .val (.int (1 : Int32))] []))
  refine Go.st (fun t k => XS.iinc X0.here hx rfl (hb hby d10_26) rfl (l' := #[.val (.ref a1), .val (.ref a2), .val (.int (2 : Int32))]) rfl k) ?_
  show Go p e below _ (s₁.setTop (mkF m 29 #[.val (.ref a1), .val (.ref a2), .val (.int (2 : Int32))] []))
  refine Go.st (fun t k => XS.goto X0.here hx rfl (pc0 := 29) (pc' := 9) rfl (hb hby d10_29) (by decide) (by decide) k) ?_
  show Go p e below _ (s₁.setTop (mkF m 9 #[.val (.ref a1), .val (.ref a2), .val (.int (2 : Int32))] []))
  refine Go.st (fun t k => XS.iloadN X0.here hx rfl (hb hby d10_9) rfl k) ?_
  show Go p e below _ (s₁.setTop (mkF m 10 #[.val (.ref a1), .val (.ref a2), .val (.int (2 : Int32))] [(.int (2 : Int32))]))
  refine Go.st (fun t k => XS.aloadN X0.here hx rfl (hb hby d10_10) rfl rfl k) ?_
  show Go p e below _ (s₁.setTop (mkF m 11 #[.val (.ref a1), .val (.ref a2), .val (.int (2 : Int32))] [(.ref a1), (.int (2 : Int32))]))
  obtain ⟨cl9, Ar9, -, S9, M9, -, -⟩ := id (P1.ext O0.2)
  refine Go.st (fun t k => X0.arraylength hx (by rw [e0]; exact Ar9.1) (State.isArrayOf_alike hZ.alike Ar9.2.1) (g := (mkF m 11 #[.val (.ref a1), .val (.ref a2), .val (.int (2 : Int32))] [(.ref a1), (.int (2 : Int32))])) rfl rfl (hb hby d10_11) t k) ?_
  rw [len_of S9 M9]
  show Go p e below _ (s₁.setTop (mkF m 12 #[.val (.ref a1), .val (.ref a2), .val (.int (2 : Int32))] [(.int (3 : Int32)), (.int (2 : Int32))]))
  refine Go.st (fun t k => XS.icmpNo X0.here hx rfl (hb hby d10_12) rfl (Jvm.Free.XT.ii_ge_f (by decide : (2 : Int32) < (3 : Int32))) k) ?_
  show Go p e below _ (s₁.setTop (mkF m 15 #[.val (.ref a1), .val (.ref a2), .val (.int (2 : Int32))] []))
  refine Go.st (fun t k => XS.aloadN X0.here hx rfl (hb hby d10_15) rfl rfl k) ?_
  show Go p e below _ (s₁.setTop (mkF m 16 #[.val (.ref a1), .val (.ref a2), .val (.int (2 : Int32))] [(.ref a1)]))
  refine Go.st (fun t k => XS.iloadN X0.here hx rfl (hb hby d10_16) rfl k) ?_
  show Go p e below _ (s₁.setTop (mkF m 17 #[.val (.ref a1), .val (.ref a2), .val (.int (2 : Int32))] [(.int (2 : Int32)), (.ref a1)]))
  obtain ⟨cl10, Ar10, q10, S10, M10, H10, G10⟩ := id (P1.ext O0.2)
  have hin10 : ¬ ((2 : Int32) < 0 ∨ cl10.slots.size ≤ ((2 : Int32)).toNatClampNeg) := inb_of S10 ⟨by decide, by decide⟩
  have hat10 : cl10.slots[((2 : Int32)).toNatClampNeg]? = some (.int (112 : Int32)) := H10.at hin10 rfl
  refine Go.st (fun t k => X0.baloadBytes hx (j := (2 : Int32)) (v := (.int (112 : Int32))) (by rw [e0]; exact Ar10.1) (State.isArrayOf_alike hZ.alike Ar10.2.1) Ar10.2.2 hin10 hat10 (g := (mkF m 17 #[.val (.ref a1), .val (.ref a2), .val (.int (2 : Int32))] [(.int (2 : Int32)), (.ref a1)])) rfl rfl (hb hby d10_17) t k) ?_
  show Go p e below _ (s₁.setTop (mkF m 18 #[.val (.ref a1), .val (.ref a2), .val (.int (2 : Int32))] [(.int (112 : Int32))]))
  refine Go.st (fun t k => XS.aloadN X0.here hx rfl (hb hby d10_18) rfl rfl k) ?_
  show Go p e below _ (s₁.setTop (mkF m 19 #[.val (.ref a1), .val (.ref a2), .val (.int (2 : Int32))] [(.ref a2), (.int (112 : Int32))]))
  refine Go.st (fun t k => XS.iloadN X0.here hx rfl (hb hby d10_19) rfl k) ?_
  show Go p e below _ (s₁.setTop (mkF m 20 #[.val (.ref a1), .val (.ref a2), .val (.int (2 : Int32))] [(.int (2 : Int32)), (.ref a2), (.int (112 : Int32))]))
  obtain ⟨cl11, Ar11, q11, S11, M11, H11, G11⟩ := id P2
  have hin11 : ¬ ((2 : Int32) < 0 ∨ cl11.slots.size ≤ ((2 : Int32)).toNatClampNeg) := inb_of S11 ⟨by decide, by decide⟩
  have hat11 : cl11.slots[((2 : Int32)).toNatClampNeg]? = some (.int (112 : Int32)) := H11.at hin11 rfl
  refine Go.st (fun t k => X0.baloadBytes hx (j := (2 : Int32)) (v := (.int (112 : Int32))) (by rw [e0]; exact Ar11.1) (State.isArrayOf_alike hZ.alike Ar11.2.1) Ar11.2.2 hin11 hat11 (g := (mkF m 20 #[.val (.ref a1), .val (.ref a2), .val (.int (2 : Int32))] [(.int (2 : Int32)), (.ref a2), (.int (112 : Int32))])) rfl rfl (hb hby d10_20) t k) ?_
  show Go p e below _ (s₁.setTop (mkF m 21 #[.val (.ref a1), .val (.ref a2), .val (.int (2 : Int32))] [(.int (112 : Int32)), (.int (112 : Int32))]))
  refine Go.st (fun t k => XS.icmpYes X0.here hx rfl (pc0 := 21) (pc' := 26) rfl (hb hby d10_21) rfl (Jvm.Free.XT.ii_eq_t (by decide : (112 : Int32) = (112 : Int32))) (by decide) (by decide) k) ?_
  show Go p e below _ (s₁.setTop (mkF m 26 #[.val (.ref a1), .val (.ref a2), .val (.int (2 : Int32))] []))
  refine Go.st (fun t k => XS.iinc X0.here hx rfl (hb hby d10_26) rfl (l' := #[.val (.ref a1), .val (.ref a2), .val (.int (3 : Int32))]) rfl k) ?_
  show Go p e below _ (s₁.setTop (mkF m 29 #[.val (.ref a1), .val (.ref a2), .val (.int (3 : Int32))] []))
  refine Go.st (fun t k => XS.goto X0.here hx rfl (pc0 := 29) (pc' := 9) rfl (hb hby d10_29) (by decide) (by decide) k) ?_
  show Go p e below _ (s₁.setTop (mkF m 9 #[.val (.ref a1), .val (.ref a2), .val (.int (3 : Int32))] []))
  refine Go.st (fun t k => XS.iloadN X0.here hx rfl (hb hby d10_9) rfl k) ?_
  show Go p e below _ (s₁.setTop (mkF m 10 #[.val (.ref a1), .val (.ref a2), .val (.int (3 : Int32))] [(.int (3 : Int32))]))
  refine Go.st (fun t k => XS.aloadN X0.here hx rfl (hb hby d10_10) rfl rfl k) ?_
  show Go p e below _ (s₁.setTop (mkF m 11 #[.val (.ref a1), .val (.ref a2), .val (.int (3 : Int32))] [(.ref a1), (.int (3 : Int32))]))
  obtain ⟨cl12, Ar12, -, S12, M12, -, -⟩ := id (P1.ext O0.2)
  refine Go.st (fun t k => X0.arraylength hx (by rw [e0]; exact Ar12.1) (State.isArrayOf_alike hZ.alike Ar12.2.1) (g := (mkF m 11 #[.val (.ref a1), .val (.ref a2), .val (.int (3 : Int32))] [(.ref a1), (.int (3 : Int32))])) rfl rfl (hb hby d10_11) t k) ?_
  rw [len_of S12 M12]
  show Go p e below _ (s₁.setTop (mkF m 12 #[.val (.ref a1), .val (.ref a2), .val (.int (3 : Int32))] [(.int (3 : Int32)), (.int (3 : Int32))]))
  refine Go.st (fun t k => XS.icmpYes X0.here hx rfl (pc0 := 12) (pc' := 32) rfl (hb hby d10_12) rfl (Jvm.Free.XT.ii_ge_t (by decide : ¬ ((3 : Int32) < (3 : Int32)))) (by decide) (by decide) k) ?_
  show Go p e below _ (s₁.setTop (mkF m 32 #[.val (.ref a1), .val (.ref a2), .val (.int (3 : Int32))] []))
  refine Go.st (fun t k => XS.iconst X0.here hx rfl (hb hby d10_32) k) ?_
  show Go p e below _ (s₁.setTop (mkF m 33 #[.val (.ref a1), .val (.ref a2), .val (.int (3 : Int32))] [(.int (1 : Int32))]))
  obtain ⟨fs, hr, hrun, hended, hWd, hsame⟩ := X0.leave (v := some (.int (1 : Int32))) (fun h => by rw [Bd.returns] at h; cases h)
  refine ⟨_, _, ?_, hrun, hended, _, _, rfl, ?_, ⟨⟨_, rfl⟩, hWd, hsame.mono (by decide) (by decide)⟩⟩
  · exact retN X0 hx (t := .boolean) Bd.returns (by simp) (hb hby d10_33) hr
  · show Q_rm10_1 Z a1 a2 k3 k4 h0 n0 _ s₁.heap _
    rw [e0]
    exact ⟨rfl, N0, rfl⟩
def Q_rm9_1 (Z : State) (a1 : Addr) (a2 : Addr) (p3 : Int32) (a4 : Addr) (a5 : Addr) (k6 : ClassId) (k7 : ClassId) (h0 : Heap) (n0 : Nat) (v : Option Value) (h : Heap) (L : List Loc) : Prop := v = some (.int (1 : Int32)) ∧ Fr n0 L ∧ h = h0
set_option maxRecDepth 65536 in
set_option maxHeartbeats 40000000 in
theorem rm9_1 (l : Launch) (Z : State) (a0 : Array Value) (hw : ∀ d ∈ tables_1, d.before a0 Z = true) (ws : List Jvm.Cond) (a1 : Addr) (a2 : Addr) (p3 : Int32) (a4 : Addr) (a5 : Addr) (k6 : ClassId) (k7 : ClassId) (h0 : Heap) (n0 : Nat) (O0 : Old Z n0 h0) (P1 : a1 ≠ a2) (P2 : Exa Z h0 a2 "java/lang/String") (P3 : Sta Z Z.heap "java/lang/String" "COMPACT_STRINGS" "Z" (.int p3)) (P4 : ¬ (p3 = (0 : Int32))) (P5 : Fld Z Z.heap a1 "java/lang/String" "coder" "B" (.int (0 : Int32))) (P6 : Fld Z h0 a2 "java/lang/String" "coder" "B" (.int (0 : Int32))) (P7 : Fld Z Z.heap a1 "java/lang/String" "value" "[B" (.ref a4)) (P8 : Fld Z h0 a2 "java/lang/String" "value" "[B" (.ref a5)) (P9 : Arv Z Z.heap a4 k6 .byte (3 : Int32) [(.int (50 : Int32)), (.int (111 : Int32)), (.int (112 : Int32))] (.int (0 : Int32))) (P10 : Arv Z h0 a5 k7 .byte (3 : Int32) [(.int (50 : Int32)), (.int (111 : Int32)), (.int (112 : Int32))] (.int (0 : Int32))) :
    MetFree l (⟨"java/lang/String", "equals", "(Ljava/lang/Object;)Z"⟩ : MethodName) (head1 (Jvm.Cond.code (⟨"java/lang/String", "equals", "(Ljava/lang/Object;)Z"⟩ : MethodName) jdk_42_method_66_code 3 (some .boolean) :: ws) ({ frames := 1, cells := 0, slots := 0, locals := 14 } : Room)) (fun a U => a = #[(.ref a1), (.ref a2)] ∧ Z.Warmed39 U.vm ∧ U.heap = h0) (fun _ _ _ _ _ => True) (fun _ U o U' => ∃ v L, o = .returned v ∧ Q_rm9_1 Z a1 a2 p3 a4 a5 k6 k7 h0 n0 v U'.heap L ∧ FrameEnd U o U' L ({ frames := 1, cells := 0, slots := 0, locals := 14 } : Room).cells ({ frames := 1, cells := 0, slots := 0, locals := 14 } : Room).slots) := by
  refine MetFree.of_bodySF (plainFor_of_name pn_1) hisR ?_
  intro p e s m args below meth c s₁ Bd hml0 hP hK
  obtain ⟨rfl, hZ, hh⟩ := hP
  have hx := Bd.exec
  have hby := Bd.bytes
  have hml : c.maxLocals = 3 := hml0
  have hown : s.vm.findClass "java/lang/String" = some m.cls := findClass_of_methodNamed Bd.named
  have hnm := (name_of_methodNamed Bd.named Bd.method).1
  have X0 : Stand p l e ({ frames := 1, cells := 0, slots := 0, locals := 14 } : Room) s m #[(.ref a1), (.ref a2)] below meth c s₁ [] 0 0 := Stand.of_body Bd
  have e0 : s₁.heap = h0 := by rw [← hh, Bd.state]; rfl
  have N0 := Fr.nil n0
  refine Go.start (P := (fun o U' => ∃ v L, o = .returned v ∧ Q_rm9_1 Z a1 a2 p3 a4 a5 k6 k7 h0 n0 v U'.heap L ∧ FrameEnd s o U' L ({ frames := 1, cells := 0, slots := 0, locals := 14 } : Room).cells ({ frames := 1, cells := 0, slots := 0, locals := 14 } : Room).slots)) (castTop (g' := (mkF m 0 #[.val (.ref a1), .val (.ref a2), .unset] [])) (by first | rfl | simp [entryFrame, mkF, argsToLocals, Value.category]) (T := s₁)) ?_
  refine Go.st (fun t k => XS.aloadN X0.here hx rfl (hb hby d9_0) rfl rfl k) ?_
  show Go p e below _ (s₁.setTop (mkF m 1 #[.val (.ref a1), .val (.ref a2), .unset] [(.ref a1)]))
  refine Go.st (fun t k => XS.aloadN X0.here hx rfl (hb hby d9_1) rfl rfl k) ?_
  show Go p e below _ (s₁.setTop (mkF m 2 #[.val (.ref a1), .val (.ref a2), .unset] [(.ref a2), (.ref a1)]))
  refine Go.st (fun t k => Jvm.RoadKit.acmp (g := (mkF m 2 #[.val (.ref a1), .val (.ref a2), .unset] [(.ref a2), (.ref a1)])) X0 hx rfl rfl rfl (pc0 := 2) (pc' := 7) (same := false) rfl (hb hby d9_2) rfl (decide_eq_false fun q => P1 (Value.ref.inj q)) (by decide) (by decide) k) ?_
  show Go p e below _ (s₁.setTop (mkF m 7 #[.val (.ref a1), .val (.ref a2), .unset] []))
  refine Go.st (fun t k => XS.aloadN X0.here hx rfl (hb hby d9_7) rfl rfl k) ?_
  show Go p e below _ (s₁.setTop (mkF m 8 #[.val (.ref a1), .val (.ref a2), .unset] [(.ref a2)]))
  obtain ⟨T1, X1, e1, st1⟩ := instY X0 hx hZ hown (w59 hw) e0 (Ins.self P2) (g := (mkF m 8 #[.val (.ref a1), .val (.ref a2), .unset] [(.ref a2)])) rfl rfl (hb hby d9_8)
  refine Go.st st1 ?_
  show Go p e below _ (T1.setTop (mkF m 11 #[.val (.ref a1), .val (.ref a2), .unset] [(.int (1 : Int32))]))
  refine Go.st (fun t k => XS.ifNo X1.here hx rfl (hb hby d9_11) rfl (Jvm.Free.XT.i0_eq_f (by decide : ¬ ((1 : Int32) = (0 : Int32)))) k) ?_
  show Go p e below _ (T1.setTop (mkF m 14 #[.val (.ref a1), .val (.ref a2), .unset] []))
  refine Go.st (fun t k => XS.aloadN X1.here hx rfl (hb hby d9_14) rfl rfl k) ?_
  show Go p e below _ (T1.setTop (mkF m 15 #[.val (.ref a1), .val (.ref a2), .unset] [(.ref a2)]))
  obtain ⟨T2, X2, e2, st2⟩ := castY X1 hx hZ hown (w59 hw) e1 (Ins.self P2) (g := (mkF m 15 #[.val (.ref a1), .val (.ref a2), .unset] [(.ref a2)])) rfl rfl (hb hby d9_15)
  refine Go.st st2 ?_
  show Go p e below _ (T2.setTop (mkF m 18 #[.val (.ref a1), .val (.ref a2), .unset] [(.ref a2)]))
  refine Go.st (fun t k => XS.astoreN X2.here hx rfl (hb hby d9_18) rfl rfl (l' := #[.val (.ref a1), .val (.ref a2), .val (.ref a2)]) rfl k) ?_
  show Go p e below _ (T2.setTop (mkF m 19 #[.val (.ref a1), .val (.ref a2), .val (.ref a2)] []))
  obtain ⟨T3, X3, e3, st3⟩ := getS2 X2 hx hZ hown (host := "") (Or.inl (w14 hw)) Via.refl e2 (P3.ext O0.2) (g := (mkF m 19 #[.val (.ref a1), .val (.ref a2), .val (.ref a2)] [])) rfl (hb hby d9_19)
  refine Go.st st3 ?_
  show Go p e below _ (T3.setTop (mkF m 22 #[.val (.ref a1), .val (.ref a2), .val (.ref a2)] [(.int p3)]))
  refine Go.st (fun t k => XS.ifNo X3.here hx rfl (hb hby d9_22) rfl (Jvm.Free.XT.i0_eq_f P4) k) ?_
  show Go p e below _ (T3.setTop (mkF m 25 #[.val (.ref a1), .val (.ref a2), .val (.ref a2)] []))
  refine Go.st (fun t k => XS.aloadN X3.here hx rfl (hb hby d9_25) rfl rfl k) ?_
  show Go p e below _ (T3.setTop (mkF m 26 #[.val (.ref a1), .val (.ref a2), .val (.ref a2)] [(.ref a1)]))
  obtain ⟨T4, X4, e4, st4⟩ := getF X3 hx hZ hown (host := "") (Or.inl (w26 hw)) Via.refl e3 (P5.ext O0.2) (g := (mkF m 26 #[.val (.ref a1), .val (.ref a2), .val (.ref a2)] [(.ref a1)])) rfl rfl (hb hby d9_26)
  refine Go.st st4 ?_
  show Go p e below _ (T4.setTop (mkF m 29 #[.val (.ref a1), .val (.ref a2), .val (.ref a2)] [(.int (0 : Int32))]))
  refine Go.st (fun t k => XS.aloadN X4.here hx rfl (hb hby d9_29) rfl rfl k) ?_
  show Go p e below _ (T4.setTop (mkF m 30 #[.val (.ref a1), .val (.ref a2), .val (.ref a2)] [(.ref a2), (.int (0 : Int32))]))
  obtain ⟨T5, X5, e5, st5⟩ := getF X4 hx hZ hown (host := "") (Or.inl (w26 hw)) Via.refl e4 P6 (g := (mkF m 30 #[.val (.ref a1), .val (.ref a2), .val (.ref a2)] [(.ref a2), (.int (0 : Int32))])) rfl rfl (hb hby d9_30)
  refine Go.st st5 ?_
  show Go p e below _ (T5.setTop (mkF m 33 #[.val (.ref a1), .val (.ref a2), .val (.ref a2)] [(.int (0 : Int32)), (.int (0 : Int32))]))
  refine Go.st (fun t k => XS.icmpNo X5.here hx rfl (hb hby d9_33) rfl (Jvm.Free.XT.ii_ne_f (by decide : (0 : Int32) = (0 : Int32))) k) ?_
  show Go p e below _ (T5.setTop (mkF m 36 #[.val (.ref a1), .val (.ref a2), .val (.ref a2)] []))
  refine Go.st (fun t k => XS.aloadN X5.here hx rfl (hb hby d9_36) rfl rfl k) ?_
  show Go p e below _ (T5.setTop (mkF m 37 #[.val (.ref a1), .val (.ref a2), .val (.ref a2)] [(.ref a1)]))
  obtain ⟨T6, X6, e6, st6⟩ := getF X5 hx hZ hown (host := "") (Or.inl (w28 hw)) Via.refl e5 (P7.ext O0.2) (g := (mkF m 37 #[.val (.ref a1), .val (.ref a2), .val (.ref a2)] [(.ref a1)])) rfl rfl (hb hby d9_37)
  refine Go.st st6 ?_
  show Go p e below _ (T6.setTop (mkF m 40 #[.val (.ref a1), .val (.ref a2), .val (.ref a2)] [(.ref a4)]))
  refine Go.st (fun t k => XS.aloadN X6.here hx rfl (hb hby d9_40) rfl rfl k) ?_
  show Go p e below _ (T6.setTop (mkF m 41 #[.val (.ref a1), .val (.ref a2), .val (.ref a2)] [(.ref a2), (.ref a4)]))
  obtain ⟨T7, X7, e7, st7⟩ := getF X6 hx hZ hown (host := "") (Or.inl (w28 hw)) Via.refl e6 P8 (g := (mkF m 41 #[.val (.ref a1), .val (.ref a2), .val (.ref a2)] [(.ref a2), (.ref a4)])) rfl rfl (hb hby d9_41)
  refine Go.st st7 ?_
  show Go p e below _ (T7.setTop (mkF m 44 #[.val (.ref a1), .val (.ref a2), .val (.ref a2)] [(.ref a5), (.ref a4)]))
  obtain ⟨_, _, ⟨T8, L8, k8, n8⟩, -, X8, ⟨Lc8, hQ8, l8, y8, z8⟩, st8⟩ := Jvm.LawKit.callS X7 hx (y := (⟨"java/lang/StringLatin1", "equals", "([B[B)Z"⟩ : MethodName)) hown (mvT hZ (w60 hw)) (mvT hZ (w61 hw)) (mvT hZ (w62 hw)) (mvT hZ (w63 hw)) (by decide) (backOf (W := 0) (rm10_1 l Z a0 hw [] a4 a5 k6 k7 h0 n0 O0 P9 P10) hZ (w63 hw) (w62 hw) (by decide) (by decide)) (g := (mkF m 44 #[.val (.ref a1), .val (.ref a2), .val (.ref a2)] [(.ref a5), (.ref a4)])) rfl (by rw [hml]; rfl) (argsL := [(.ref a4), (.ref a5)]) (rest := []) (lenOf pd_6 rfl) rfl (by show 2 * 0 + _ ≤ _; exact Nat.le_of_eq rfl) (hb hby d9_44) (fun vm₁ hw₁ => ⟨rfl, e7, (by decide : 0 + 0 ≤ _), (by decide : 0 + 0 ≤ _)⟩)
  dsimp only [Pt.U, Pt.locs, Pt.cells, Pt.slots] at X8 l8 y8 z8 st8 hQ8
  subst l8 y8 z8
  obtain ⟨rfl, M8, eh8⟩ := hQ8
  have N8 := Fr.app N0 M8
  refine Go.st st8 ?_
  show Go p e below _ (T8.setTop (mkF m 47 #[.val (.ref a1), .val (.ref a2), .val (.ref a2)] [(.int (1 : Int32))]))
  refine Go.st (fun t k => XS.ifNo X8.here hx rfl (hb hby d9_47) rfl (Jvm.Free.XT.i0_eq_f (by decide : ¬ ((1 : Int32) = (0 : Int32)))) k) ?_
  show Go p e below _ (T8.setTop (mkF m 50 #[.val (.ref a1), .val (.ref a2), .val (.ref a2)] []))
  refine Go.st (fun t k => XS.iconst X8.here hx rfl (hb hby d9_50) k) ?_
  show Go p e below _ (T8.setTop (mkF m 51 #[.val (.ref a1), .val (.ref a2), .val (.ref a2)] [(.int (1 : Int32))]))
  refine Go.st (fun t k => XS.goto X8.here hx rfl (pc0 := 51) (pc' := 55) rfl (hb hby d9_51) (by decide) (by decide) k) ?_
  show Go p e below _ (T8.setTop (mkF m 55 #[.val (.ref a1), .val (.ref a2), .val (.ref a2)] [(.int (1 : Int32))]))
  obtain ⟨fs, hr, hrun, hended, hWd, hsame⟩ := X8.leave (v := some (.int (1 : Int32))) (fun h => by rw [Bd.returns] at h; cases h)
  refine ⟨_, _, ?_, hrun, hended, _, _, rfl, ?_, ⟨⟨_, rfl⟩, hWd, hsame.mono (by decide) (by decide)⟩⟩
  · exact retN X8 hx (t := .boolean) Bd.returns (by simp) (hb hby d9_55) hr
  · show Q_rm9_1 Z a1 a2 p3 a4 a5 k6 k7 h0 n0 _ T8.heap _
    rw [eh8]
    exact ⟨rfl, N8, rfl⟩
def Q_rm7_1 (Z : State) (a1 : Addr) (a2 : Addr) (k3 : ClassId) (a4 : Addr) (a5 : Addr) (a6 : Addr) (p7 : Int32) (a8 : Addr) (a9 : Addr) (k10 : ClassId) (k11 : ClassId) (h0 : Heap) (n0 : Nat) (v : Option Value) (h : Heap) (L : List Loc) : Prop := v = some (.ref a4) ∧ Fr n0 L ∧ Keep h0 h []
set_option maxRecDepth 65536 in
set_option maxHeartbeats 40000000 in
theorem rm7_1 (l : Launch) (Z : State) (a0 : Array Value) (hw : ∀ d ∈ tables_1, d.before a0 Z = true) (ws : List Jvm.Cond) (a1 : Addr) (a2 : Addr) (k3 : ClassId) (a4 : Addr) (a5 : Addr) (a6 : Addr) (p7 : Int32) (a8 : Addr) (a9 : Addr) (k10 : ClassId) (k11 : ClassId) (h0 : Heap) (n0 : Nat) (O0 : Old Z n0 h0) (P1 : Sta Z Z.heap "com/example/envelop/envelop/learn/Translation" "$VALUES" "[Lcom/example/envelop/envelop/learn/Translation;" (.ref a2)) (P2 : Arv Z Z.heap a2 k3 (.object "com/example/envelop/envelop/learn/Translation") (2 : Int32) [(.ref a4), (.ref a5)] .null) (P3 : Exa Z Z.heap a2 "[Lcom/example/envelop/envelop/learn/Translation;") (P4 : Fld Z Z.heap a4 "com/example/envelop/envelop/learn/Translation" "text" "Ljava/lang/String;" (.ref a6)) (P5 : Exa Z Z.heap a6 "java/lang/String") (P6 : a6 ≠ a1) (P7 : Exa Z h0 a1 "java/lang/String") (P8 : Sta Z Z.heap "java/lang/String" "COMPACT_STRINGS" "Z" (.int p7)) (P9 : ¬ (p7 = (0 : Int32))) (P10 : Fld Z Z.heap a6 "java/lang/String" "coder" "B" (.int (0 : Int32))) (P11 : Fld Z h0 a1 "java/lang/String" "coder" "B" (.int (0 : Int32))) (P12 : Fld Z Z.heap a6 "java/lang/String" "value" "[B" (.ref a8)) (P13 : Fld Z h0 a1 "java/lang/String" "value" "[B" (.ref a9)) (P14 : Arv Z Z.heap a8 k10 .byte (3 : Int32) [(.int (50 : Int32)), (.int (111 : Int32)), (.int (112 : Int32))] (.int (0 : Int32))) (P15 : Arv Z h0 a9 k11 .byte (3 : Int32) [(.int (50 : Int32)), (.int (111 : Int32)), (.int (112 : Int32))] (.int (0 : Int32))) :
    MetFree l (⟨"com/example/envelop/envelop/learn/Translation", "named", "(Ljava/lang/String;)Lcom/example/envelop/envelop/learn/Translation;"⟩ : MethodName) (head1 (Jvm.Cond.code (⟨"com/example/envelop/envelop/learn/Translation", "named", "(Ljava/lang/String;)Lcom/example/envelop/envelop/learn/Translation;"⟩ : MethodName) prog_28_method_4_code 5 (some (.object "com/example/envelop/envelop/learn/Translation")) :: ws) ({ frames := 2, cells := 1, slots := 2, locals := 28 } : Room)) (fun a U => a = #[(.ref a1)] ∧ Z.Warmed39 U.vm ∧ U.heap = h0) (fun _ _ _ _ _ => True) (fun _ U o U' => ∃ v L, o = .returned v ∧ Q_rm7_1 Z a1 a2 k3 a4 a5 a6 p7 a8 a9 k10 k11 h0 n0 v U'.heap L ∧ FrameEnd U o U' L ({ frames := 2, cells := 1, slots := 2, locals := 28 } : Room).cells ({ frames := 2, cells := 1, slots := 2, locals := 28 } : Room).slots) := by
  refine MetFree.of_bodySF (plainFor_of_name pn_2) hisR ?_
  intro p e s m args below meth c s₁ Bd hml0 hP hK
  obtain ⟨rfl, hZ, hh⟩ := hP
  have hx := Bd.exec
  have hby := Bd.bytes
  have hml : c.maxLocals = 5 := hml0
  have hown : s.vm.findClass "com/example/envelop/envelop/learn/Translation" = some m.cls := findClass_of_methodNamed Bd.named
  have hnm := (name_of_methodNamed Bd.named Bd.method).1
  have X0 : Stand p l e ({ frames := 2, cells := 1, slots := 2, locals := 28 } : Room) s m #[(.ref a1)] below meth c s₁ [] 0 0 := Stand.of_body Bd
  have e0 : s₁.heap = h0 := by rw [← hh, Bd.state]; rfl
  have N0 := Fr.nil n0
  refine Go.start (P := (fun o U' => ∃ v L, o = .returned v ∧ Q_rm7_1 Z a1 a2 k3 a4 a5 a6 p7 a8 a9 k10 k11 h0 n0 v U'.heap L ∧ FrameEnd s o U' L ({ frames := 2, cells := 1, slots := 2, locals := 28 } : Room).cells ({ frames := 2, cells := 1, slots := 2, locals := 28 } : Room).slots)) (castTop (g' := (mkF m 0 #[.val (.ref a1), .unset, .unset, .unset, .unset] [])) (by first | rfl | simp [entryFrame, mkF, argsToLocals, Value.category]) (T := s₁)) ?_
  obtain ⟨_, _, ⟨T1, L1, k1, n1⟩, -, X1, ⟨Lc1, hQ1, l1, y1, z1⟩, st1⟩ := Jvm.LawKit.callS X0 hx (y := (⟨"com/example/envelop/envelop/learn/Translation", "values", "()[Lcom/example/envelop/envelop/learn/Translation;"⟩ : MethodName)) hown (mvT hZ (w36 hw)) (mvT hZ (w37 hw)) (mvT hZ (w31 hw)) (mvT hZ (w38 hw)) (by decide) (backOf (W := 0) (rm8_1 l Z a0 hw [] a2 k3 a4 a5 h0 n0 O0 P1 P2 P3) hZ (w38 hw) (w31 hw) (by decide) (by decide)) (g := (mkF m 0 #[.val (.ref a1), .unset, .unset, .unset, .unset] [])) rfl (by rw [hml]; rfl) (argsL := []) (rest := []) (lenOf pd_5 rfl) rfl (by show 2 * 0 + _ ≤ _; exact Nat.le_of_eq rfl) (hb hby d7_0) (fun vm₁ hw₁ => ⟨rfl, e0, (by decide : 0 + 1 ≤ _), (by decide : 0 + 2 ≤ _)⟩)
  dsimp only [Pt.U, Pt.locs, Pt.cells, Pt.slots] at X1 l1 y1 z1 st1 hQ1
  subst l1 y1 z1
  obtain ⟨b2_1, rfl, M1, K1c, r1_0, r1_1, r1_2⟩ := hQ1
  have N1 := Fr.app N0 M1
  have g_b2_1 : n0 ≤ b2_1 := Nat.le_trans (own_n0 O0) r1_0
  have s_b2_1 : h0.size ≤ b2_1 := Nat.le_trans (Keep.refl h0 []).1 r1_0
  have O1 : Old Z n0 T1.heap := O0.keep K1c all0
  have K1 : Keep h0 T1.heap [] := (Keep.refl h0 []).trans K1c all0
  refine Go.st st1 ?_
  show Go p e below _ (T1.setTop (mkF m 3 #[.val (.ref a1), .unset, .unset, .unset, .unset] [(.ref b2_1)]))
  refine Go.st (fun t k => XS.astoreN X1.here hx rfl (hb hby d7_3) rfl rfl (l' := #[.val (.ref a1), .val (.ref b2_1), .unset, .unset, .unset]) rfl k) ?_
  show Go p e below _ (T1.setTop (mkF m 4 #[.val (.ref a1), .val (.ref b2_1), .unset, .unset, .unset] []))
  refine Go.st (fun t k => XS.aloadN X1.here hx rfl (hb hby d7_4) rfl rfl k) ?_
  show Go p e below _ (T1.setTop (mkF m 5 #[.val (.ref a1), .val (.ref b2_1), .unset, .unset, .unset] [(.ref b2_1)]))
  obtain ⟨cl2, Ar2, -, S2, M2, -, -⟩ := id r1_1
  refine Go.st (fun t k => X1.arraylength hx Ar2.1 (State.isArrayOf_alike hZ.alike Ar2.2.1) (g := (mkF m 5 #[.val (.ref a1), .val (.ref b2_1), .unset, .unset, .unset] [(.ref b2_1)])) rfl rfl (hb hby d7_5) t k) ?_
  rw [len_of S2 M2]
  show Go p e below _ (T1.setTop (mkF m 6 #[.val (.ref a1), .val (.ref b2_1), .unset, .unset, .unset] [(.int (2 : Int32))]))
  refine Go.st (fun t k => XS.istoreN X1.here hx rfl (hb hby d7_6) rfl (l' := #[.val (.ref a1), .val (.ref b2_1), .val (.int (2 : Int32)), .unset, .unset]) rfl k) ?_
  show Go p e below _ (T1.setTop (mkF m 7 #[.val (.ref a1), .val (.ref b2_1), .val (.int (2 : Int32)), .unset, .unset] []))
  refine Go.st (fun t k => XS.iconst X1.here hx rfl (hb hby d7_7) k) ?_
  show Go p e below _ (T1.setTop (mkF m 8 #[.val (.ref a1), .val (.ref b2_1), .val (.int (2 : Int32)), .unset, .unset] [(.int (0 : Int32))]))
  refine Go.st (fun t k => XS.istoreN X1.here hx rfl (hb hby d7_8) rfl (l' := #[.val (.ref a1), .val (.ref b2_1), .val (.int (2 : Int32)), .val (.int (0 : Int32)), .unset]) rfl k) ?_
  show Go p e below _ (T1.setTop (mkF m 9 #[.val (.ref a1), .val (.ref b2_1), .val (.int (2 : Int32)), .val (.int (0 : Int32)), .unset] []))
  refine Go.st (fun t k => XS.iloadN X1.here hx rfl (hb hby d7_9) rfl k) ?_
  show Go p e below _ (T1.setTop (mkF m 10 #[.val (.ref a1), .val (.ref b2_1), .val (.int (2 : Int32)), .val (.int (0 : Int32)), .unset] [(.int (0 : Int32))]))
  refine Go.st (fun t k => XS.iloadN X1.here hx rfl (hb hby d7_10) rfl k) ?_
  show Go p e below _ (T1.setTop (mkF m 11 #[.val (.ref a1), .val (.ref b2_1), .val (.int (2 : Int32)), .val (.int (0 : Int32)), .unset] [(.int (2 : Int32)), (.int (0 : Int32))]))
  refine Go.st (fun t k => XS.icmpNo X1.here hx rfl (hb hby d7_11) rfl (Jvm.Free.XT.ii_ge_f (by decide : (0 : Int32) < (2 : Int32))) k) ?_
  show Go p e below _ (T1.setTop (mkF m 14 #[.val (.ref a1), .val (.ref b2_1), .val (.int (2 : Int32)), .val (.int (0 : Int32)), .unset] []))
  refine Go.st (fun t k => XS.aloadN X1.here hx rfl (hb hby d7_14) rfl rfl k) ?_
  show Go p e below _ (T1.setTop (mkF m 15 #[.val (.ref a1), .val (.ref b2_1), .val (.int (2 : Int32)), .val (.int (0 : Int32)), .unset] [(.ref b2_1)]))
  refine Go.st (fun t k => XS.iloadN X1.here hx rfl (hb hby d7_15) rfl k) ?_
  show Go p e below _ (T1.setTop (mkF m 16 #[.val (.ref a1), .val (.ref b2_1), .val (.int (2 : Int32)), .val (.int (0 : Int32)), .unset] [(.int (0 : Int32)), (.ref b2_1)]))
  obtain ⟨cl3, Ar3, q3, S3, M3, H3, G3⟩ := id r1_1
  have hin3 : ¬ ((0 : Int32) < 0 ∨ cl3.slots.size ≤ ((0 : Int32)).toNatClampNeg) := inb_of S3 ⟨by decide, by decide⟩
  have hat3 : cl3.slots[((0 : Int32)).toNatClampNeg]? = some (.ref a4) := H3.at hin3 rfl
  refine Go.st (fun t k => X1.aaload hx (j := (0 : Int32)) (v := (.ref a4)) Ar3.1 (State.isArrayOf_alike hZ.alike Ar3.2.1) rfl Ar3.2.2 hin3 hat3 (g := (mkF m 16 #[.val (.ref a1), .val (.ref b2_1), .val (.int (2 : Int32)), .val (.int (0 : Int32)), .unset] [(.int (0 : Int32)), (.ref b2_1)])) rfl rfl (hb hby d7_16) t k) ?_
  show Go p e below _ (T1.setTop (mkF m 17 #[.val (.ref a1), .val (.ref b2_1), .val (.int (2 : Int32)), .val (.int (0 : Int32)), .unset] [(.ref a4)]))
  refine Go.st (fun t k => XS.astore X1.here hx rfl (hb hby d7_17) rfl rfl (l' := #[.val (.ref a1), .val (.ref b2_1), .val (.int (2 : Int32)), .val (.int (0 : Int32)), .val (.ref a4)]) rfl k) ?_
  show Go p e below _ (T1.setTop (mkF m 19 #[.val (.ref a1), .val (.ref b2_1), .val (.int (2 : Int32)), .val (.int (0 : Int32)), .val (.ref a4)] []))
  refine Go.st (fun t k => XS.aload X1.here hx rfl (hb hby d7_19) rfl rfl k) ?_
  show Go p e below _ (T1.setTop (mkF m 21 #[.val (.ref a1), .val (.ref b2_1), .val (.int (2 : Int32)), .val (.int (0 : Int32)), .val (.ref a4)] [(.ref a4)]))
  obtain ⟨T4, X4, e4, st4⟩ := getF X1 hx hZ hown (host := "") (Or.inl (w52 hw)) Via.refl rfl (P4.ext O1.2) (g := (mkF m 21 #[.val (.ref a1), .val (.ref b2_1), .val (.int (2 : Int32)), .val (.int (0 : Int32)), .val (.ref a4)] [(.ref a4)])) rfl rfl (hb hby d7_21)
  refine Go.st st4 ?_
  show Go p e below _ (T4.setTop (mkF m 24 #[.val (.ref a1), .val (.ref b2_1), .val (.int (2 : Int32)), .val (.int (0 : Int32)), .val (.ref a4)] [(.ref a6)]))
  refine Go.st (fun t k => XS.aloadN X4.here hx rfl (hb hby d7_24) rfl rfl k) ?_
  show Go p e below _ (T4.setTop (mkF m 25 #[.val (.ref a1), .val (.ref b2_1), .val (.int (2 : Int32)), .val (.int (0 : Int32)), .val (.ref a4)] [(.ref a1), (.ref a6)]))
  obtain ⟨cq5, kq5, q5a, q5b, q5c⟩ := isOf hZ e4 (P5.ext O1.2)
  obtain ⟨_, _, ⟨T5, L5, k5, n5⟩, -, X5, ⟨Lc5, hQ5, l5, y5, z5⟩, st5⟩ := X4.virtualBack hx (y := (⟨"java/lang/String", "equals", "(Ljava/lang/Object;)Z"⟩ : MethodName)) (z := (⟨"java/lang/String", "equals", "(Ljava/lang/Object;)Z"⟩ : MethodName)) hown (mvT hZ (w54 hw)) (mvT hZ (w55 hw)) (notFace_of_selects (args := #[]) (mvT hZ (w57 hw))) (mvT hZ (w57 hw)) (mvT hZ (w56 hw)) (by decide) (backOf (W := 0) (rm9_1 l Z a0 hw [] a6 a1 p7 a8 a9 k10 k11 T1.heap n0 O1 P6 (P7.keep K1c) P8 P9 P10 (P11.keep K1c nin0) P12 (P13.keep K1c nin0) P14 (P15.keep K1c nin0)) hZ (w58 hw) (w3 hw) (by decide) (by decide)) q5a q5c (g := (mkF m 25 #[.val (.ref a1), .val (.ref b2_1), .val (.int (2 : Int32)), .val (.int (0 : Int32)), .val (.ref a4)] [(.ref a1), (.ref a6)])) rfl (by rw [hml]; rfl) (Steps.refl _) (argsL := [(.ref a1)]) (rest := []) (lenOf pd_7 rfl) rfl (by show 2 * 0 + _ ≤ _; exact Nat.le_of_eq rfl) (hb hby d7_25) (fun vm₁ hw₁ => ⟨rfl, e4, (by decide : 1 + 0 ≤ _), (by decide : 2 + 0 ≤ _)⟩)
  dsimp only [Pt.U, Pt.locs, Pt.cells, Pt.slots] at X5 l5 y5 z5 st5 hQ5
  subst l5 y5 z5
  obtain ⟨rfl, M5, eh5⟩ := hQ5
  have N5 := Fr.app N1 M5
  refine Go.tr st5 ?_
  show Go p e below _ (T5.setTop (mkF m 28 #[.val (.ref a1), .val (.ref b2_1), .val (.int (2 : Int32)), .val (.int (0 : Int32)), .val (.ref a4)] [(.int (1 : Int32))]))
  refine Go.st (fun t k => XS.ifNo X5.here hx rfl (hb hby d7_28) rfl (Jvm.Free.XT.i0_eq_f (by decide : ¬ ((1 : Int32) = (0 : Int32)))) k) ?_
  show Go p e below _ (T5.setTop (mkF m 31 #[.val (.ref a1), .val (.ref b2_1), .val (.int (2 : Int32)), .val (.int (0 : Int32)), .val (.ref a4)] []))
  refine Go.st (fun t k => XS.aload X5.here hx rfl (hb hby d7_31) rfl rfl k) ?_
  show Go p e below _ (T5.setTop (mkF m 33 #[.val (.ref a1), .val (.ref b2_1), .val (.int (2 : Int32)), .val (.int (0 : Int32)), .val (.ref a4)] [(.ref a4)]))
  obtain ⟨fs, hr, hrun, hended, hWd, hsame⟩ := X5.leave (v := some (.ref a4)) (fun h => by rw [Bd.returns] at h; cases h)
  refine ⟨_, _, ?_, hrun, hended, _, _, rfl, ?_, ⟨⟨_, rfl⟩, hWd, hsame.mono (by decide) (by decide)⟩⟩
  · exact own_retA X5 hx Bd.returns rfl rfl (hb hby d7_33) hr
  · show Q_rm7_1 Z a1 a2 k3 a4 a5 a6 p7 a8 a9 k10 k11 h0 n0 _ T5.heap _
    rw [eh5]
    exact ⟨rfl, N5, K1⟩
def Q_rm11_1 (Z : State) (a1 : Addr) (a2 : Addr) (h0 : Heap) (n0 : Nat) (v : Option Value) (h : Heap) (L : List Loc) : Prop := v = some (.ref a2) ∧ Fr n0 L ∧ h = h0
set_option maxRecDepth 65536 in
set_option maxHeartbeats 40000000 in
theorem rm11_1 (l : Launch) (Z : State) (a0 : Array Value) (hw : ∀ d ∈ tables_1, d.before a0 Z = true) (ws : List Jvm.Cond) (a1 : Addr) (a2 : Addr) (h0 : Heap) (n0 : Nat) (O0 : Old Z n0 h0) (P1 : Fld Z Z.heap a1 "com/example/envelop/envelop/learn/Translation" "text" "Ljava/lang/String;" (.ref a2)) :
    MetFree l (⟨"com/example/envelop/envelop/learn/Translation", "toString", "()Ljava/lang/String;"⟩ : MethodName) (head1 (Jvm.Cond.code (⟨"com/example/envelop/envelop/learn/Translation", "toString", "()Ljava/lang/String;"⟩ : MethodName) prog_28_method_6_code 1 (some (.object "java/lang/String")) :: ws) ({ frames := 0, cells := 0, slots := 0, locals := 0 } : Room)) (fun a U => a = #[(.ref a1)] ∧ Z.Warmed39 U.vm ∧ U.heap = h0) (fun _ _ _ _ _ => True) (fun _ U o U' => ∃ v L, o = .returned v ∧ Q_rm11_1 Z a1 a2 h0 n0 v U'.heap L ∧ FrameEnd U o U' L ({ frames := 0, cells := 0, slots := 0, locals := 0 } : Room).cells ({ frames := 0, cells := 0, slots := 0, locals := 0 } : Room).slots) := by
  refine MetFree.of_bodySF (plainFor_of_name pn_2) hisR ?_
  intro p e s m args below meth c s₁ Bd hml0 hP hK
  obtain ⟨rfl, hZ, hh⟩ := hP
  have hx := Bd.exec
  have hby := Bd.bytes
  have hml : c.maxLocals = 1 := hml0
  have hown : s.vm.findClass "com/example/envelop/envelop/learn/Translation" = some m.cls := findClass_of_methodNamed Bd.named
  have hnm := (name_of_methodNamed Bd.named Bd.method).1
  have X0 : Stand p l e ({ frames := 0, cells := 0, slots := 0, locals := 0 } : Room) s m #[(.ref a1)] below meth c s₁ [] 0 0 := Stand.of_body Bd
  have e0 : s₁.heap = h0 := by rw [← hh, Bd.state]; rfl
  have N0 := Fr.nil n0
  refine Go.start (P := (fun o U' => ∃ v L, o = .returned v ∧ Q_rm11_1 Z a1 a2 h0 n0 v U'.heap L ∧ FrameEnd s o U' L ({ frames := 0, cells := 0, slots := 0, locals := 0 } : Room).cells ({ frames := 0, cells := 0, slots := 0, locals := 0 } : Room).slots)) (castTop (g' := (mkF m 0 #[.val (.ref a1)] [])) (by first | rfl | simp [entryFrame, mkF, argsToLocals, Value.category]) (T := s₁)) ?_
  refine Go.st (fun t k => XS.aloadN X0.here hx rfl (hb hby d11_0) rfl rfl k) ?_
  show Go p e below _ (s₁.setTop (mkF m 1 #[.val (.ref a1)] [(.ref a1)]))
  obtain ⟨T1, X1, e1, st1⟩ := getF X0 hx hZ hown (host := "") (Or.inl (w52 hw)) Via.refl e0 (P1.ext O0.2) (g := (mkF m 1 #[.val (.ref a1)] [(.ref a1)])) rfl rfl (hb hby d11_1)
  refine Go.st st1 ?_
  show Go p e below _ (T1.setTop (mkF m 4 #[.val (.ref a1)] [(.ref a2)]))
  obtain ⟨fs, hr, hrun, hended, hWd, hsame⟩ := X1.leave (v := some (.ref a2)) (fun h => by rw [Bd.returns] at h; cases h)
  refine ⟨_, _, ?_, hrun, hended, _, _, rfl, ?_, ⟨⟨_, rfl⟩, hWd, hsame.mono (by decide) (by decide)⟩⟩
  · exact own_retA X1 hx Bd.returns rfl rfl (hb hby d11_4) hr
  · show Q_rm11_1 Z a1 a2 h0 n0 _ T1.heap _
    rw [e1]
    exact ⟨rfl, N0, rfl⟩
def Q_rm5_2 (Z : State) (a1 : Addr) (a2 : Addr) (k3 : ClassId) (k4 : ClassId) (h0 : Heap) (n0 : Nat) (v : Option Value) (h : Heap) (L : List Loc) : Prop := v = some (.int (3 : Int32)) ∧ Fr n0 L ∧ Keep h0 h [a2] ∧ Arv Z h a2 k4 .byte (3 : Int32) [(.int (51 : Int32)), (.int (111 : Int32)), (.int (112 : Int32))] (.int (0 : Int32))
set_option maxRecDepth 65536 in
set_option maxHeartbeats 40000000 in
theorem rm5_2 (l : Launch) (Z : State) (a0 : Array Value) (hw : ∀ d ∈ tables_1, d.before a0 Z = true) (ws : List Jvm.Cond) (a1 : Addr) (a2 : Addr) (k3 : ClassId) (k4 : ClassId) (h0 : Heap) (n0 : Nat) (O0 : Old Z n0 h0) (P1 : Arv Z h0 a1 k3 .char (3 : Int32) [(.int (51 : Int32)), (.int (111 : Int32)), (.int (112 : Int32))] (.int (0 : Int32))) (P2 : Arv Z h0 a2 k4 .byte (3 : Int32) [(.int (0 : Int32)), (.int (0 : Int32)), (.int (0 : Int32))] (.int (0 : Int32))) (P3 : n0 ≤ a2) (P4 : a1 ≠ a2) :
    MetFree l (⟨"java/lang/StringUTF16", "compress", "([CI[BII)I"⟩ : MethodName) (head1 (Jvm.Cond.code (⟨"java/lang/StringUTF16", "compress", "([CI[BII)I"⟩ : MethodName) jdk_52_method_21_code 7 (some .int) :: ws) ({ frames := 0, cells := 0, slots := 0, locals := 0 } : Room)) (fun a U => a = #[(.ref a1), (.int (0 : Int32)), (.ref a2), (.int (0 : Int32)), (.int (3 : Int32))] ∧ Z.Warmed39 U.vm ∧ U.heap = h0) (fun _ _ _ _ _ => True) (fun _ U o U' => ∃ v L, o = .returned v ∧ Q_rm5_2 Z a1 a2 k3 k4 h0 n0 v U'.heap L ∧ FrameEnd U o U' L ({ frames := 0, cells := 0, slots := 0, locals := 0 } : Room).cells ({ frames := 0, cells := 0, slots := 0, locals := 0 } : Room).slots) := by
  refine MetFree.of_bodySF (plainFor_of_name pn_0) hisR ?_
  intro p e s m args below meth c s₁ Bd hml0 hP hK
  obtain ⟨rfl, hZ, hh⟩ := hP
  have hx := Bd.exec
  have hby := Bd.bytes
  have hml : c.maxLocals = 7 := hml0
  have hown : s.vm.findClass "java/lang/StringUTF16" = some m.cls := findClass_of_methodNamed Bd.named
  have hnm := (name_of_methodNamed Bd.named Bd.method).1
  have X0 : Stand p l e ({ frames := 0, cells := 0, slots := 0, locals := 0 } : Room) s m #[(.ref a1), (.int (0 : Int32)), (.ref a2), (.int (0 : Int32)), (.int (3 : Int32))] below meth c s₁ [] 0 0 := Stand.of_body Bd
  have e0 : s₁.heap = h0 := by rw [← hh, Bd.state]; rfl
  have N0 := Fr.nil n0
  refine Go.start (P := (fun o U' => ∃ v L, o = .returned v ∧ Q_rm5_2 Z a1 a2 k3 k4 h0 n0 v U'.heap L ∧ FrameEnd s o U' L ({ frames := 0, cells := 0, slots := 0, locals := 0 } : Room).cells ({ frames := 0, cells := 0, slots := 0, locals := 0 } : Room).slots)) (castTop (g' := (mkF m 0 #[.val (.ref a1), .val (.int (0 : Int32)), .val (.ref a2), .val (.int (0 : Int32)), .val (.int (3 : Int32)), .unset, .unset] [])) (by first | rfl | simp [entryFrame, mkF, argsToLocals, Value.category]) (T := s₁)) ?_
  refine Go.st (fun t k => XS.iconst X0.here hx rfl (hb hby d5_0) k) ?_
  show Go p e below _ (s₁.setTop (mkF m 1 #[.val (.ref a1), .val (.int (0 : Int32)), .val (.ref a2), .val (.int (0 : Int32)), .val (.int (3 : Int32)), .unset, .unset] [(.int (0 : Int32))]))
  refine Go.st (fun t k => XS.istore X0.here hx rfl (hb hby d5_1) rfl (l' := #[.val (.ref a1), .val (.int (0 : Int32)), .val (.ref a2), .val (.int (0 : Int32)), .val (.int (3 : Int32)), .val (.int (0 : Int32)), .unset]) rfl k) ?_
  show Go p e below _ (s₁.setTop (mkF m 3 #[.val (.ref a1), .val (.int (0 : Int32)), .val (.ref a2), .val (.int (0 : Int32)), .val (.int (3 : Int32)), .val (.int (0 : Int32)), .unset] []))
  refine Go.st (fun t k => XS.iload X0.here hx rfl (hb hby d5_3) rfl k) ?_
  show Go p e below _ (s₁.setTop (mkF m 5 #[.val (.ref a1), .val (.int (0 : Int32)), .val (.ref a2), .val (.int (0 : Int32)), .val (.int (3 : Int32)), .val (.int (0 : Int32)), .unset] [(.int (0 : Int32))]))
  refine Go.st (fun t k => XS.iload X0.here hx rfl (hb hby d5_5) rfl k) ?_
  show Go p e below _ (s₁.setTop (mkF m 7 #[.val (.ref a1), .val (.int (0 : Int32)), .val (.ref a2), .val (.int (0 : Int32)), .val (.int (3 : Int32)), .val (.int (0 : Int32)), .unset] [(.int (3 : Int32)), (.int (0 : Int32))]))
  refine Go.st (fun t k => XS.icmpNo X0.here hx rfl (hb hby d5_7) rfl (Jvm.Free.XT.ii_ge_f (by decide : (0 : Int32) < (3 : Int32))) k) ?_
  show Go p e below _ (s₁.setTop (mkF m 10 #[.val (.ref a1), .val (.int (0 : Int32)), .val (.ref a2), .val (.int (0 : Int32)), .val (.int (3 : Int32)), .val (.int (0 : Int32)), .unset] []))
  refine Go.st (fun t k => XS.aloadN X0.here hx rfl (hb hby d5_10) rfl rfl k) ?_
  show Go p e below _ (s₁.setTop (mkF m 11 #[.val (.ref a1), .val (.int (0 : Int32)), .val (.ref a2), .val (.int (0 : Int32)), .val (.int (3 : Int32)), .val (.int (0 : Int32)), .unset] [(.ref a1)]))
  refine Go.st (fun t k => XS.iloadN X0.here hx rfl (hb hby d5_11) rfl k) ?_
  show Go p e below _ (s₁.setTop (mkF m 12 #[.val (.ref a1), .val (.int (0 : Int32)), .val (.ref a2), .val (.int (0 : Int32)), .val (.int (3 : Int32)), .val (.int (0 : Int32)), .unset] [(.int (0 : Int32)), (.ref a1)]))
  obtain ⟨cl1, Ar1, q1, S1, M1, H1, G1⟩ := id P1
  have hin1 : ¬ ((0 : Int32) < 0 ∨ cl1.slots.size ≤ ((0 : Int32)).toNatClampNeg) := inb_of S1 ⟨by decide, by decide⟩
  have hat1 : cl1.slots[((0 : Int32)).toNatClampNeg]? = some (.int (51 : Int32)) := H1.at hin1 rfl
  refine Go.st (fun t k => X0.caload hx (j := (0 : Int32)) (v := (.int (51 : Int32))) (by rw [e0]; exact Ar1.1) (State.isArrayOf_alike hZ.alike Ar1.2.1) Ar1.2.2 hin1 hat1 (g := (mkF m 12 #[.val (.ref a1), .val (.int (0 : Int32)), .val (.ref a2), .val (.int (0 : Int32)), .val (.int (3 : Int32)), .val (.int (0 : Int32)), .unset] [(.int (0 : Int32)), (.ref a1)])) rfl rfl (hb hby d5_12) t k) ?_
  show Go p e below _ (s₁.setTop (mkF m 13 #[.val (.ref a1), .val (.int (0 : Int32)), .val (.ref a2), .val (.int (0 : Int32)), .val (.int (3 : Int32)), .val (.int (0 : Int32)), .unset] [(.int (51 : Int32))]))
  refine Go.st (fun t k => XS.istore X0.here hx rfl (hb hby d5_13) rfl (l' := #[.val (.ref a1), .val (.int (0 : Int32)), .val (.ref a2), .val (.int (0 : Int32)), .val (.int (3 : Int32)), .val (.int (0 : Int32)), .val (.int (51 : Int32))]) rfl k) ?_
  show Go p e below _ (s₁.setTop (mkF m 15 #[.val (.ref a1), .val (.int (0 : Int32)), .val (.ref a2), .val (.int (0 : Int32)), .val (.int (3 : Int32)), .val (.int (0 : Int32)), .val (.int (51 : Int32))] []))
  refine Go.st (fun t k => XS.iload X0.here hx rfl (hb hby d5_15) rfl k) ?_
  show Go p e below _ (s₁.setTop (mkF m 17 #[.val (.ref a1), .val (.int (0 : Int32)), .val (.ref a2), .val (.int (0 : Int32)), .val (.int (3 : Int32)), .val (.int (0 : Int32)), .val (.int (51 : Int32))] [(.int (51 : Int32))]))
  refine Go.st (fun t k => XS.sipush X0.here hx rfl (hb hby d5_17) k) ?_
  show Go p e below _ (s₁.setTop (mkF m 20 #[.val (.ref a1), .val (.int (0 : Int32)), .val (.ref a2), .val (.int (0 : Int32)), .val (.int (3 : Int32)), .val (.int (0 : Int32)), .val (.int (51 : Int32))] [(.int (255 : Int32)), (.int (51 : Int32))]))
  refine Go.st (fun t k => XS.icmpYes X0.here hx rfl (pc0 := 20) (pc' := 26) rfl (hb hby d5_20) rfl (Jvm.Free.XT.ii_le_t (by decide : ¬ ((255 : Int32) < (51 : Int32)))) (by decide) (by decide) k) ?_
  show Go p e below _ (s₁.setTop (mkF m 26 #[.val (.ref a1), .val (.int (0 : Int32)), .val (.ref a2), .val (.int (0 : Int32)), .val (.int (3 : Int32)), .val (.int (0 : Int32)), .val (.int (51 : Int32))] []))
  refine Go.st (fun t k => XS.aloadN X0.here hx rfl (hb hby d5_26) rfl rfl k) ?_
  show Go p e below _ (s₁.setTop (mkF m 27 #[.val (.ref a1), .val (.int (0 : Int32)), .val (.ref a2), .val (.int (0 : Int32)), .val (.int (3 : Int32)), .val (.int (0 : Int32)), .val (.int (51 : Int32))] [(.ref a2)]))
  refine Go.st (fun t k => XS.iloadN X0.here hx rfl (hb hby d5_27) rfl k) ?_
  show Go p e below _ (s₁.setTop (mkF m 28 #[.val (.ref a1), .val (.int (0 : Int32)), .val (.ref a2), .val (.int (0 : Int32)), .val (.int (3 : Int32)), .val (.int (0 : Int32)), .val (.int (51 : Int32))] [(.int (0 : Int32)), (.ref a2)]))
  refine Go.st (fun t k => XS.iload X0.here hx rfl (hb hby d5_28) rfl k) ?_
  show Go p e below _ (s₁.setTop (mkF m 30 #[.val (.ref a1), .val (.int (0 : Int32)), .val (.ref a2), .val (.int (0 : Int32)), .val (.int (3 : Int32)), .val (.int (0 : Int32)), .val (.int (51 : Int32))] [(.int (51 : Int32)), (.int (0 : Int32)), (.ref a2)]))
  refine Go.st (fun t k => XS.i2b X0.here hx rfl (hb hby d5_30) rfl k) ?_
  show Go p e below _ (s₁.setTop (mkF m 31 #[.val (.ref a1), .val (.int (0 : Int32)), .val (.ref a2), .val (.int (0 : Int32)), .val (.int (3 : Int32)), .val (.int (0 : Int32)), .val (.int (51 : Int32))] [(.int (51 : Int32)), (.int (0 : Int32)), (.ref a2)]))
  obtain ⟨cl2, Ar2, q2, S2, M2, H2, G2⟩ := id P2
  have hin2 : ¬ ((0 : Int32) < 0 ∨ cl2.slots.size ≤ ((0 : Int32)).toNatClampNeg) := inb_of S2 ⟨by decide, by decide⟩
  obtain ⟨T2, h2, X2, e2, W2, st2⟩ := stB X0 hx hZ e0 Ar2 (j := (0 : Int32)) hin2 (g := (mkF m 31 #[.val (.ref a1), .val (.int (0 : Int32)), .val (.ref a2), .val (.int (0 : Int32)), .val (.int (3 : Int32)), .val (.int (0 : Int32)), .val (.int (51 : Int32))] [(.int (51 : Int32)), (.int (0 : Int32)), (.ref a2)])) rfl rfl (hb hby d5_31)
  have V2 : Arv Z h2 a2 k4 .byte (3 : Int32) [(.int (51 : Int32)), (.int (0 : Int32)), (.int (0 : Int32))] (.int (0 : Int32)) := Arv.set Ar2 q2 S2 M2 H2 G2 (by decide) W2 0 rfl (Nat.le_of_ble_eq_true rfl)
  have N2 := Fr.snoc X2 N0 P3
  have O2 : Old Z n0 h2 := O0.wr W2 P3
  have K2 : Keep h0 h2 [a2] := (Keep.refl h0 [a2]).wr W2 (Or.inl (List.mem_of_getElem? (i := 0) rfl))
  refine Go.st st2 ?_
  show Go p e below _ (T2.setTop (mkF m 32 #[.val (.ref a1), .val (.int (0 : Int32)), .val (.ref a2), .val (.int (0 : Int32)), .val (.int (3 : Int32)), .val (.int (0 : Int32)), .val (.int (51 : Int32))] []))
  refine Go.st (fun t k => XS.iinc X2.here hx rfl (hb hby d5_32) rfl (l' := #[.val (.ref a1), .val (.int (1 : Int32)), .val (.ref a2), .val (.int (0 : Int32)), .val (.int (3 : Int32)), .val (.int (0 : Int32)), .val (.int (51 : Int32))]) rfl k) ?_
  show Go p e below _ (T2.setTop (mkF m 35 #[.val (.ref a1), .val (.int (1 : Int32)), .val (.ref a2), .val (.int (0 : Int32)), .val (.int (3 : Int32)), .val (.int (0 : Int32)), .val (.int (51 : Int32))] []))
  refine Go.st (fun t k => XS.iinc X2.here hx rfl (hb hby d5_35) rfl (l' := #[.val (.ref a1), .val (.int (1 : Int32)), .val (.ref a2), .val (.int (1 : Int32)), .val (.int (3 : Int32)), .val (.int (0 : Int32)), .val (.int (51 : Int32))]) rfl k) ?_
  show Go p e below _ (T2.setTop (mkF m 38 #[.val (.ref a1), .val (.int (1 : Int32)), .val (.ref a2), .val (.int (1 : Int32)), .val (.int (3 : Int32)), .val (.int (0 : Int32)), .val (.int (51 : Int32))] []))
  refine Go.st (fun t k => XS.iinc X2.here hx rfl (hb hby d5_38) rfl (l' := #[.val (.ref a1), .val (.int (1 : Int32)), .val (.ref a2), .val (.int (1 : Int32)), .val (.int (3 : Int32)), .val (.int (1 : Int32)), .val (.int (51 : Int32))]) rfl k) ?_
  show Go p e below _ (T2.setTop (mkF m 41 #[.val (.ref a1), .val (.int (1 : Int32)), .val (.ref a2), .val (.int (1 : Int32)), .val (.int (3 : Int32)), .val (.int (1 : Int32)), .val (.int (51 : Int32))] []))
  refine Go.st (fun t k => XS.goto X2.here hx rfl (pc0 := 41) (pc' := 3) rfl (hb hby d5_41) (by decide) (by decide) k) ?_
  show Go p e below _ (T2.setTop (mkF m 3 #[.val (.ref a1), .val (.int (1 : Int32)), .val (.ref a2), .val (.int (1 : Int32)), .val (.int (3 : Int32)), .val (.int (1 : Int32)), .val (.int (51 : Int32))] []))
  refine Go.st (fun t k => XS.iload X2.here hx rfl (hb hby d5_3) rfl k) ?_
  show Go p e below _ (T2.setTop (mkF m 5 #[.val (.ref a1), .val (.int (1 : Int32)), .val (.ref a2), .val (.int (1 : Int32)), .val (.int (3 : Int32)), .val (.int (1 : Int32)), .val (.int (51 : Int32))] [(.int (1 : Int32))]))
  refine Go.st (fun t k => XS.iload X2.here hx rfl (hb hby d5_5) rfl k) ?_
  show Go p e below _ (T2.setTop (mkF m 7 #[.val (.ref a1), .val (.int (1 : Int32)), .val (.ref a2), .val (.int (1 : Int32)), .val (.int (3 : Int32)), .val (.int (1 : Int32)), .val (.int (51 : Int32))] [(.int (3 : Int32)), (.int (1 : Int32))]))
  refine Go.st (fun t k => XS.icmpNo X2.here hx rfl (hb hby d5_7) rfl (Jvm.Free.XT.ii_ge_f (by decide : (1 : Int32) < (3 : Int32))) k) ?_
  show Go p e below _ (T2.setTop (mkF m 10 #[.val (.ref a1), .val (.int (1 : Int32)), .val (.ref a2), .val (.int (1 : Int32)), .val (.int (3 : Int32)), .val (.int (1 : Int32)), .val (.int (51 : Int32))] []))
  refine Go.st (fun t k => XS.aloadN X2.here hx rfl (hb hby d5_10) rfl rfl k) ?_
  show Go p e below _ (T2.setTop (mkF m 11 #[.val (.ref a1), .val (.int (1 : Int32)), .val (.ref a2), .val (.int (1 : Int32)), .val (.int (3 : Int32)), .val (.int (1 : Int32)), .val (.int (51 : Int32))] [(.ref a1)]))
  refine Go.st (fun t k => XS.iloadN X2.here hx rfl (hb hby d5_11) rfl k) ?_
  show Go p e below _ (T2.setTop (mkF m 12 #[.val (.ref a1), .val (.int (1 : Int32)), .val (.ref a2), .val (.int (1 : Int32)), .val (.int (3 : Int32)), .val (.int (1 : Int32)), .val (.int (51 : Int32))] [(.int (1 : Int32)), (.ref a1)]))
  obtain ⟨cl3, Ar3, q3, S3, M3, H3, G3⟩ := id (P1.other W2 P4)
  have hin3 : ¬ ((1 : Int32) < 0 ∨ cl3.slots.size ≤ ((1 : Int32)).toNatClampNeg) := inb_of S3 ⟨by decide, by decide⟩
  have hat3 : cl3.slots[((1 : Int32)).toNatClampNeg]? = some (.int (111 : Int32)) := H3.at hin3 rfl
  refine Go.st (fun t k => X2.caload hx (j := (1 : Int32)) (v := (.int (111 : Int32))) (by rw [e2]; exact Ar3.1) (State.isArrayOf_alike hZ.alike Ar3.2.1) Ar3.2.2 hin3 hat3 (g := (mkF m 12 #[.val (.ref a1), .val (.int (1 : Int32)), .val (.ref a2), .val (.int (1 : Int32)), .val (.int (3 : Int32)), .val (.int (1 : Int32)), .val (.int (51 : Int32))] [(.int (1 : Int32)), (.ref a1)])) rfl rfl (hb hby d5_12) t k) ?_
  show Go p e below _ (T2.setTop (mkF m 13 #[.val (.ref a1), .val (.int (1 : Int32)), .val (.ref a2), .val (.int (1 : Int32)), .val (.int (3 : Int32)), .val (.int (1 : Int32)), .val (.int (51 : Int32))] [(.int (111 : Int32))]))
  refine Go.st (fun t k => XS.istore X2.here hx rfl (hb hby d5_13) rfl (l' := #[.val (.ref a1), .val (.int (1 : Int32)), .val (.ref a2), .val (.int (1 : Int32)), .val (.int (3 : Int32)), .val (.int (1 : Int32)), .val (.int (111 : Int32))]) rfl k) ?_
  show Go p e below _ (T2.setTop (mkF m 15 #[.val (.ref a1), .val (.int (1 : Int32)), .val (.ref a2), .val (.int (1 : Int32)), .val (.int (3 : Int32)), .val (.int (1 : Int32)), .val (.int (111 : Int32))] []))
  refine Go.st (fun t k => XS.iload X2.here hx rfl (hb hby d5_15) rfl k) ?_
  show Go p e below _ (T2.setTop (mkF m 17 #[.val (.ref a1), .val (.int (1 : Int32)), .val (.ref a2), .val (.int (1 : Int32)), .val (.int (3 : Int32)), .val (.int (1 : Int32)), .val (.int (111 : Int32))] [(.int (111 : Int32))]))
  refine Go.st (fun t k => XS.sipush X2.here hx rfl (hb hby d5_17) k) ?_
  show Go p e below _ (T2.setTop (mkF m 20 #[.val (.ref a1), .val (.int (1 : Int32)), .val (.ref a2), .val (.int (1 : Int32)), .val (.int (3 : Int32)), .val (.int (1 : Int32)), .val (.int (111 : Int32))] [(.int (255 : Int32)), (.int (111 : Int32))]))
  refine Go.st (fun t k => XS.icmpYes X2.here hx rfl (pc0 := 20) (pc' := 26) rfl (hb hby d5_20) rfl (Jvm.Free.XT.ii_le_t (by decide : ¬ ((255 : Int32) < (111 : Int32)))) (by decide) (by decide) k) ?_
  show Go p e below _ (T2.setTop (mkF m 26 #[.val (.ref a1), .val (.int (1 : Int32)), .val (.ref a2), .val (.int (1 : Int32)), .val (.int (3 : Int32)), .val (.int (1 : Int32)), .val (.int (111 : Int32))] []))
  refine Go.st (fun t k => XS.aloadN X2.here hx rfl (hb hby d5_26) rfl rfl k) ?_
  show Go p e below _ (T2.setTop (mkF m 27 #[.val (.ref a1), .val (.int (1 : Int32)), .val (.ref a2), .val (.int (1 : Int32)), .val (.int (3 : Int32)), .val (.int (1 : Int32)), .val (.int (111 : Int32))] [(.ref a2)]))
  refine Go.st (fun t k => XS.iloadN X2.here hx rfl (hb hby d5_27) rfl k) ?_
  show Go p e below _ (T2.setTop (mkF m 28 #[.val (.ref a1), .val (.int (1 : Int32)), .val (.ref a2), .val (.int (1 : Int32)), .val (.int (3 : Int32)), .val (.int (1 : Int32)), .val (.int (111 : Int32))] [(.int (1 : Int32)), (.ref a2)]))
  refine Go.st (fun t k => XS.iload X2.here hx rfl (hb hby d5_28) rfl k) ?_
  show Go p e below _ (T2.setTop (mkF m 30 #[.val (.ref a1), .val (.int (1 : Int32)), .val (.ref a2), .val (.int (1 : Int32)), .val (.int (3 : Int32)), .val (.int (1 : Int32)), .val (.int (111 : Int32))] [(.int (111 : Int32)), (.int (1 : Int32)), (.ref a2)]))
  refine Go.st (fun t k => XS.i2b X2.here hx rfl (hb hby d5_30) rfl k) ?_
  show Go p e below _ (T2.setTop (mkF m 31 #[.val (.ref a1), .val (.int (1 : Int32)), .val (.ref a2), .val (.int (1 : Int32)), .val (.int (3 : Int32)), .val (.int (1 : Int32)), .val (.int (111 : Int32))] [(.int (111 : Int32)), (.int (1 : Int32)), (.ref a2)]))
  obtain ⟨cl4, Ar4, q4, S4, M4, H4, G4⟩ := id V2
  have hin4 : ¬ ((1 : Int32) < 0 ∨ cl4.slots.size ≤ ((1 : Int32)).toNatClampNeg) := inb_of S4 ⟨by decide, by decide⟩
  obtain ⟨T4, h4, X4, e4, W4, st4⟩ := stB X2 hx hZ e2 Ar4 (j := (1 : Int32)) hin4 (g := (mkF m 31 #[.val (.ref a1), .val (.int (1 : Int32)), .val (.ref a2), .val (.int (1 : Int32)), .val (.int (3 : Int32)), .val (.int (1 : Int32)), .val (.int (111 : Int32))] [(.int (111 : Int32)), (.int (1 : Int32)), (.ref a2)])) rfl rfl (hb hby d5_31)
  have V4 : Arv Z h4 a2 k4 .byte (3 : Int32) [(.int (51 : Int32)), (.int (111 : Int32)), (.int (0 : Int32))] (.int (0 : Int32)) := Arv.set Ar4 q4 S4 M4 H4 G4 (by decide) W4 1 rfl (Nat.le_of_ble_eq_true rfl)
  have N4 := Fr.snoc X4 N2 P3
  have O4 : Old Z n0 h4 := O2.wr W4 P3
  have K4 : Keep h0 h4 [a2] := K2.wr W4 (Or.inl (List.mem_of_getElem? (i := 0) rfl))
  refine Go.st st4 ?_
  show Go p e below _ (T4.setTop (mkF m 32 #[.val (.ref a1), .val (.int (1 : Int32)), .val (.ref a2), .val (.int (1 : Int32)), .val (.int (3 : Int32)), .val (.int (1 : Int32)), .val (.int (111 : Int32))] []))
  refine Go.st (fun t k => XS.iinc X4.here hx rfl (hb hby d5_32) rfl (l' := #[.val (.ref a1), .val (.int (2 : Int32)), .val (.ref a2), .val (.int (1 : Int32)), .val (.int (3 : Int32)), .val (.int (1 : Int32)), .val (.int (111 : Int32))]) rfl k) ?_
  show Go p e below _ (T4.setTop (mkF m 35 #[.val (.ref a1), .val (.int (2 : Int32)), .val (.ref a2), .val (.int (1 : Int32)), .val (.int (3 : Int32)), .val (.int (1 : Int32)), .val (.int (111 : Int32))] []))
  refine Go.st (fun t k => XS.iinc X4.here hx rfl (hb hby d5_35) rfl (l' := #[.val (.ref a1), .val (.int (2 : Int32)), .val (.ref a2), .val (.int (2 : Int32)), .val (.int (3 : Int32)), .val (.int (1 : Int32)), .val (.int (111 : Int32))]) rfl k) ?_
  show Go p e below _ (T4.setTop (mkF m 38 #[.val (.ref a1), .val (.int (2 : Int32)), .val (.ref a2), .val (.int (2 : Int32)), .val (.int (3 : Int32)), .val (.int (1 : Int32)), .val (.int (111 : Int32))] []))
  refine Go.st (fun t k => XS.iinc X4.here hx rfl (hb hby d5_38) rfl (l' := #[.val (.ref a1), .val (.int (2 : Int32)), .val (.ref a2), .val (.int (2 : Int32)), .val (.int (3 : Int32)), .val (.int (2 : Int32)), .val (.int (111 : Int32))]) rfl k) ?_
  show Go p e below _ (T4.setTop (mkF m 41 #[.val (.ref a1), .val (.int (2 : Int32)), .val (.ref a2), .val (.int (2 : Int32)), .val (.int (3 : Int32)), .val (.int (2 : Int32)), .val (.int (111 : Int32))] []))
  refine Go.st (fun t k => XS.goto X4.here hx rfl (pc0 := 41) (pc' := 3) rfl (hb hby d5_41) (by decide) (by decide) k) ?_
  show Go p e below _ (T4.setTop (mkF m 3 #[.val (.ref a1), .val (.int (2 : Int32)), .val (.ref a2), .val (.int (2 : Int32)), .val (.int (3 : Int32)), .val (.int (2 : Int32)), .val (.int (111 : Int32))] []))
  refine Go.st (fun t k => XS.iload X4.here hx rfl (hb hby d5_3) rfl k) ?_
  show Go p e below _ (T4.setTop (mkF m 5 #[.val (.ref a1), .val (.int (2 : Int32)), .val (.ref a2), .val (.int (2 : Int32)), .val (.int (3 : Int32)), .val (.int (2 : Int32)), .val (.int (111 : Int32))] [(.int (2 : Int32))]))
  refine Go.st (fun t k => XS.iload X4.here hx rfl (hb hby d5_5) rfl k) ?_
  show Go p e below _ (T4.setTop (mkF m 7 #[.val (.ref a1), .val (.int (2 : Int32)), .val (.ref a2), .val (.int (2 : Int32)), .val (.int (3 : Int32)), .val (.int (2 : Int32)), .val (.int (111 : Int32))] [(.int (3 : Int32)), (.int (2 : Int32))]))
  refine Go.st (fun t k => XS.icmpNo X4.here hx rfl (hb hby d5_7) rfl (Jvm.Free.XT.ii_ge_f (by decide : (2 : Int32) < (3 : Int32))) k) ?_
  show Go p e below _ (T4.setTop (mkF m 10 #[.val (.ref a1), .val (.int (2 : Int32)), .val (.ref a2), .val (.int (2 : Int32)), .val (.int (3 : Int32)), .val (.int (2 : Int32)), .val (.int (111 : Int32))] []))
  refine Go.st (fun t k => XS.aloadN X4.here hx rfl (hb hby d5_10) rfl rfl k) ?_
  show Go p e below _ (T4.setTop (mkF m 11 #[.val (.ref a1), .val (.int (2 : Int32)), .val (.ref a2), .val (.int (2 : Int32)), .val (.int (3 : Int32)), .val (.int (2 : Int32)), .val (.int (111 : Int32))] [(.ref a1)]))
  refine Go.st (fun t k => XS.iloadN X4.here hx rfl (hb hby d5_11) rfl k) ?_
  show Go p e below _ (T4.setTop (mkF m 12 #[.val (.ref a1), .val (.int (2 : Int32)), .val (.ref a2), .val (.int (2 : Int32)), .val (.int (3 : Int32)), .val (.int (2 : Int32)), .val (.int (111 : Int32))] [(.int (2 : Int32)), (.ref a1)]))
  obtain ⟨cl5, Ar5, q5, S5, M5, H5, G5⟩ := id ((P1.other W2 P4).other W4 P4)
  have hin5 : ¬ ((2 : Int32) < 0 ∨ cl5.slots.size ≤ ((2 : Int32)).toNatClampNeg) := inb_of S5 ⟨by decide, by decide⟩
  have hat5 : cl5.slots[((2 : Int32)).toNatClampNeg]? = some (.int (112 : Int32)) := H5.at hin5 rfl
  refine Go.st (fun t k => X4.caload hx (j := (2 : Int32)) (v := (.int (112 : Int32))) (by rw [e4]; exact Ar5.1) (State.isArrayOf_alike hZ.alike Ar5.2.1) Ar5.2.2 hin5 hat5 (g := (mkF m 12 #[.val (.ref a1), .val (.int (2 : Int32)), .val (.ref a2), .val (.int (2 : Int32)), .val (.int (3 : Int32)), .val (.int (2 : Int32)), .val (.int (111 : Int32))] [(.int (2 : Int32)), (.ref a1)])) rfl rfl (hb hby d5_12) t k) ?_
  show Go p e below _ (T4.setTop (mkF m 13 #[.val (.ref a1), .val (.int (2 : Int32)), .val (.ref a2), .val (.int (2 : Int32)), .val (.int (3 : Int32)), .val (.int (2 : Int32)), .val (.int (111 : Int32))] [(.int (112 : Int32))]))
  refine Go.st (fun t k => XS.istore X4.here hx rfl (hb hby d5_13) rfl (l' := #[.val (.ref a1), .val (.int (2 : Int32)), .val (.ref a2), .val (.int (2 : Int32)), .val (.int (3 : Int32)), .val (.int (2 : Int32)), .val (.int (112 : Int32))]) rfl k) ?_
  show Go p e below _ (T4.setTop (mkF m 15 #[.val (.ref a1), .val (.int (2 : Int32)), .val (.ref a2), .val (.int (2 : Int32)), .val (.int (3 : Int32)), .val (.int (2 : Int32)), .val (.int (112 : Int32))] []))
  refine Go.st (fun t k => XS.iload X4.here hx rfl (hb hby d5_15) rfl k) ?_
  show Go p e below _ (T4.setTop (mkF m 17 #[.val (.ref a1), .val (.int (2 : Int32)), .val (.ref a2), .val (.int (2 : Int32)), .val (.int (3 : Int32)), .val (.int (2 : Int32)), .val (.int (112 : Int32))] [(.int (112 : Int32))]))
  refine Go.st (fun t k => XS.sipush X4.here hx rfl (hb hby d5_17) k) ?_
  show Go p e below _ (T4.setTop (mkF m 20 #[.val (.ref a1), .val (.int (2 : Int32)), .val (.ref a2), .val (.int (2 : Int32)), .val (.int (3 : Int32)), .val (.int (2 : Int32)), .val (.int (112 : Int32))] [(.int (255 : Int32)), (.int (112 : Int32))]))
  refine Go.st (fun t k => XS.icmpYes X4.here hx rfl (pc0 := 20) (pc' := 26) rfl (hb hby d5_20) rfl (Jvm.Free.XT.ii_le_t (by decide : ¬ ((255 : Int32) < (112 : Int32)))) (by decide) (by decide) k) ?_
  show Go p e below _ (T4.setTop (mkF m 26 #[.val (.ref a1), .val (.int (2 : Int32)), .val (.ref a2), .val (.int (2 : Int32)), .val (.int (3 : Int32)), .val (.int (2 : Int32)), .val (.int (112 : Int32))] []))
  refine Go.st (fun t k => XS.aloadN X4.here hx rfl (hb hby d5_26) rfl rfl k) ?_
  show Go p e below _ (T4.setTop (mkF m 27 #[.val (.ref a1), .val (.int (2 : Int32)), .val (.ref a2), .val (.int (2 : Int32)), .val (.int (3 : Int32)), .val (.int (2 : Int32)), .val (.int (112 : Int32))] [(.ref a2)]))
  refine Go.st (fun t k => XS.iloadN X4.here hx rfl (hb hby d5_27) rfl k) ?_
  show Go p e below _ (T4.setTop (mkF m 28 #[.val (.ref a1), .val (.int (2 : Int32)), .val (.ref a2), .val (.int (2 : Int32)), .val (.int (3 : Int32)), .val (.int (2 : Int32)), .val (.int (112 : Int32))] [(.int (2 : Int32)), (.ref a2)]))
  refine Go.st (fun t k => XS.iload X4.here hx rfl (hb hby d5_28) rfl k) ?_
  show Go p e below _ (T4.setTop (mkF m 30 #[.val (.ref a1), .val (.int (2 : Int32)), .val (.ref a2), .val (.int (2 : Int32)), .val (.int (3 : Int32)), .val (.int (2 : Int32)), .val (.int (112 : Int32))] [(.int (112 : Int32)), (.int (2 : Int32)), (.ref a2)]))
  refine Go.st (fun t k => XS.i2b X4.here hx rfl (hb hby d5_30) rfl k) ?_
  show Go p e below _ (T4.setTop (mkF m 31 #[.val (.ref a1), .val (.int (2 : Int32)), .val (.ref a2), .val (.int (2 : Int32)), .val (.int (3 : Int32)), .val (.int (2 : Int32)), .val (.int (112 : Int32))] [(.int (112 : Int32)), (.int (2 : Int32)), (.ref a2)]))
  obtain ⟨cl6, Ar6, q6, S6, M6, H6, G6⟩ := id V4
  have hin6 : ¬ ((2 : Int32) < 0 ∨ cl6.slots.size ≤ ((2 : Int32)).toNatClampNeg) := inb_of S6 ⟨by decide, by decide⟩
  obtain ⟨T6, h6, X6, e6, W6, st6⟩ := stB X4 hx hZ e4 Ar6 (j := (2 : Int32)) hin6 (g := (mkF m 31 #[.val (.ref a1), .val (.int (2 : Int32)), .val (.ref a2), .val (.int (2 : Int32)), .val (.int (3 : Int32)), .val (.int (2 : Int32)), .val (.int (112 : Int32))] [(.int (112 : Int32)), (.int (2 : Int32)), (.ref a2)])) rfl rfl (hb hby d5_31)
  have V6 : Arv Z h6 a2 k4 .byte (3 : Int32) [(.int (51 : Int32)), (.int (111 : Int32)), (.int (112 : Int32))] (.int (0 : Int32)) := Arv.set Ar6 q6 S6 M6 H6 G6 (by decide) W6 2 rfl (Nat.le_of_ble_eq_true rfl)
  have N6 := Fr.snoc X6 N4 P3
  have O6 : Old Z n0 h6 := O4.wr W6 P3
  have K6 : Keep h0 h6 [a2] := K4.wr W6 (Or.inl (List.mem_of_getElem? (i := 0) rfl))
  refine Go.st st6 ?_
  show Go p e below _ (T6.setTop (mkF m 32 #[.val (.ref a1), .val (.int (2 : Int32)), .val (.ref a2), .val (.int (2 : Int32)), .val (.int (3 : Int32)), .val (.int (2 : Int32)), .val (.int (112 : Int32))] []))
  refine Go.st (fun t k => XS.iinc X6.here hx rfl (hb hby d5_32) rfl (l' := #[.val (.ref a1), .val (.int (3 : Int32)), .val (.ref a2), .val (.int (2 : Int32)), .val (.int (3 : Int32)), .val (.int (2 : Int32)), .val (.int (112 : Int32))]) rfl k) ?_
  show Go p e below _ (T6.setTop (mkF m 35 #[.val (.ref a1), .val (.int (3 : Int32)), .val (.ref a2), .val (.int (2 : Int32)), .val (.int (3 : Int32)), .val (.int (2 : Int32)), .val (.int (112 : Int32))] []))
  refine Go.st (fun t k => XS.iinc X6.here hx rfl (hb hby d5_35) rfl (l' := #[.val (.ref a1), .val (.int (3 : Int32)), .val (.ref a2), .val (.int (3 : Int32)), .val (.int (3 : Int32)), .val (.int (2 : Int32)), .val (.int (112 : Int32))]) rfl k) ?_
  show Go p e below _ (T6.setTop (mkF m 38 #[.val (.ref a1), .val (.int (3 : Int32)), .val (.ref a2), .val (.int (3 : Int32)), .val (.int (3 : Int32)), .val (.int (2 : Int32)), .val (.int (112 : Int32))] []))
  refine Go.st (fun t k => XS.iinc X6.here hx rfl (hb hby d5_38) rfl (l' := #[.val (.ref a1), .val (.int (3 : Int32)), .val (.ref a2), .val (.int (3 : Int32)), .val (.int (3 : Int32)), .val (.int (3 : Int32)), .val (.int (112 : Int32))]) rfl k) ?_
  show Go p e below _ (T6.setTop (mkF m 41 #[.val (.ref a1), .val (.int (3 : Int32)), .val (.ref a2), .val (.int (3 : Int32)), .val (.int (3 : Int32)), .val (.int (3 : Int32)), .val (.int (112 : Int32))] []))
  refine Go.st (fun t k => XS.goto X6.here hx rfl (pc0 := 41) (pc' := 3) rfl (hb hby d5_41) (by decide) (by decide) k) ?_
  show Go p e below _ (T6.setTop (mkF m 3 #[.val (.ref a1), .val (.int (3 : Int32)), .val (.ref a2), .val (.int (3 : Int32)), .val (.int (3 : Int32)), .val (.int (3 : Int32)), .val (.int (112 : Int32))] []))
  refine Go.st (fun t k => XS.iload X6.here hx rfl (hb hby d5_3) rfl k) ?_
  show Go p e below _ (T6.setTop (mkF m 5 #[.val (.ref a1), .val (.int (3 : Int32)), .val (.ref a2), .val (.int (3 : Int32)), .val (.int (3 : Int32)), .val (.int (3 : Int32)), .val (.int (112 : Int32))] [(.int (3 : Int32))]))
  refine Go.st (fun t k => XS.iload X6.here hx rfl (hb hby d5_5) rfl k) ?_
  show Go p e below _ (T6.setTop (mkF m 7 #[.val (.ref a1), .val (.int (3 : Int32)), .val (.ref a2), .val (.int (3 : Int32)), .val (.int (3 : Int32)), .val (.int (3 : Int32)), .val (.int (112 : Int32))] [(.int (3 : Int32)), (.int (3 : Int32))]))
  refine Go.st (fun t k => XS.icmpYes X6.here hx rfl (pc0 := 7) (pc' := 44) rfl (hb hby d5_7) rfl (Jvm.Free.XT.ii_ge_t (by decide : ¬ ((3 : Int32) < (3 : Int32)))) (by decide) (by decide) k) ?_
  show Go p e below _ (T6.setTop (mkF m 44 #[.val (.ref a1), .val (.int (3 : Int32)), .val (.ref a2), .val (.int (3 : Int32)), .val (.int (3 : Int32)), .val (.int (3 : Int32)), .val (.int (112 : Int32))] []))
  refine Go.st (fun t k => XS.iload X6.here hx rfl (hb hby d5_44) rfl k) ?_
  show Go p e below _ (T6.setTop (mkF m 46 #[.val (.ref a1), .val (.int (3 : Int32)), .val (.ref a2), .val (.int (3 : Int32)), .val (.int (3 : Int32)), .val (.int (3 : Int32)), .val (.int (112 : Int32))] [(.int (3 : Int32))]))
  obtain ⟨fs, hr, hrun, hended, hWd, hsame⟩ := X6.leave (v := some (.int (3 : Int32))) (fun h => by rw [Bd.returns] at h; cases h)
  refine ⟨_, _, ?_, hrun, hended, _, _, rfl, ?_, ⟨⟨_, rfl⟩, hWd, hsame.mono (by decide) (by decide)⟩⟩
  · exact retI X6 hx Bd.returns (hb hby d5_46) hr
  · show Q_rm5_2 Z a1 a2 k3 k4 h0 n0 _ T6.heap _
    rw [e6]
    exact ⟨rfl, N6, K6, V6⟩
def Q_rm4_2 (Z : State) (a1 : Addr) (k2 : ClassId) (h0 : Heap) (n0 : Nat) (v : Option Value) (h : Heap) (L : List Loc) : Prop := ∃ (b1 : Addr) (k1 : ClassId), v = some (.ref b1) ∧ Fr n0 L ∧ Keep h0 h [] ∧ h0.size ≤ b1 ∧ Arv Z h b1 k1 .byte (3 : Int32) [(.int (51 : Int32)), (.int (111 : Int32)), (.int (112 : Int32))] (.int (0 : Int32))
set_option maxRecDepth 65536 in
set_option maxHeartbeats 40000000 in
theorem rm4_2 (l : Launch) (Z : State) (a0 : Array Value) (hw : ∀ d ∈ tables_1, d.before a0 Z = true) (ws : List Jvm.Cond) (a1 : Addr) (k2 : ClassId) (h0 : Heap) (n0 : Nat) (O0 : Old Z n0 h0) (P1 : Arv Z h0 a1 k2 .char (3 : Int32) [(.int (51 : Int32)), (.int (111 : Int32)), (.int (112 : Int32))] (.int (0 : Int32))) :
    MetFree l (⟨"java/lang/StringUTF16", "compress", "([CII)[B"⟩ : MethodName) (head1 (Jvm.Cond.code (⟨"java/lang/StringUTF16", "compress", "([CII)[B"⟩ : MethodName) jdk_52_method_16_code 6 (some (.array .byte)) :: ws) ({ frames := 1, cells := 1, slots := 3, locals := 18 } : Room)) (fun a U => a = #[(.ref a1), (.int (0 : Int32)), (.int (3 : Int32))] ∧ Z.Warmed39 U.vm ∧ U.heap = h0) (fun _ _ _ _ _ => True) (fun _ U o U' => ∃ v L, o = .returned v ∧ Q_rm4_2 Z a1 k2 h0 n0 v U'.heap L ∧ FrameEnd U o U' L ({ frames := 1, cells := 1, slots := 3, locals := 18 } : Room).cells ({ frames := 1, cells := 1, slots := 3, locals := 18 } : Room).slots) := by
  refine MetFree.of_bodySF (plainFor_of_name pn_0) hisR ?_
  intro p e s m args below meth c s₁ Bd hml0 hP hK
  obtain ⟨rfl, hZ, hh⟩ := hP
  have hx := Bd.exec
  have hby := Bd.bytes
  have hml : c.maxLocals = 6 := hml0
  have hown : s.vm.findClass "java/lang/StringUTF16" = some m.cls := findClass_of_methodNamed Bd.named
  have hnm := (name_of_methodNamed Bd.named Bd.method).1
  have X0 : Stand p l e ({ frames := 1, cells := 1, slots := 3, locals := 18 } : Room) s m #[(.ref a1), (.int (0 : Int32)), (.int (3 : Int32))] below meth c s₁ [] 0 0 := Stand.of_body Bd
  have e0 : s₁.heap = h0 := by rw [← hh, Bd.state]; rfl
  have N0 := Fr.nil n0
  refine Go.start (P := (fun o U' => ∃ v L, o = .returned v ∧ Q_rm4_2 Z a1 k2 h0 n0 v U'.heap L ∧ FrameEnd s o U' L ({ frames := 1, cells := 1, slots := 3, locals := 18 } : Room).cells ({ frames := 1, cells := 1, slots := 3, locals := 18 } : Room).slots)) (castTop (g' := (mkF m 0 #[.val (.ref a1), .val (.int (0 : Int32)), .val (.int (3 : Int32)), .unset, .unset, .unset] [])) (by first | rfl | simp [entryFrame, mkF, argsToLocals, Value.category]) (T := s₁)) ?_
  refine Go.st (fun t k => XS.iloadN X0.here hx rfl (hb hby d4_0) rfl k) ?_
  show Go p e below _ (s₁.setTop (mkF m 1 #[.val (.ref a1), .val (.int (0 : Int32)), .val (.int (3 : Int32)), .unset, .unset, .unset] [(.int (3 : Int32))]))
  obtain ⟨T1, h1, k1, X1, e1, E1, A1, st1⟩ := newP X0 hx hZ (aty := .byte) (w19 hw) e0 (g := (mkF m 1 #[.val (.ref a1), .val (.int (0 : Int32)), .val (.int (3 : Int32)), .unset, .unset, .unset] [(.int (3 : Int32))])) rfl (hb hby d4_1) rfl (by decide) (cap := 3) (by decide) (by decide) (by decide) (by decide)
  obtain ⟨b1, z1⟩ : ∃ z, z = h0.size := ⟨_, rfl⟩
  rw [← z1] at A1 st1
  have g_b1 : n0 ≤ b1 := Nat.le_trans (own_n0 O0) (Nat.le_of_eq z1.symm)
  have s_b1 : h0.size ≤ b1 := Nat.le_trans (Keep.refl h0 []).1 (Nat.le_of_eq z1.symm)
  have V1 : Arv Z h1 b1 k1 .byte (3 : Int32) [(.int (0 : Int32)), (.int (0 : Int32)), (.int (0 : Int32))] (.int (0 : Int32)) := (Arv.new A1 (by decide)).pad (pad_rep [] (.int (0 : Int32)) 3)
  have O1 : Old Z n0 h1 := O0.ext E1
  have K1 : Keep h0 h1 [] := (Keep.refl h0 []).ext E1
  refine Go.st st1 ?_
  show Go p e below _ (T1.setTop (mkF m 3 #[.val (.ref a1), .val (.int (0 : Int32)), .val (.int (3 : Int32)), .unset, .unset, .unset] [(.ref b1)]))
  refine Go.st (fun t k => XS.astoreN X1.here hx rfl (hb hby d4_3) rfl rfl (l' := #[.val (.ref a1), .val (.int (0 : Int32)), .val (.int (3 : Int32)), .val (.ref b1), .unset, .unset]) rfl k) ?_
  show Go p e below _ (T1.setTop (mkF m 4 #[.val (.ref a1), .val (.int (0 : Int32)), .val (.int (3 : Int32)), .val (.ref b1), .unset, .unset] []))
  refine Go.st (fun t k => XS.aloadN X1.here hx rfl (hb hby d4_4) rfl rfl k) ?_
  show Go p e below _ (T1.setTop (mkF m 5 #[.val (.ref a1), .val (.int (0 : Int32)), .val (.int (3 : Int32)), .val (.ref b1), .unset, .unset] [(.ref a1)]))
  refine Go.st (fun t k => XS.iloadN X1.here hx rfl (hb hby d4_5) rfl k) ?_
  show Go p e below _ (T1.setTop (mkF m 6 #[.val (.ref a1), .val (.int (0 : Int32)), .val (.int (3 : Int32)), .val (.ref b1), .unset, .unset] [(.int (0 : Int32)), (.ref a1)]))
  refine Go.st (fun t k => XS.aloadN X1.here hx rfl (hb hby d4_6) rfl rfl k) ?_
  show Go p e below _ (T1.setTop (mkF m 7 #[.val (.ref a1), .val (.int (0 : Int32)), .val (.int (3 : Int32)), .val (.ref b1), .unset, .unset] [(.ref b1), (.int (0 : Int32)), (.ref a1)]))
  refine Go.st (fun t k => XS.iconst X1.here hx rfl (hb hby d4_7) k) ?_
  show Go p e below _ (T1.setTop (mkF m 8 #[.val (.ref a1), .val (.int (0 : Int32)), .val (.int (3 : Int32)), .val (.ref b1), .unset, .unset] [(.int (0 : Int32)), (.ref b1), (.int (0 : Int32)), (.ref a1)]))
  refine Go.st (fun t k => XS.iloadN X1.here hx rfl (hb hby d4_8) rfl k) ?_
  show Go p e below _ (T1.setTop (mkF m 9 #[.val (.ref a1), .val (.int (0 : Int32)), .val (.int (3 : Int32)), .val (.ref b1), .unset, .unset] [(.int (3 : Int32)), (.int (0 : Int32)), (.ref b1), (.int (0 : Int32)), (.ref a1)]))
  obtain ⟨_, _, ⟨T2, L2, k2, n2⟩, -, X2, ⟨Lc2, hQ2, l2, y2, z2⟩, st2⟩ := Jvm.LawKit.callS X1 hx (y := (⟨"java/lang/StringUTF16", "compress", "([CI[BII)I"⟩ : MethodName)) hown (mvT hZ (w20 hw)) (mvT hZ (w21 hw)) (mvT hZ (w17 hw)) (mvT hZ (w22 hw)) (by decide) (backOf (W := 0) (rm5_2 l Z a0 hw [] a1 b1 k2 k1 h1 n0 O1 (P1.ext E1) V1 g_b1 (Nat.ne_of_lt (Nat.lt_of_lt_of_le P1.lt (Nat.le_of_eq z1.symm)))) hZ (w22 hw) (w17 hw) (by decide) (by decide)) (g := (mkF m 9 #[.val (.ref a1), .val (.int (0 : Int32)), .val (.int (3 : Int32)), .val (.ref b1), .unset, .unset] [(.int (3 : Int32)), (.int (0 : Int32)), (.ref b1), (.int (0 : Int32)), (.ref a1)])) rfl (by rw [hml]; rfl) (argsL := [(.ref a1), (.int (0 : Int32)), (.ref b1), (.int (0 : Int32)), (.int (3 : Int32))]) (rest := []) (lenOf pd_0 rfl) rfl (by show 2 * 0 + _ ≤ _; exact Nat.le_of_eq rfl) (hb hby d4_9) (fun vm₁ hw₁ => ⟨rfl, e1, (by decide : 1 + 0 ≤ _), (by decide : 3 + 0 ≤ _)⟩)
  dsimp only [Pt.U, Pt.locs, Pt.cells, Pt.slots] at X2 l2 y2 z2 st2 hQ2
  subst l2 y2 z2
  obtain ⟨rfl, M2, K2c, r2_0⟩ := hQ2
  have N2 := Fr.app N0 M2
  have O2 : Old Z n0 T2.heap := O1.keep K2c (allS g_b1 all0)
  have K2 : Keep h0 T2.heap [] := K1.trans K2c (allS (Or.inr s_b1) all0)
  refine Go.st st2 ?_
  show Go p e below _ (T2.setTop (mkF m 12 #[.val (.ref a1), .val (.int (0 : Int32)), .val (.int (3 : Int32)), .val (.ref b1), .unset, .unset] [(.int (3 : Int32))]))
  refine Go.st (fun t k => XS.istore X2.here hx rfl (hb hby d4_12) rfl (l' := #[.val (.ref a1), .val (.int (0 : Int32)), .val (.int (3 : Int32)), .val (.ref b1), .val (.int (3 : Int32)), .unset]) rfl k) ?_
  show Go p e below _ (T2.setTop (mkF m 14 #[.val (.ref a1), .val (.int (0 : Int32)), .val (.int (3 : Int32)), .val (.ref b1), .val (.int (3 : Int32)), .unset] []))
  refine Go.st (fun t k => XS.iload X2.here hx rfl (hb hby d4_14) rfl k) ?_
  show Go p e below _ (T2.setTop (mkF m 16 #[.val (.ref a1), .val (.int (0 : Int32)), .val (.int (3 : Int32)), .val (.ref b1), .val (.int (3 : Int32)), .unset] [(.int (3 : Int32))]))
  refine Go.st (fun t k => XS.iloadN X2.here hx rfl (hb hby d4_16) rfl k) ?_
  show Go p e below _ (T2.setTop (mkF m 17 #[.val (.ref a1), .val (.int (0 : Int32)), .val (.int (3 : Int32)), .val (.ref b1), .val (.int (3 : Int32)), .unset] [(.int (3 : Int32)), (.int (3 : Int32))]))
  refine Go.st (fun t k => XS.icmpYes X2.here hx rfl (pc0 := 17) (pc' := 57) rfl (hb hby d4_17) rfl (Jvm.Free.XT.ii_eq_t (by decide : (3 : Int32) = (3 : Int32))) (by decide) (by decide) k) ?_
  show Go p e below _ (T2.setTop (mkF m 57 #[.val (.ref a1), .val (.int (0 : Int32)), .val (.int (3 : Int32)), .val (.ref b1), .val (.int (3 : Int32)), .unset] []))
  refine Go.st (fun t k => XS.aloadN X2.here hx rfl (hb hby d4_57) rfl rfl k) ?_
  show Go p e below _ (T2.setTop (mkF m 58 #[.val (.ref a1), .val (.int (0 : Int32)), .val (.int (3 : Int32)), .val (.ref b1), .val (.int (3 : Int32)), .unset] [(.ref b1)]))
  obtain ⟨fs, hr, hrun, hended, hWd, hsame⟩ := X2.leave (v := some (.ref b1)) (fun h => by rw [Bd.returns] at h; cases h)
  refine ⟨_, _, ?_, hrun, hended, _, _, rfl, ?_, ⟨⟨_, rfl⟩, hWd, hsame.mono (by decide) (by decide)⟩⟩
  · exact own_retA X2 hx Bd.returns rfl rfl (hb hby d4_58) hr
  · show Q_rm4_2 Z a1 k2 h0 n0 _ T2.heap _
    exact ⟨b1, k1, rfl, N2, K2, s_b1, r2_0⟩
def Q_rm6_2 (Z : State) (a1 : Addr) (k2 : ClassId) (h0 : Heap) (n0 : Nat) (v : Option Value) (h : Heap) (L : List Loc) : Prop := v = some (.int (0 : Int32)) ∧ Fr n0 L ∧ h = h0
set_option maxRecDepth 65536 in
set_option maxHeartbeats 40000000 in
theorem rm6_2 (l : Launch) (Z : State) (a0 : Array Value) (hw : ∀ d ∈ tables_1, d.before a0 Z = true) (ws : List Jvm.Cond) (a1 : Addr) (k2 : ClassId) (h0 : Heap) (n0 : Nat) (O0 : Old Z n0 h0) (P1 : Arv Z h0 a1 k2 .byte (3 : Int32) [(.int (51 : Int32)), (.int (111 : Int32)), (.int (112 : Int32))] (.int (0 : Int32))) :
    MetFree l (⟨"java/lang/StringUTF16", "coderFromArrayLen", "([BI)B"⟩ : MethodName) (head1 (Jvm.Cond.code (⟨"java/lang/StringUTF16", "coderFromArrayLen", "([BI)B"⟩ : MethodName) jdk_52_method_15_code 2 (some .byte) :: ws) ({ frames := 0, cells := 0, slots := 0, locals := 0 } : Room)) (fun a U => a = #[(.ref a1), (.int (3 : Int32))] ∧ Z.Warmed39 U.vm ∧ U.heap = h0) (fun _ _ _ _ _ => True) (fun _ U o U' => ∃ v L, o = .returned v ∧ Q_rm6_2 Z a1 k2 h0 n0 v U'.heap L ∧ FrameEnd U o U' L ({ frames := 0, cells := 0, slots := 0, locals := 0 } : Room).cells ({ frames := 0, cells := 0, slots := 0, locals := 0 } : Room).slots) := by
  refine MetFree.of_bodySF (plainFor_of_name pn_0) hisR ?_
  intro p e s m args below meth c s₁ Bd hml0 hP hK
  obtain ⟨rfl, hZ, hh⟩ := hP
  have hx := Bd.exec
  have hby := Bd.bytes
  have hml : c.maxLocals = 2 := hml0
  have hown : s.vm.findClass "java/lang/StringUTF16" = some m.cls := findClass_of_methodNamed Bd.named
  have hnm := (name_of_methodNamed Bd.named Bd.method).1
  have X0 : Stand p l e ({ frames := 0, cells := 0, slots := 0, locals := 0 } : Room) s m #[(.ref a1), (.int (3 : Int32))] below meth c s₁ [] 0 0 := Stand.of_body Bd
  have e0 : s₁.heap = h0 := by rw [← hh, Bd.state]; rfl
  have N0 := Fr.nil n0
  refine Go.start (P := (fun o U' => ∃ v L, o = .returned v ∧ Q_rm6_2 Z a1 k2 h0 n0 v U'.heap L ∧ FrameEnd s o U' L ({ frames := 0, cells := 0, slots := 0, locals := 0 } : Room).cells ({ frames := 0, cells := 0, slots := 0, locals := 0 } : Room).slots)) (castTop (g' := (mkF m 0 #[.val (.ref a1), .val (.int (3 : Int32))] [])) (by first | rfl | simp [entryFrame, mkF, argsToLocals, Value.category]) (T := s₁)) ?_
  refine Go.st (fun t k => XS.iloadN X0.here hx rfl (hb hby d6_0) rfl k) ?_
  show Go p e below _ (s₁.setTop (mkF m 1 #[.val (.ref a1), .val (.int (3 : Int32))] [(.int (3 : Int32))]))
  refine Go.st (fun t k => XS.aloadN X0.here hx rfl (hb hby d6_1) rfl rfl k) ?_
  show Go p e below _ (s₁.setTop (mkF m 2 #[.val (.ref a1), .val (.int (3 : Int32))] [(.ref a1), (.int (3 : Int32))]))
  obtain ⟨cl1, Ar1, -, S1, M1, -, -⟩ := id P1
  refine Go.st (fun t k => X0.arraylength hx (by rw [e0]; exact Ar1.1) (State.isArrayOf_alike hZ.alike Ar1.2.1) (g := (mkF m 2 #[.val (.ref a1), .val (.int (3 : Int32))] [(.ref a1), (.int (3 : Int32))])) rfl rfl (hb hby d6_2) t k) ?_
  rw [len_of S1 M1]
  show Go p e below _ (s₁.setTop (mkF m 3 #[.val (.ref a1), .val (.int (3 : Int32))] [(.int (3 : Int32)), (.int (3 : Int32))]))
  refine Go.st (fun t k => XS.isub X0.here hx rfl (hb hby d6_3) rfl k) ?_
  show Go p e below _ (s₁.setTop (mkF m 4 #[.val (.ref a1), .val (.int (3 : Int32))] [(.int (0 : Int32))]))
  refine Go.st (fun t k => XS.bipush X0.here hx rfl (hb hby d6_4) k) ?_
  show Go p e below _ (s₁.setTop (mkF m 6 #[.val (.ref a1), .val (.int (3 : Int32))] [(.int (31 : Int32)), (.int (0 : Int32))]))
  refine Go.st (fun t k => XS.iushr X0.here hx rfl (hb hby d6_6) rfl k) ?_
  show Go p e below _ (s₁.setTop (mkF m 7 #[.val (.ref a1), .val (.int (3 : Int32))] [(.int (0 : Int32))]))
  refine Go.st (fun t k => XS.i2b X0.here hx rfl (hb hby d6_7) rfl k) ?_
  show Go p e below _ (s₁.setTop (mkF m 8 #[.val (.ref a1), .val (.int (3 : Int32))] [(.int (0 : Int32))]))
  obtain ⟨fs, hr, hrun, hended, hWd, hsame⟩ := X0.leave (v := some (.int (0 : Int32))) (fun h => by rw [Bd.returns] at h; cases h)
  refine ⟨_, _, ?_, hrun, hended, _, _, rfl, ?_, ⟨⟨_, rfl⟩, hWd, hsame.mono (by decide) (by decide)⟩⟩
  · exact retN X0 hx (t := .byte) Bd.returns (by simp) (hb hby d6_8) hr
  · show Q_rm6_2 Z a1 k2 h0 n0 _ s₁.heap _
    rw [e0]
    exact ⟨rfl, N0, rfl⟩
def Q_rm2_2 (Z : State) (a1 : Addr) (a2 : Addr) (p3 : Int32) (k4 : ClassId) (h0 : Heap) (n0 : Nat) (v : Option Value) (h : Heap) (L : List Loc) : Prop := ∃ (b1_3 : Addr) (k1_3 : ClassId), v = none ∧ Fr n0 L ∧ Keep h0 h [a1] ∧ h0.size ≤ b1_3 ∧ Fld Z h a1 "java/lang/String" "coder" "B" (.int (0 : Int32)) ∧ Fld Z h a1 "java/lang/String" "value" "[B" (.ref b1_3) ∧ Arv Z h b1_3 k1_3 .byte (3 : Int32) [(.int (51 : Int32)), (.int (111 : Int32)), (.int (112 : Int32))] (.int (0 : Int32))
set_option maxRecDepth 65536 in
set_option maxHeartbeats 40000000 in
theorem rm2_2 (l : Launch) (Z : State) (a0 : Array Value) (hw : ∀ d ∈ tables_1, d.before a0 Z = true) (ws : List Jvm.Cond) (a1 : Addr) (a2 : Addr) (p3 : Int32) (k4 : ClassId) (h0 : Heap) (n0 : Nat) (O0 : Old Z n0 h0) (P1 : Sta Z Z.heap "java/lang/String" "COMPACT_STRINGS" "Z" (.int p3)) (P2 : ¬ (p3 = (0 : Int32))) (P3 : Arv Z h0 a2 k4 .char (3 : Int32) [(.int (51 : Int32)), (.int (111 : Int32)), (.int (112 : Int32))] (.int (0 : Int32))) (P4 : Exa Z h0 a1 "java/lang/String") (P5 : Fld Z h0 a1 "java/lang/String" "coder" "B" (.int (0 : Int32))) (P6 : n0 ≤ a1) (P7 : Fld Z h0 a1 "java/lang/String" "value" "[B" .null) :
    MetFree l (⟨"java/lang/String", "<init>", "([CIILjava/lang/Void;)V"⟩ : MethodName) (head1 (Jvm.Cond.code (⟨"java/lang/String", "<init>", "([CIILjava/lang/Void;)V"⟩ : MethodName) jdk_42_method_149_code 6 none :: ws) ({ frames := 2, cells := 1, slots := 3, locals := 35 } : Room)) (fun a U => a = #[(.ref a1), (.ref a2), (.int (0 : Int32)), (.int (3 : Int32)), .null] ∧ Z.Warmed39 U.vm ∧ U.heap = h0) (fun _ _ _ _ _ => True) (fun _ U o U' => ∃ v L, o = .returned v ∧ Q_rm2_2 Z a1 a2 p3 k4 h0 n0 v U'.heap L ∧ FrameEnd U o U' L ({ frames := 2, cells := 1, slots := 3, locals := 35 } : Room).cells ({ frames := 2, cells := 1, slots := 3, locals := 35 } : Room).slots) := by
  refine MetFree.of_bodySF (plainFor_of_name pn_1) hisR ?_
  intro p e s m args below meth c s₁ Bd hml0 hP hK
  obtain ⟨rfl, hZ, hh⟩ := hP
  have hx := Bd.exec
  have hby := Bd.bytes
  have hml : c.maxLocals = 6 := hml0
  have hown : s.vm.findClass "java/lang/String" = some m.cls := findClass_of_methodNamed Bd.named
  have hnm := (name_of_methodNamed Bd.named Bd.method).1
  have X0 : Stand p l e ({ frames := 2, cells := 1, slots := 3, locals := 35 } : Room) s m #[(.ref a1), (.ref a2), (.int (0 : Int32)), (.int (3 : Int32)), .null] below meth c s₁ [] 0 0 := Stand.of_body Bd
  have e0 : s₁.heap = h0 := by rw [← hh, Bd.state]; rfl
  have N0 := Fr.nil n0
  refine Go.start (P := (fun o U' => ∃ v L, o = .returned v ∧ Q_rm2_2 Z a1 a2 p3 k4 h0 n0 v U'.heap L ∧ FrameEnd s o U' L ({ frames := 2, cells := 1, slots := 3, locals := 35 } : Room).cells ({ frames := 2, cells := 1, slots := 3, locals := 35 } : Room).slots)) (castTop (g' := (mkF m 0 #[.val (.ref a1), .val (.ref a2), .val (.int (0 : Int32)), .val (.int (3 : Int32)), .val .null, .unset] [])) (by first | rfl | simp [entryFrame, mkF, argsToLocals, Value.category]) (T := s₁)) ?_
  refine Go.st (fun t k => XS.aloadN X0.here hx rfl (hb hby d2_0) rfl rfl k) ?_
  show Go p e below _ (s₁.setTop (mkF m 1 #[.val (.ref a1), .val (.ref a2), .val (.int (0 : Int32)), .val (.int (3 : Int32)), .val .null, .unset] [(.ref a1)]))
  obtain ⟨T1, X1, e1, st1⟩ := initO X0 hx hZ hown (w11 hw) (w12 hw) (w13 hw) e0 (g := (mkF m 1 #[.val (.ref a1), .val (.ref a2), .val (.int (0 : Int32)), .val (.int (3 : Int32)), .val .null, .unset] [(.ref a1)])) rfl (by rw [hml]; rfl) rfl (hb hby d2_1) (by decide) (W := 0) (by show 2 * 0 + _ ≤ _; exact Nat.le_of_eq rfl) (by decide)
  refine Go.st st1 ?_
  show Go p e below _ (T1.setTop (mkF m 4 #[.val (.ref a1), .val (.ref a2), .val (.int (0 : Int32)), .val (.int (3 : Int32)), .val .null, .unset] []))
  refine Go.st (fun t k => XS.iloadN X1.here hx rfl (hb hby d2_4) rfl k) ?_
  show Go p e below _ (T1.setTop (mkF m 5 #[.val (.ref a1), .val (.ref a2), .val (.int (0 : Int32)), .val (.int (3 : Int32)), .val .null, .unset] [(.int (3 : Int32))]))
  refine Go.st (fun t k => XS.ifYes X1.here hx rfl (pc0 := 5) (pc' := 27) rfl (hb hby d2_5) rfl (Jvm.Free.XT.i0_ne_t (by decide : ¬ ((3 : Int32) = (0 : Int32)))) (by decide) (by decide) k) ?_
  show Go p e below _ (T1.setTop (mkF m 27 #[.val (.ref a1), .val (.ref a2), .val (.int (0 : Int32)), .val (.int (3 : Int32)), .val .null, .unset] []))
  obtain ⟨T2, X2, e2, st2⟩ := getS2 X1 hx hZ hown (host := "") (Or.inl (w14 hw)) Via.refl e1 (P1.ext O0.2) (g := (mkF m 27 #[.val (.ref a1), .val (.ref a2), .val (.int (0 : Int32)), .val (.int (3 : Int32)), .val .null, .unset] [])) rfl (hb hby d2_27)
  refine Go.st st2 ?_
  show Go p e below _ (T2.setTop (mkF m 30 #[.val (.ref a1), .val (.ref a2), .val (.int (0 : Int32)), .val (.int (3 : Int32)), .val .null, .unset] [(.int p3)]))
  refine Go.st (fun t k => XS.ifNo X2.here hx rfl (hb hby d2_30) rfl (Jvm.Free.XT.i0_eq_f P2) k) ?_
  show Go p e below _ (T2.setTop (mkF m 33 #[.val (.ref a1), .val (.ref a2), .val (.int (0 : Int32)), .val (.int (3 : Int32)), .val .null, .unset] []))
  refine Go.st (fun t k => XS.aloadN X2.here hx rfl (hb hby d2_33) rfl rfl k) ?_
  show Go p e below _ (T2.setTop (mkF m 34 #[.val (.ref a1), .val (.ref a2), .val (.int (0 : Int32)), .val (.int (3 : Int32)), .val .null, .unset] [(.ref a2)]))
  refine Go.st (fun t k => XS.iloadN X2.here hx rfl (hb hby d2_34) rfl k) ?_
  show Go p e below _ (T2.setTop (mkF m 35 #[.val (.ref a1), .val (.ref a2), .val (.int (0 : Int32)), .val (.int (3 : Int32)), .val .null, .unset] [(.int (0 : Int32)), (.ref a2)]))
  refine Go.st (fun t k => XS.iloadN X2.here hx rfl (hb hby d2_35) rfl k) ?_
  show Go p e below _ (T2.setTop (mkF m 36 #[.val (.ref a1), .val (.ref a2), .val (.int (0 : Int32)), .val (.int (3 : Int32)), .val .null, .unset] [(.int (3 : Int32)), (.int (0 : Int32)), (.ref a2)]))
  obtain ⟨_, _, ⟨T3, L3, k3, n3⟩, -, X3, ⟨Lc3, hQ3, l3, y3, z3⟩, st3⟩ := Jvm.LawKit.callS X2 hx (y := (⟨"java/lang/StringUTF16", "compress", "([CII)[B"⟩ : MethodName)) hown (mvT hZ (w15 hw)) (mvT hZ (w16 hw)) (mvT hZ (w17 hw)) (mvT hZ (w18 hw)) (by decide) (backOf (W := 0) (rm4_2 l Z a0 hw [] a2 k4 h0 n0 O0 P3) hZ (w18 hw) (w17 hw) (by decide) (by decide)) (g := (mkF m 36 #[.val (.ref a1), .val (.ref a2), .val (.int (0 : Int32)), .val (.int (3 : Int32)), .val .null, .unset] [(.int (3 : Int32)), (.int (0 : Int32)), (.ref a2)])) rfl (by rw [hml]; rfl) (argsL := [(.ref a2), (.int (0 : Int32)), (.int (3 : Int32))]) (rest := []) (lenOf pd_1 rfl) rfl (by show 2 * 0 + _ ≤ _; exact Nat.le_of_eq rfl) (hb hby d2_36) (fun vm₁ hw₁ => ⟨rfl, e2, (by decide : 0 + 1 ≤ _), (by decide : 0 + 3 ≤ _)⟩)
  dsimp only [Pt.U, Pt.locs, Pt.cells, Pt.slots] at X3 l3 y3 z3 st3 hQ3
  subst l3 y3 z3
  obtain ⟨b1_3, k1_3, rfl, M3, K3c, r3_0, r3_1⟩ := hQ3
  have N3 := Fr.app N0 M3
  have g_b1_3 : n0 ≤ b1_3 := Nat.le_trans (own_n0 O0) r3_0
  have s_b1_3 : h0.size ≤ b1_3 := Nat.le_trans (Keep.refl h0 [a1]).1 r3_0
  have O3 : Old Z n0 T3.heap := O0.keep K3c all0
  have K3 : Keep h0 T3.heap [a1] := (Keep.refl h0 [a1]).trans K3c all0
  refine Go.st st3 ?_
  show Go p e below _ (T3.setTop (mkF m 39 #[.val (.ref a1), .val (.ref a2), .val (.int (0 : Int32)), .val (.int (3 : Int32)), .val .null, .unset] [(.ref b1_3)]))
  refine Go.st (fun t k => XS.astore X3.here hx rfl (hb hby d2_39) rfl rfl (l' := #[.val (.ref a1), .val (.ref a2), .val (.int (0 : Int32)), .val (.int (3 : Int32)), .val .null, .val (.ref b1_3)]) rfl k) ?_
  show Go p e below _ (T3.setTop (mkF m 41 #[.val (.ref a1), .val (.ref a2), .val (.int (0 : Int32)), .val (.int (3 : Int32)), .val .null, .val (.ref b1_3)] []))
  refine Go.st (fun t k => XS.aloadN X3.here hx rfl (hb hby d2_41) rfl rfl k) ?_
  show Go p e below _ (T3.setTop (mkF m 42 #[.val (.ref a1), .val (.ref a2), .val (.int (0 : Int32)), .val (.int (3 : Int32)), .val .null, .val (.ref b1_3)] [(.ref a1)]))
  refine Go.st (fun t k => XS.aload X3.here hx rfl (hb hby d2_42) rfl rfl k) ?_
  show Go p e below _ (T3.setTop (mkF m 44 #[.val (.ref a1), .val (.ref a2), .val (.int (0 : Int32)), .val (.int (3 : Int32)), .val .null, .val (.ref b1_3)] [(.ref b1_3), (.ref a1)]))
  refine Go.st (fun t k => XS.iloadN X3.here hx rfl (hb hby d2_44) rfl k) ?_
  show Go p e below _ (T3.setTop (mkF m 45 #[.val (.ref a1), .val (.ref a2), .val (.int (0 : Int32)), .val (.int (3 : Int32)), .val .null, .val (.ref b1_3)] [(.int (3 : Int32)), (.ref b1_3), (.ref a1)]))
  obtain ⟨_, _, ⟨T4, L4, k4, n4⟩, -, X4, ⟨Lc4, hQ4, l4, y4, z4⟩, st4⟩ := Jvm.LawKit.callS X3 hx (y := (⟨"java/lang/StringUTF16", "coderFromArrayLen", "([BI)B"⟩ : MethodName)) hown (mvT hZ (w23 hw)) (mvT hZ (w24 hw)) (mvT hZ (w17 hw)) (mvT hZ (w25 hw)) (by decide) (backOf (W := 1) (rm6_2 l Z a0 hw [] b1_3 k1_3 T3.heap n0 O3 r3_1) hZ (w25 hw) (w17 hw) (by decide) (by decide)) (g := (mkF m 45 #[.val (.ref a1), .val (.ref a2), .val (.int (0 : Int32)), .val (.int (3 : Int32)), .val .null, .val (.ref b1_3)] [(.int (3 : Int32)), (.ref b1_3), (.ref a1)])) rfl (by rw [hml]; rfl) (argsL := [(.ref b1_3), (.int (3 : Int32))]) (rest := [(.ref a1)]) (lenOf pd_2 rfl) rfl (by show 2 * 0 + _ ≤ _; exact Nat.le_of_eq rfl) (hb hby d2_45) (fun vm₁ hw₁ => ⟨rfl, rfl, (by decide : 1 + 0 ≤ _), (by decide : 3 + 0 ≤ _)⟩)
  dsimp only [Pt.U, Pt.locs, Pt.cells, Pt.slots] at X4 l4 y4 z4 st4 hQ4
  subst l4 y4 z4
  obtain ⟨rfl, M4, eh4⟩ := hQ4
  have N4 := Fr.app N3 M4
  refine Go.st st4 ?_
  show Go p e below _ (T4.setTop (mkF m 48 #[.val (.ref a1), .val (.ref a2), .val (.int (0 : Int32)), .val (.int (3 : Int32)), .val .null, .val (.ref b1_3)] [(.int (0 : Int32)), (.ref a1)]))
  obtain ⟨T5, h5, X5, e5, W5, st5⟩ := putFN X4 hx hZ hown (w26 hw) Via.refl eh4 (P5.keep K3c nin0) (P4.keep K3c) (Or.inr ⟨(w27 hw), rfl, hnm⟩) (w2 hw) (ty := .byte) (v' := (.int (0 : Int32))) (by decide) rfl (by decide) (g := (mkF m 48 #[.val (.ref a1), .val (.ref a2), .val (.int (0 : Int32)), .val (.int (3 : Int32)), .val .null, .val (.ref b1_3)] [(.int (0 : Int32)), (.ref a1)])) rfl rfl (hb hby d2_48)
  have F5 : Fld Z h5 a1 "java/lang/String" "coder" "B" (.int (0 : Int32)) := (P5.keep K3c nin0).same W5
  have N5 := Fr.snoc X5 N4 P6
  have O5 : Old Z n0 h5 := O3.wr W5 P6
  have K5 : Keep h0 h5 [a1] := K3.wr W5 (Or.inl (List.mem_of_getElem? (i := 0) rfl))
  refine Go.st st5 ?_
  show Go p e below _ (T5.setTop (mkF m 51 #[.val (.ref a1), .val (.ref a2), .val (.int (0 : Int32)), .val (.int (3 : Int32)), .val .null, .val (.ref b1_3)] []))
  refine Go.st (fun t k => XS.aloadN X5.here hx rfl (hb hby d2_51) rfl rfl k) ?_
  show Go p e below _ (T5.setTop (mkF m 52 #[.val (.ref a1), .val (.ref a2), .val (.int (0 : Int32)), .val (.int (3 : Int32)), .val .null, .val (.ref b1_3)] [(.ref a1)]))
  refine Go.st (fun t k => XS.aload X5.here hx rfl (hb hby d2_52) rfl rfl k) ?_
  show Go p e below _ (T5.setTop (mkF m 54 #[.val (.ref a1), .val (.ref a2), .val (.int (0 : Int32)), .val (.int (3 : Int32)), .val .null, .val (.ref b1_3)] [(.ref b1_3), (.ref a1)]))
  have c6 := ((P7.keep K3c nin0).other W5 (Or.inr (slot_ne (Or.inr (w29 hw)) (Or.inr (w27 hw)) (by decide) (t := (.array .byte)) (t' := .byte) (by decide) (by decide))))
  obtain ⟨T7, h7, X7, e7, W7, st7⟩ := putF X5 hx hZ hown (host := "") (Or.inl (w28 hw)) Via.refl e5 c6 ((P4.keep K3c).wr W5) (Or.inr ⟨(w29 hw), rfl, hnm⟩) (w2 hw) (ty := (.array .byte)) (by decide) rfl rfl (g := (mkF m 54 #[.val (.ref a1), .val (.ref a2), .val (.int (0 : Int32)), .val (.int (3 : Int32)), .val .null, .val (.ref b1_3)] [(.ref b1_3), (.ref a1)])) rfl rfl (hb hby d2_54)
  have F7 : Fld Z h7 a1 "java/lang/String" "value" "[B" (.ref b1_3) := c6.same W7
  have N7 := Fr.snoc X7 N5 P6
  have O7 : Old Z n0 h7 := O5.wr W7 P6
  have K7 : Keep h0 h7 [a1] := K5.wr W7 (Or.inl (List.mem_of_getElem? (i := 0) rfl))
  refine Go.st st7 ?_
  show Go p e below _ (T7.setTop (mkF m 57 #[.val (.ref a1), .val (.ref a2), .val (.int (0 : Int32)), .val (.int (3 : Int32)), .val .null, .val (.ref b1_3)] []))
  obtain ⟨fs, hr, hrun, hended, hWd, hsame⟩ := X7.leave (v := none) (fun _ => rfl)
  have c8 := (F5.other W7 (Or.inr (slot_ne (Or.inr (w27 hw)) (Or.inr (w29 hw)) (by decide) (t := .byte) (t' := (.array .byte)) (by decide) (by decide))))
  have c9 := ((r3_1.other W5 (Ne.symm (Nat.ne_of_lt (Nat.lt_of_lt_of_le P4.lt r3_0)))).other W7 (Ne.symm (Nat.ne_of_lt (Nat.lt_of_lt_of_le P4.lt r3_0))))
  refine ⟨_, _, ?_, hrun, hended, _, _, rfl, ?_, ⟨⟨_, rfl⟩, hWd, hsame.mono (by decide) (by decide)⟩⟩
  · exact X7.returnOut hx Bd.returns (hb hby d2_57) hr
  · show Q_rm2_2 Z a1 a2 p3 k4 h0 n0 _ T7.heap _
    rw [e7]
    exact ⟨b1_3, k1_3, rfl, N7, K7, s_b1_3, c8, F7, c9⟩
def Q_rm1_2 (Z : State) (a1 : Addr) (a2 : Addr) (k3 : ClassId) (p4 : Int32) (h0 : Heap) (n0 : Nat) (v : Option Value) (h : Heap) (L : List Loc) : Prop := ∃ (b1_3_2 : Addr) (k1_3_2 : ClassId), v = none ∧ Fr n0 L ∧ Keep h0 h [a1] ∧ h0.size ≤ b1_3_2 ∧ Fld Z h a1 "java/lang/String" "coder" "B" (.int (0 : Int32)) ∧ Fld Z h a1 "java/lang/String" "value" "[B" (.ref b1_3_2) ∧ Arv Z h b1_3_2 k1_3_2 .byte (3 : Int32) [(.int (51 : Int32)), (.int (111 : Int32)), (.int (112 : Int32))] (.int (0 : Int32))
set_option maxRecDepth 65536 in
set_option maxHeartbeats 40000000 in
theorem rm1_2 (l : Launch) (Z : State) (a0 : Array Value) (hw : ∀ d ∈ tables_1, d.before a0 Z = true) (ws : List Jvm.Cond) (a1 : Addr) (a2 : Addr) (k3 : ClassId) (p4 : Int32) (h0 : Heap) (n0 : Nat) (O0 : Old Z n0 h0) (P1 : Arv Z h0 a2 k3 .char (3 : Int32) [(.int (51 : Int32)), (.int (111 : Int32)), (.int (112 : Int32))] (.int (0 : Int32))) (P2 : Sta Z Z.heap "java/lang/String" "COMPACT_STRINGS" "Z" (.int p4)) (P3 : ¬ (p4 = (0 : Int32))) (P4 : Exa Z h0 a1 "java/lang/String") (P5 : Fld Z h0 a1 "java/lang/String" "coder" "B" (.int (0 : Int32))) (P6 : n0 ≤ a1) (P7 : Fld Z h0 a1 "java/lang/String" "value" "[B" .null) :
    MetFree l (⟨"java/lang/String", "<init>", "([C)V"⟩ : MethodName) (head1 (Jvm.Cond.code (⟨"java/lang/String", "<init>", "([C)V"⟩ : MethodName) jdk_42_method_3_code 2 none :: ws) ({ frames := 3, cells := 1, slots := 3, locals := 52 } : Room)) (fun a U => a = #[(.ref a1), (.ref a2)] ∧ Z.Warmed39 U.vm ∧ U.heap = h0) (fun _ _ _ _ _ => True) (fun _ U o U' => ∃ v L, o = .returned v ∧ Q_rm1_2 Z a1 a2 k3 p4 h0 n0 v U'.heap L ∧ FrameEnd U o U' L ({ frames := 3, cells := 1, slots := 3, locals := 52 } : Room).cells ({ frames := 3, cells := 1, slots := 3, locals := 52 } : Room).slots) := by
  refine MetFree.of_bodySF (plainFor_of_name pn_1) hisR ?_
  intro p e s m args below meth c s₁ Bd hml0 hP hK
  obtain ⟨rfl, hZ, hh⟩ := hP
  have hx := Bd.exec
  have hby := Bd.bytes
  have hml : c.maxLocals = 2 := hml0
  have hown : s.vm.findClass "java/lang/String" = some m.cls := findClass_of_methodNamed Bd.named
  have hnm := (name_of_methodNamed Bd.named Bd.method).1
  have X0 : Stand p l e ({ frames := 3, cells := 1, slots := 3, locals := 52 } : Room) s m #[(.ref a1), (.ref a2)] below meth c s₁ [] 0 0 := Stand.of_body Bd
  have e0 : s₁.heap = h0 := by rw [← hh, Bd.state]; rfl
  have N0 := Fr.nil n0
  refine Go.start (P := (fun o U' => ∃ v L, o = .returned v ∧ Q_rm1_2 Z a1 a2 k3 p4 h0 n0 v U'.heap L ∧ FrameEnd s o U' L ({ frames := 3, cells := 1, slots := 3, locals := 52 } : Room).cells ({ frames := 3, cells := 1, slots := 3, locals := 52 } : Room).slots)) (castTop (g' := (mkF m 0 #[.val (.ref a1), .val (.ref a2)] [])) (by first | rfl | simp [entryFrame, mkF, argsToLocals, Value.category]) (T := s₁)) ?_
  refine Go.st (fun t k => XS.aloadN X0.here hx rfl (hb hby d1_0) rfl rfl k) ?_
  show Go p e below _ (s₁.setTop (mkF m 1 #[.val (.ref a1), .val (.ref a2)] [(.ref a1)]))
  refine Go.st (fun t k => XS.aloadN X0.here hx rfl (hb hby d1_1) rfl rfl k) ?_
  show Go p e below _ (s₁.setTop (mkF m 2 #[.val (.ref a1), .val (.ref a2)] [(.ref a2), (.ref a1)]))
  refine Go.st (fun t k => XS.iconst X0.here hx rfl (hb hby d1_2) k) ?_
  show Go p e below _ (s₁.setTop (mkF m 3 #[.val (.ref a1), .val (.ref a2)] [(.int (0 : Int32)), (.ref a2), (.ref a1)]))
  refine Go.st (fun t k => XS.aloadN X0.here hx rfl (hb hby d1_3) rfl rfl k) ?_
  show Go p e below _ (s₁.setTop (mkF m 4 #[.val (.ref a1), .val (.ref a2)] [(.ref a2), (.int (0 : Int32)), (.ref a2), (.ref a1)]))
  obtain ⟨cl1, Ar1, -, S1, M1, -, -⟩ := id P1
  refine Go.st (fun t k => X0.arraylength hx (by rw [e0]; exact Ar1.1) (State.isArrayOf_alike hZ.alike Ar1.2.1) (g := (mkF m 4 #[.val (.ref a1), .val (.ref a2)] [(.ref a2), (.int (0 : Int32)), (.ref a2), (.ref a1)])) rfl rfl (hb hby d1_4) t k) ?_
  rw [len_of S1 M1]
  show Go p e below _ (s₁.setTop (mkF m 5 #[.val (.ref a1), .val (.ref a2)] [(.int (3 : Int32)), (.int (0 : Int32)), (.ref a2), (.ref a1)]))
  refine Go.st (fun t k => XS.aconstNull X0.here hx rfl (hb hby d1_5) k) ?_
  show Go p e below _ (s₁.setTop (mkF m 6 #[.val (.ref a1), .val (.ref a2)] [.null, (.int (3 : Int32)), (.int (0 : Int32)), (.ref a2), (.ref a1)]))
  obtain ⟨_, _, ⟨T2, L2, k2, n2⟩, -, X2, ⟨Lc2, hQ2, l2, y2, z2⟩, st2⟩ := X0.specialBack hx (y := (⟨"java/lang/String", "<init>", "([CIILjava/lang/Void;)V"⟩ : MethodName)) rfl hown (mvT hZ (w7 hw)) (mvT hZ (w8 hw)) (mvT hZ (w10 hw)) (by decide) (backOf (W := 0) (rm2_2 l Z a0 hw [] a1 a2 p4 k3 h0 n0 O0 P2 P3 P1 P4 P5 P6 P7) hZ (w10 hw) (w3 hw) (by decide) (by decide)) (g := (mkF m 6 #[.val (.ref a1), .val (.ref a2)] [.null, (.int (3 : Int32)), (.int (0 : Int32)), (.ref a2), (.ref a1)])) rfl (by rw [hml]; rfl) (Steps.refl _) (a := a1) (argsL := [(.ref a2), (.int (0 : Int32)), (.int (3 : Int32)), .null]) (rest := []) (lenOf pd_3 rfl) rfl (by show 2 * 0 + _ ≤ _; exact Nat.le_of_eq rfl) (hb hby d1_6) (fun vm₁ hw₁ => ⟨rfl, e0, (by decide : 0 + 1 ≤ _), (by decide : 0 + 3 ≤ _)⟩)
  dsimp only [Pt.U, Pt.locs, Pt.cells, Pt.slots] at X2 l2 y2 z2 st2 hQ2
  subst l2 y2 z2
  obtain ⟨b1_3_2, k1_3_2, rfl, M2, K2c, r2_0, r2_1, r2_2, r2_3⟩ := hQ2
  have N2 := Fr.app N0 M2
  have g_b1_3_2 : n0 ≤ b1_3_2 := Nat.le_trans (own_n0 O0) r2_0
  have s_b1_3_2 : h0.size ≤ b1_3_2 := Nat.le_trans (Keep.refl h0 [a1]).1 r2_0
  have O2 : Old Z n0 T2.heap := O0.keep K2c (allS P6 all0)
  have K2 : Keep h0 T2.heap [a1] := (Keep.refl h0 [a1]).trans K2c (allS (Or.inl (List.mem_of_getElem? (i := 0) rfl)) all0)
  refine Go.tr st2 ?_
  show Go p e below _ (T2.setTop (mkF m 9 #[.val (.ref a1), .val (.ref a2)] []))
  obtain ⟨fs, hr, hrun, hended, hWd, hsame⟩ := X2.leave (v := none) (fun _ => rfl)
  refine ⟨_, _, ?_, hrun, hended, _, _, rfl, ?_, ⟨⟨_, rfl⟩, hWd, hsame.mono (by decide) (by decide)⟩⟩
  · exact X2.returnOut hx Bd.returns (hb hby d1_9) hr
  · show Q_rm1_2 Z a1 a2 k3 p4 h0 n0 _ T2.heap _
    exact ⟨b1_3_2, k1_3_2, rfl, N2, K2, s_b1_3_2, r2_1, r2_2, r2_3⟩
def Q_rm10_2 (Z : State) (a1 : Addr) (a2 : Addr) (k3 : ClassId) (k4 : ClassId) (h0 : Heap) (n0 : Nat) (v : Option Value) (h : Heap) (L : List Loc) : Prop := v = some (.int (0 : Int32)) ∧ Fr n0 L ∧ h = h0
set_option maxRecDepth 65536 in
set_option maxHeartbeats 40000000 in
theorem rm10_2 (l : Launch) (Z : State) (a0 : Array Value) (hw : ∀ d ∈ tables_1, d.before a0 Z = true) (ws : List Jvm.Cond) (a1 : Addr) (a2 : Addr) (k3 : ClassId) (k4 : ClassId) (h0 : Heap) (n0 : Nat) (O0 : Old Z n0 h0) (P1 : Arv Z Z.heap a1 k3 .byte (3 : Int32) [(.int (50 : Int32)), (.int (111 : Int32)), (.int (112 : Int32))] (.int (0 : Int32))) (P2 : Arv Z h0 a2 k4 .byte (3 : Int32) [(.int (51 : Int32)), (.int (111 : Int32)), (.int (112 : Int32))] (.int (0 : Int32))) :
    MetFree l (⟨"java/lang/StringLatin1", "equals", "([B[B)Z"⟩ : MethodName) (head1 (Jvm.Cond.code (⟨"java/lang/StringLatin1", "equals", "([B[B)Z"⟩ : MethodName) jdk_43_method_13_code 3 (some .boolean) :: ws) ({ frames := 0, cells := 0, slots := 0, locals := 0 } : Room)) (fun a U => a = #[(.ref a1), (.ref a2)] ∧ Z.Warmed39 U.vm ∧ U.heap = h0) (fun _ _ _ _ _ => True) (fun _ U o U' => ∃ v L, o = .returned v ∧ Q_rm10_2 Z a1 a2 k3 k4 h0 n0 v U'.heap L ∧ FrameEnd U o U' L ({ frames := 0, cells := 0, slots := 0, locals := 0 } : Room).cells ({ frames := 0, cells := 0, slots := 0, locals := 0 } : Room).slots) := by
  refine MetFree.of_bodySF (plainFor_of_name pn_3) hisR ?_
  intro p e s m args below meth c s₁ Bd hml0 hP hK
  obtain ⟨rfl, hZ, hh⟩ := hP
  have hx := Bd.exec
  have hby := Bd.bytes
  have hml : c.maxLocals = 3 := hml0
  have hown : s.vm.findClass "java/lang/StringLatin1" = some m.cls := findClass_of_methodNamed Bd.named
  have hnm := (name_of_methodNamed Bd.named Bd.method).1
  have X0 : Stand p l e ({ frames := 0, cells := 0, slots := 0, locals := 0 } : Room) s m #[(.ref a1), (.ref a2)] below meth c s₁ [] 0 0 := Stand.of_body Bd
  have e0 : s₁.heap = h0 := by rw [← hh, Bd.state]; rfl
  have N0 := Fr.nil n0
  refine Go.start (P := (fun o U' => ∃ v L, o = .returned v ∧ Q_rm10_2 Z a1 a2 k3 k4 h0 n0 v U'.heap L ∧ FrameEnd s o U' L ({ frames := 0, cells := 0, slots := 0, locals := 0 } : Room).cells ({ frames := 0, cells := 0, slots := 0, locals := 0 } : Room).slots)) (castTop (g' := (mkF m 0 #[.val (.ref a1), .val (.ref a2), .unset] [])) (by first | rfl | simp [entryFrame, mkF, argsToLocals, Value.category]) (T := s₁)) ?_
  refine Go.st (fun t k => XS.aloadN X0.here hx rfl (hb hby d10_0) rfl rfl k) ?_
  show Go p e below _ (s₁.setTop (mkF m 1 #[.val (.ref a1), .val (.ref a2), .unset] [(.ref a1)]))
  obtain ⟨cl1, Ar1, -, S1, M1, -, -⟩ := id (P1.ext O0.2)
  refine Go.st (fun t k => X0.arraylength hx (by rw [e0]; exact Ar1.1) (State.isArrayOf_alike hZ.alike Ar1.2.1) (g := (mkF m 1 #[.val (.ref a1), .val (.ref a2), .unset] [(.ref a1)])) rfl rfl (hb hby d10_1) t k) ?_
  rw [len_of S1 M1]
  show Go p e below _ (s₁.setTop (mkF m 2 #[.val (.ref a1), .val (.ref a2), .unset] [(.int (3 : Int32))]))
  refine Go.st (fun t k => XS.aloadN X0.here hx rfl (hb hby d10_2) rfl rfl k) ?_
  show Go p e below _ (s₁.setTop (mkF m 3 #[.val (.ref a1), .val (.ref a2), .unset] [(.ref a2), (.int (3 : Int32))]))
  obtain ⟨cl2, Ar2, -, S2, M2, -, -⟩ := id P2
  refine Go.st (fun t k => X0.arraylength hx (by rw [e0]; exact Ar2.1) (State.isArrayOf_alike hZ.alike Ar2.2.1) (g := (mkF m 3 #[.val (.ref a1), .val (.ref a2), .unset] [(.ref a2), (.int (3 : Int32))])) rfl rfl (hb hby d10_3) t k) ?_
  rw [len_of S2 M2]
  show Go p e below _ (s₁.setTop (mkF m 4 #[.val (.ref a1), .val (.ref a2), .unset] [(.int (3 : Int32)), (.int (3 : Int32))]))
  refine Go.st (fun t k => XS.icmpNo X0.here hx rfl (hb hby d10_4) rfl (Jvm.Free.XT.ii_ne_f (by decide : (3 : Int32) = (3 : Int32))) k) ?_
  show Go p e below _ (s₁.setTop (mkF m 7 #[.val (.ref a1), .val (.ref a2), .unset] []))
  refine Go.st (fun t k => XS.iconst X0.here hx rfl (hb hby d10_7) k) ?_
  show Go p e below _ (s₁.setTop (mkF m 8 #[.val (.ref a1), .val (.ref a2), .unset] [(.int (0 : Int32))]))
  refine Go.st (fun t k => XS.istoreN X0.here hx rfl (hb hby d10_8) rfl (l' := #[.val (.ref a1), .val (.ref a2), .val (.int (0 : Int32))]) rfl k) ?_
  show Go p e below _ (s₁.setTop (mkF m 9 #[.val (.ref a1), .val (.ref a2), .val (.int (0 : Int32))] []))
  refine Go.st (fun t k => XS.iloadN X0.here hx rfl (hb hby d10_9) rfl k) ?_
  show Go p e below _ (s₁.setTop (mkF m 10 #[.val (.ref a1), .val (.ref a2), .val (.int (0 : Int32))] [(.int (0 : Int32))]))
  refine Go.st (fun t k => XS.aloadN X0.here hx rfl (hb hby d10_10) rfl rfl k) ?_
  show Go p e below _ (s₁.setTop (mkF m 11 #[.val (.ref a1), .val (.ref a2), .val (.int (0 : Int32))] [(.ref a1), (.int (0 : Int32))]))
  obtain ⟨cl3, Ar3, -, S3, M3, -, -⟩ := id (P1.ext O0.2)
  refine Go.st (fun t k => X0.arraylength hx (by rw [e0]; exact Ar3.1) (State.isArrayOf_alike hZ.alike Ar3.2.1) (g := (mkF m 11 #[.val (.ref a1), .val (.ref a2), .val (.int (0 : Int32))] [(.ref a1), (.int (0 : Int32))])) rfl rfl (hb hby d10_11) t k) ?_
  rw [len_of S3 M3]
  show Go p e below _ (s₁.setTop (mkF m 12 #[.val (.ref a1), .val (.ref a2), .val (.int (0 : Int32))] [(.int (3 : Int32)), (.int (0 : Int32))]))
  refine Go.st (fun t k => XS.icmpNo X0.here hx rfl (hb hby d10_12) rfl (Jvm.Free.XT.ii_ge_f (by decide : (0 : Int32) < (3 : Int32))) k) ?_
  show Go p e below _ (s₁.setTop (mkF m 15 #[.val (.ref a1), .val (.ref a2), .val (.int (0 : Int32))] []))
  refine Go.st (fun t k => XS.aloadN X0.here hx rfl (hb hby d10_15) rfl rfl k) ?_
  show Go p e below _ (s₁.setTop (mkF m 16 #[.val (.ref a1), .val (.ref a2), .val (.int (0 : Int32))] [(.ref a1)]))
  refine Go.st (fun t k => XS.iloadN X0.here hx rfl (hb hby d10_16) rfl k) ?_
  show Go p e below _ (s₁.setTop (mkF m 17 #[.val (.ref a1), .val (.ref a2), .val (.int (0 : Int32))] [(.int (0 : Int32)), (.ref a1)]))
  obtain ⟨cl4, Ar4, q4, S4, M4, H4, G4⟩ := id (P1.ext O0.2)
  have hin4 : ¬ ((0 : Int32) < 0 ∨ cl4.slots.size ≤ ((0 : Int32)).toNatClampNeg) := inb_of S4 ⟨by decide, by decide⟩
  have hat4 : cl4.slots[((0 : Int32)).toNatClampNeg]? = some (.int (50 : Int32)) := H4.at hin4 rfl
  refine Go.st (fun t k => X0.baloadBytes hx (j := (0 : Int32)) (v := (.int (50 : Int32))) (by rw [e0]; exact Ar4.1) (State.isArrayOf_alike hZ.alike Ar4.2.1) Ar4.2.2 hin4 hat4 (g := (mkF m 17 #[.val (.ref a1), .val (.ref a2), .val (.int (0 : Int32))] [(.int (0 : Int32)), (.ref a1)])) rfl rfl (hb hby d10_17) t k) ?_
  show Go p e below _ (s₁.setTop (mkF m 18 #[.val (.ref a1), .val (.ref a2), .val (.int (0 : Int32))] [(.int (50 : Int32))]))
  refine Go.st (fun t k => XS.aloadN X0.here hx rfl (hb hby d10_18) rfl rfl k) ?_
  show Go p e below _ (s₁.setTop (mkF m 19 #[.val (.ref a1), .val (.ref a2), .val (.int (0 : Int32))] [(.ref a2), (.int (50 : Int32))]))
  refine Go.st (fun t k => XS.iloadN X0.here hx rfl (hb hby d10_19) rfl k) ?_
  show Go p e below _ (s₁.setTop (mkF m 20 #[.val (.ref a1), .val (.ref a2), .val (.int (0 : Int32))] [(.int (0 : Int32)), (.ref a2), (.int (50 : Int32))]))
  obtain ⟨cl5, Ar5, q5, S5, M5, H5, G5⟩ := id P2
  have hin5 : ¬ ((0 : Int32) < 0 ∨ cl5.slots.size ≤ ((0 : Int32)).toNatClampNeg) := inb_of S5 ⟨by decide, by decide⟩
  have hat5 : cl5.slots[((0 : Int32)).toNatClampNeg]? = some (.int (51 : Int32)) := H5.at hin5 rfl
  refine Go.st (fun t k => X0.baloadBytes hx (j := (0 : Int32)) (v := (.int (51 : Int32))) (by rw [e0]; exact Ar5.1) (State.isArrayOf_alike hZ.alike Ar5.2.1) Ar5.2.2 hin5 hat5 (g := (mkF m 20 #[.val (.ref a1), .val (.ref a2), .val (.int (0 : Int32))] [(.int (0 : Int32)), (.ref a2), (.int (50 : Int32))])) rfl rfl (hb hby d10_20) t k) ?_
  show Go p e below _ (s₁.setTop (mkF m 21 #[.val (.ref a1), .val (.ref a2), .val (.int (0 : Int32))] [(.int (51 : Int32)), (.int (50 : Int32))]))
  refine Go.st (fun t k => XS.icmpNo X0.here hx rfl (hb hby d10_21) rfl (Jvm.Free.XT.ii_eq_f (by decide : ¬ ((50 : Int32) = (51 : Int32)))) k) ?_
  show Go p e below _ (s₁.setTop (mkF m 24 #[.val (.ref a1), .val (.ref a2), .val (.int (0 : Int32))] []))
  refine Go.st (fun t k => XS.iconst X0.here hx rfl (hb hby d10_24) k) ?_
  show Go p e below _ (s₁.setTop (mkF m 25 #[.val (.ref a1), .val (.ref a2), .val (.int (0 : Int32))] [(.int (0 : Int32))]))
  obtain ⟨fs, hr, hrun, hended, hWd, hsame⟩ := X0.leave (v := some (.int (0 : Int32))) (fun h => by rw [Bd.returns] at h; cases h)
  refine ⟨_, _, ?_, hrun, hended, _, _, rfl, ?_, ⟨⟨_, rfl⟩, hWd, hsame.mono (by decide) (by decide)⟩⟩
  · exact retN X0 hx (t := .boolean) Bd.returns (by simp) (hb hby d10_25) hr
  · show Q_rm10_2 Z a1 a2 k3 k4 h0 n0 _ s₁.heap _
    rw [e0]
    exact ⟨rfl, N0, rfl⟩
def Q_rm9_2 (Z : State) (a1 : Addr) (a2 : Addr) (p3 : Int32) (a4 : Addr) (a5 : Addr) (k6 : ClassId) (k7 : ClassId) (h0 : Heap) (n0 : Nat) (v : Option Value) (h : Heap) (L : List Loc) : Prop := v = some (.int (0 : Int32)) ∧ Fr n0 L ∧ h = h0
set_option maxRecDepth 65536 in
set_option maxHeartbeats 40000000 in
theorem rm9_2 (l : Launch) (Z : State) (a0 : Array Value) (hw : ∀ d ∈ tables_1, d.before a0 Z = true) (ws : List Jvm.Cond) (a1 : Addr) (a2 : Addr) (p3 : Int32) (a4 : Addr) (a5 : Addr) (k6 : ClassId) (k7 : ClassId) (h0 : Heap) (n0 : Nat) (O0 : Old Z n0 h0) (P1 : a1 ≠ a2) (P2 : Exa Z h0 a2 "java/lang/String") (P3 : Sta Z Z.heap "java/lang/String" "COMPACT_STRINGS" "Z" (.int p3)) (P4 : ¬ (p3 = (0 : Int32))) (P5 : Fld Z Z.heap a1 "java/lang/String" "coder" "B" (.int (0 : Int32))) (P6 : Fld Z h0 a2 "java/lang/String" "coder" "B" (.int (0 : Int32))) (P7 : Fld Z Z.heap a1 "java/lang/String" "value" "[B" (.ref a4)) (P8 : Fld Z h0 a2 "java/lang/String" "value" "[B" (.ref a5)) (P9 : Arv Z Z.heap a4 k6 .byte (3 : Int32) [(.int (50 : Int32)), (.int (111 : Int32)), (.int (112 : Int32))] (.int (0 : Int32))) (P10 : Arv Z h0 a5 k7 .byte (3 : Int32) [(.int (51 : Int32)), (.int (111 : Int32)), (.int (112 : Int32))] (.int (0 : Int32))) :
    MetFree l (⟨"java/lang/String", "equals", "(Ljava/lang/Object;)Z"⟩ : MethodName) (head1 (Jvm.Cond.code (⟨"java/lang/String", "equals", "(Ljava/lang/Object;)Z"⟩ : MethodName) jdk_42_method_66_code 3 (some .boolean) :: ws) ({ frames := 1, cells := 0, slots := 0, locals := 14 } : Room)) (fun a U => a = #[(.ref a1), (.ref a2)] ∧ Z.Warmed39 U.vm ∧ U.heap = h0) (fun _ _ _ _ _ => True) (fun _ U o U' => ∃ v L, o = .returned v ∧ Q_rm9_2 Z a1 a2 p3 a4 a5 k6 k7 h0 n0 v U'.heap L ∧ FrameEnd U o U' L ({ frames := 1, cells := 0, slots := 0, locals := 14 } : Room).cells ({ frames := 1, cells := 0, slots := 0, locals := 14 } : Room).slots) := by
  refine MetFree.of_bodySF (plainFor_of_name pn_1) hisR ?_
  intro p e s m args below meth c s₁ Bd hml0 hP hK
  obtain ⟨rfl, hZ, hh⟩ := hP
  have hx := Bd.exec
  have hby := Bd.bytes
  have hml : c.maxLocals = 3 := hml0
  have hown : s.vm.findClass "java/lang/String" = some m.cls := findClass_of_methodNamed Bd.named
  have hnm := (name_of_methodNamed Bd.named Bd.method).1
  have X0 : Stand p l e ({ frames := 1, cells := 0, slots := 0, locals := 14 } : Room) s m #[(.ref a1), (.ref a2)] below meth c s₁ [] 0 0 := Stand.of_body Bd
  have e0 : s₁.heap = h0 := by rw [← hh, Bd.state]; rfl
  have N0 := Fr.nil n0
  refine Go.start (P := (fun o U' => ∃ v L, o = .returned v ∧ Q_rm9_2 Z a1 a2 p3 a4 a5 k6 k7 h0 n0 v U'.heap L ∧ FrameEnd s o U' L ({ frames := 1, cells := 0, slots := 0, locals := 14 } : Room).cells ({ frames := 1, cells := 0, slots := 0, locals := 14 } : Room).slots)) (castTop (g' := (mkF m 0 #[.val (.ref a1), .val (.ref a2), .unset] [])) (by first | rfl | simp [entryFrame, mkF, argsToLocals, Value.category]) (T := s₁)) ?_
  refine Go.st (fun t k => XS.aloadN X0.here hx rfl (hb hby d9_0) rfl rfl k) ?_
  show Go p e below _ (s₁.setTop (mkF m 1 #[.val (.ref a1), .val (.ref a2), .unset] [(.ref a1)]))
  refine Go.st (fun t k => XS.aloadN X0.here hx rfl (hb hby d9_1) rfl rfl k) ?_
  show Go p e below _ (s₁.setTop (mkF m 2 #[.val (.ref a1), .val (.ref a2), .unset] [(.ref a2), (.ref a1)]))
  refine Go.st (fun t k => Jvm.RoadKit.acmp (g := (mkF m 2 #[.val (.ref a1), .val (.ref a2), .unset] [(.ref a2), (.ref a1)])) X0 hx rfl rfl rfl (pc0 := 2) (pc' := 7) (same := false) rfl (hb hby d9_2) rfl (decide_eq_false fun q => P1 (Value.ref.inj q)) (by decide) (by decide) k) ?_
  show Go p e below _ (s₁.setTop (mkF m 7 #[.val (.ref a1), .val (.ref a2), .unset] []))
  refine Go.st (fun t k => XS.aloadN X0.here hx rfl (hb hby d9_7) rfl rfl k) ?_
  show Go p e below _ (s₁.setTop (mkF m 8 #[.val (.ref a1), .val (.ref a2), .unset] [(.ref a2)]))
  obtain ⟨T1, X1, e1, st1⟩ := instY X0 hx hZ hown (w59 hw) e0 (Ins.self P2) (g := (mkF m 8 #[.val (.ref a1), .val (.ref a2), .unset] [(.ref a2)])) rfl rfl (hb hby d9_8)
  refine Go.st st1 ?_
  show Go p e below _ (T1.setTop (mkF m 11 #[.val (.ref a1), .val (.ref a2), .unset] [(.int (1 : Int32))]))
  refine Go.st (fun t k => XS.ifNo X1.here hx rfl (hb hby d9_11) rfl (Jvm.Free.XT.i0_eq_f (by decide : ¬ ((1 : Int32) = (0 : Int32)))) k) ?_
  show Go p e below _ (T1.setTop (mkF m 14 #[.val (.ref a1), .val (.ref a2), .unset] []))
  refine Go.st (fun t k => XS.aloadN X1.here hx rfl (hb hby d9_14) rfl rfl k) ?_
  show Go p e below _ (T1.setTop (mkF m 15 #[.val (.ref a1), .val (.ref a2), .unset] [(.ref a2)]))
  obtain ⟨T2, X2, e2, st2⟩ := castY X1 hx hZ hown (w59 hw) e1 (Ins.self P2) (g := (mkF m 15 #[.val (.ref a1), .val (.ref a2), .unset] [(.ref a2)])) rfl rfl (hb hby d9_15)
  refine Go.st st2 ?_
  show Go p e below _ (T2.setTop (mkF m 18 #[.val (.ref a1), .val (.ref a2), .unset] [(.ref a2)]))
  refine Go.st (fun t k => XS.astoreN X2.here hx rfl (hb hby d9_18) rfl rfl (l' := #[.val (.ref a1), .val (.ref a2), .val (.ref a2)]) rfl k) ?_
  show Go p e below _ (T2.setTop (mkF m 19 #[.val (.ref a1), .val (.ref a2), .val (.ref a2)] []))
  obtain ⟨T3, X3, e3, st3⟩ := getS2 X2 hx hZ hown (host := "") (Or.inl (w14 hw)) Via.refl e2 (P3.ext O0.2) (g := (mkF m 19 #[.val (.ref a1), .val (.ref a2), .val (.ref a2)] [])) rfl (hb hby d9_19)
  refine Go.st st3 ?_
  show Go p e below _ (T3.setTop (mkF m 22 #[.val (.ref a1), .val (.ref a2), .val (.ref a2)] [(.int p3)]))
  refine Go.st (fun t k => XS.ifNo X3.here hx rfl (hb hby d9_22) rfl (Jvm.Free.XT.i0_eq_f P4) k) ?_
  show Go p e below _ (T3.setTop (mkF m 25 #[.val (.ref a1), .val (.ref a2), .val (.ref a2)] []))
  refine Go.st (fun t k => XS.aloadN X3.here hx rfl (hb hby d9_25) rfl rfl k) ?_
  show Go p e below _ (T3.setTop (mkF m 26 #[.val (.ref a1), .val (.ref a2), .val (.ref a2)] [(.ref a1)]))
  obtain ⟨T4, X4, e4, st4⟩ := getF X3 hx hZ hown (host := "") (Or.inl (w26 hw)) Via.refl e3 (P5.ext O0.2) (g := (mkF m 26 #[.val (.ref a1), .val (.ref a2), .val (.ref a2)] [(.ref a1)])) rfl rfl (hb hby d9_26)
  refine Go.st st4 ?_
  show Go p e below _ (T4.setTop (mkF m 29 #[.val (.ref a1), .val (.ref a2), .val (.ref a2)] [(.int (0 : Int32))]))
  refine Go.st (fun t k => XS.aloadN X4.here hx rfl (hb hby d9_29) rfl rfl k) ?_
  show Go p e below _ (T4.setTop (mkF m 30 #[.val (.ref a1), .val (.ref a2), .val (.ref a2)] [(.ref a2), (.int (0 : Int32))]))
  obtain ⟨T5, X5, e5, st5⟩ := getF X4 hx hZ hown (host := "") (Or.inl (w26 hw)) Via.refl e4 P6 (g := (mkF m 30 #[.val (.ref a1), .val (.ref a2), .val (.ref a2)] [(.ref a2), (.int (0 : Int32))])) rfl rfl (hb hby d9_30)
  refine Go.st st5 ?_
  show Go p e below _ (T5.setTop (mkF m 33 #[.val (.ref a1), .val (.ref a2), .val (.ref a2)] [(.int (0 : Int32)), (.int (0 : Int32))]))
  refine Go.st (fun t k => XS.icmpNo X5.here hx rfl (hb hby d9_33) rfl (Jvm.Free.XT.ii_ne_f (by decide : (0 : Int32) = (0 : Int32))) k) ?_
  show Go p e below _ (T5.setTop (mkF m 36 #[.val (.ref a1), .val (.ref a2), .val (.ref a2)] []))
  refine Go.st (fun t k => XS.aloadN X5.here hx rfl (hb hby d9_36) rfl rfl k) ?_
  show Go p e below _ (T5.setTop (mkF m 37 #[.val (.ref a1), .val (.ref a2), .val (.ref a2)] [(.ref a1)]))
  obtain ⟨T6, X6, e6, st6⟩ := getF X5 hx hZ hown (host := "") (Or.inl (w28 hw)) Via.refl e5 (P7.ext O0.2) (g := (mkF m 37 #[.val (.ref a1), .val (.ref a2), .val (.ref a2)] [(.ref a1)])) rfl rfl (hb hby d9_37)
  refine Go.st st6 ?_
  show Go p e below _ (T6.setTop (mkF m 40 #[.val (.ref a1), .val (.ref a2), .val (.ref a2)] [(.ref a4)]))
  refine Go.st (fun t k => XS.aloadN X6.here hx rfl (hb hby d9_40) rfl rfl k) ?_
  show Go p e below _ (T6.setTop (mkF m 41 #[.val (.ref a1), .val (.ref a2), .val (.ref a2)] [(.ref a2), (.ref a4)]))
  obtain ⟨T7, X7, e7, st7⟩ := getF X6 hx hZ hown (host := "") (Or.inl (w28 hw)) Via.refl e6 P8 (g := (mkF m 41 #[.val (.ref a1), .val (.ref a2), .val (.ref a2)] [(.ref a2), (.ref a4)])) rfl rfl (hb hby d9_41)
  refine Go.st st7 ?_
  show Go p e below _ (T7.setTop (mkF m 44 #[.val (.ref a1), .val (.ref a2), .val (.ref a2)] [(.ref a5), (.ref a4)]))
  obtain ⟨_, _, ⟨T8, L8, k8, n8⟩, -, X8, ⟨Lc8, hQ8, l8, y8, z8⟩, st8⟩ := Jvm.LawKit.callS X7 hx (y := (⟨"java/lang/StringLatin1", "equals", "([B[B)Z"⟩ : MethodName)) hown (mvT hZ (w60 hw)) (mvT hZ (w61 hw)) (mvT hZ (w62 hw)) (mvT hZ (w63 hw)) (by decide) (backOf (W := 0) (rm10_2 l Z a0 hw [] a4 a5 k6 k7 h0 n0 O0 P9 P10) hZ (w63 hw) (w62 hw) (by decide) (by decide)) (g := (mkF m 44 #[.val (.ref a1), .val (.ref a2), .val (.ref a2)] [(.ref a5), (.ref a4)])) rfl (by rw [hml]; rfl) (argsL := [(.ref a4), (.ref a5)]) (rest := []) (lenOf pd_6 rfl) rfl (by show 2 * 0 + _ ≤ _; exact Nat.le_of_eq rfl) (hb hby d9_44) (fun vm₁ hw₁ => ⟨rfl, e7, (by decide : 0 + 0 ≤ _), (by decide : 0 + 0 ≤ _)⟩)
  dsimp only [Pt.U, Pt.locs, Pt.cells, Pt.slots] at X8 l8 y8 z8 st8 hQ8
  subst l8 y8 z8
  obtain ⟨rfl, M8, eh8⟩ := hQ8
  have N8 := Fr.app N0 M8
  refine Go.st st8 ?_
  show Go p e below _ (T8.setTop (mkF m 47 #[.val (.ref a1), .val (.ref a2), .val (.ref a2)] [(.int (0 : Int32))]))
  refine Go.st (fun t k => XS.ifYes X8.here hx rfl (pc0 := 47) (pc' := 54) rfl (hb hby d9_47) rfl (Jvm.Free.XT.i0_eq_t (by decide : (0 : Int32) = (0 : Int32))) (by decide) (by decide) k) ?_
  show Go p e below _ (T8.setTop (mkF m 54 #[.val (.ref a1), .val (.ref a2), .val (.ref a2)] []))
  refine Go.st (fun t k => XS.iconst X8.here hx rfl (hb hby d9_54) k) ?_
  show Go p e below _ (T8.setTop (mkF m 55 #[.val (.ref a1), .val (.ref a2), .val (.ref a2)] [(.int (0 : Int32))]))
  obtain ⟨fs, hr, hrun, hended, hWd, hsame⟩ := X8.leave (v := some (.int (0 : Int32))) (fun h => by rw [Bd.returns] at h; cases h)
  refine ⟨_, _, ?_, hrun, hended, _, _, rfl, ?_, ⟨⟨_, rfl⟩, hWd, hsame.mono (by decide) (by decide)⟩⟩
  · exact retN X8 hx (t := .boolean) Bd.returns (by simp) (hb hby d9_55) hr
  · show Q_rm9_2 Z a1 a2 p3 a4 a5 k6 k7 h0 n0 _ T8.heap _
    rw [eh8]
    exact ⟨rfl, N8, rfl⟩
def Q_rm10_3 (Z : State) (a1 : Addr) (a2 : Addr) (k3 : ClassId) (k4 : ClassId) (h0 : Heap) (n0 : Nat) (v : Option Value) (h : Heap) (L : List Loc) : Prop := v = some (.int (1 : Int32)) ∧ Fr n0 L ∧ h = h0
set_option maxRecDepth 65536 in
set_option maxHeartbeats 40000000 in
theorem rm10_3 (l : Launch) (Z : State) (a0 : Array Value) (hw : ∀ d ∈ tables_1, d.before a0 Z = true) (ws : List Jvm.Cond) (a1 : Addr) (a2 : Addr) (k3 : ClassId) (k4 : ClassId) (h0 : Heap) (n0 : Nat) (O0 : Old Z n0 h0) (P1 : Arv Z Z.heap a1 k3 .byte (3 : Int32) [(.int (51 : Int32)), (.int (111 : Int32)), (.int (112 : Int32))] (.int (0 : Int32))) (P2 : Arv Z h0 a2 k4 .byte (3 : Int32) [(.int (51 : Int32)), (.int (111 : Int32)), (.int (112 : Int32))] (.int (0 : Int32))) :
    MetFree l (⟨"java/lang/StringLatin1", "equals", "([B[B)Z"⟩ : MethodName) (head1 (Jvm.Cond.code (⟨"java/lang/StringLatin1", "equals", "([B[B)Z"⟩ : MethodName) jdk_43_method_13_code 3 (some .boolean) :: ws) ({ frames := 0, cells := 0, slots := 0, locals := 0 } : Room)) (fun a U => a = #[(.ref a1), (.ref a2)] ∧ Z.Warmed39 U.vm ∧ U.heap = h0) (fun _ _ _ _ _ => True) (fun _ U o U' => ∃ v L, o = .returned v ∧ Q_rm10_3 Z a1 a2 k3 k4 h0 n0 v U'.heap L ∧ FrameEnd U o U' L ({ frames := 0, cells := 0, slots := 0, locals := 0 } : Room).cells ({ frames := 0, cells := 0, slots := 0, locals := 0 } : Room).slots) := by
  refine MetFree.of_bodySF (plainFor_of_name pn_3) hisR ?_
  intro p e s m args below meth c s₁ Bd hml0 hP hK
  obtain ⟨rfl, hZ, hh⟩ := hP
  have hx := Bd.exec
  have hby := Bd.bytes
  have hml : c.maxLocals = 3 := hml0
  have hown : s.vm.findClass "java/lang/StringLatin1" = some m.cls := findClass_of_methodNamed Bd.named
  have hnm := (name_of_methodNamed Bd.named Bd.method).1
  have X0 : Stand p l e ({ frames := 0, cells := 0, slots := 0, locals := 0 } : Room) s m #[(.ref a1), (.ref a2)] below meth c s₁ [] 0 0 := Stand.of_body Bd
  have e0 : s₁.heap = h0 := by rw [← hh, Bd.state]; rfl
  have N0 := Fr.nil n0
  refine Go.start (P := (fun o U' => ∃ v L, o = .returned v ∧ Q_rm10_3 Z a1 a2 k3 k4 h0 n0 v U'.heap L ∧ FrameEnd s o U' L ({ frames := 0, cells := 0, slots := 0, locals := 0 } : Room).cells ({ frames := 0, cells := 0, slots := 0, locals := 0 } : Room).slots)) (castTop (g' := (mkF m 0 #[.val (.ref a1), .val (.ref a2), .unset] [])) (by first | rfl | simp [entryFrame, mkF, argsToLocals, Value.category]) (T := s₁)) ?_
  refine Go.st (fun t k => XS.aloadN X0.here hx rfl (hb hby d10_0) rfl rfl k) ?_
  show Go p e below _ (s₁.setTop (mkF m 1 #[.val (.ref a1), .val (.ref a2), .unset] [(.ref a1)]))
  obtain ⟨cl1, Ar1, -, S1, M1, -, -⟩ := id (P1.ext O0.2)
  refine Go.st (fun t k => X0.arraylength hx (by rw [e0]; exact Ar1.1) (State.isArrayOf_alike hZ.alike Ar1.2.1) (g := (mkF m 1 #[.val (.ref a1), .val (.ref a2), .unset] [(.ref a1)])) rfl rfl (hb hby d10_1) t k) ?_
  rw [len_of S1 M1]
  show Go p e below _ (s₁.setTop (mkF m 2 #[.val (.ref a1), .val (.ref a2), .unset] [(.int (3 : Int32))]))
  refine Go.st (fun t k => XS.aloadN X0.here hx rfl (hb hby d10_2) rfl rfl k) ?_
  show Go p e below _ (s₁.setTop (mkF m 3 #[.val (.ref a1), .val (.ref a2), .unset] [(.ref a2), (.int (3 : Int32))]))
  obtain ⟨cl2, Ar2, -, S2, M2, -, -⟩ := id P2
  refine Go.st (fun t k => X0.arraylength hx (by rw [e0]; exact Ar2.1) (State.isArrayOf_alike hZ.alike Ar2.2.1) (g := (mkF m 3 #[.val (.ref a1), .val (.ref a2), .unset] [(.ref a2), (.int (3 : Int32))])) rfl rfl (hb hby d10_3) t k) ?_
  rw [len_of S2 M2]
  show Go p e below _ (s₁.setTop (mkF m 4 #[.val (.ref a1), .val (.ref a2), .unset] [(.int (3 : Int32)), (.int (3 : Int32))]))
  refine Go.st (fun t k => XS.icmpNo X0.here hx rfl (hb hby d10_4) rfl (Jvm.Free.XT.ii_ne_f (by decide : (3 : Int32) = (3 : Int32))) k) ?_
  show Go p e below _ (s₁.setTop (mkF m 7 #[.val (.ref a1), .val (.ref a2), .unset] []))
  refine Go.st (fun t k => XS.iconst X0.here hx rfl (hb hby d10_7) k) ?_
  show Go p e below _ (s₁.setTop (mkF m 8 #[.val (.ref a1), .val (.ref a2), .unset] [(.int (0 : Int32))]))
  refine Go.st (fun t k => XS.istoreN X0.here hx rfl (hb hby d10_8) rfl (l' := #[.val (.ref a1), .val (.ref a2), .val (.int (0 : Int32))]) rfl k) ?_
  show Go p e below _ (s₁.setTop (mkF m 9 #[.val (.ref a1), .val (.ref a2), .val (.int (0 : Int32))] []))
  refine Go.st (fun t k => XS.iloadN X0.here hx rfl (hb hby d10_9) rfl k) ?_
  show Go p e below _ (s₁.setTop (mkF m 10 #[.val (.ref a1), .val (.ref a2), .val (.int (0 : Int32))] [(.int (0 : Int32))]))
  refine Go.st (fun t k => XS.aloadN X0.here hx rfl (hb hby d10_10) rfl rfl k) ?_
  show Go p e below _ (s₁.setTop (mkF m 11 #[.val (.ref a1), .val (.ref a2), .val (.int (0 : Int32))] [(.ref a1), (.int (0 : Int32))]))
  obtain ⟨cl3, Ar3, -, S3, M3, -, -⟩ := id (P1.ext O0.2)
  refine Go.st (fun t k => X0.arraylength hx (by rw [e0]; exact Ar3.1) (State.isArrayOf_alike hZ.alike Ar3.2.1) (g := (mkF m 11 #[.val (.ref a1), .val (.ref a2), .val (.int (0 : Int32))] [(.ref a1), (.int (0 : Int32))])) rfl rfl (hb hby d10_11) t k) ?_
  rw [len_of S3 M3]
  show Go p e below _ (s₁.setTop (mkF m 12 #[.val (.ref a1), .val (.ref a2), .val (.int (0 : Int32))] [(.int (3 : Int32)), (.int (0 : Int32))]))
  refine Go.st (fun t k => XS.icmpNo X0.here hx rfl (hb hby d10_12) rfl (Jvm.Free.XT.ii_ge_f (by decide : (0 : Int32) < (3 : Int32))) k) ?_
  show Go p e below _ (s₁.setTop (mkF m 15 #[.val (.ref a1), .val (.ref a2), .val (.int (0 : Int32))] []))
  refine Go.st (fun t k => XS.aloadN X0.here hx rfl (hb hby d10_15) rfl rfl k) ?_
  show Go p e below _ (s₁.setTop (mkF m 16 #[.val (.ref a1), .val (.ref a2), .val (.int (0 : Int32))] [(.ref a1)]))
  refine Go.st (fun t k => XS.iloadN X0.here hx rfl (hb hby d10_16) rfl k) ?_
  show Go p e below _ (s₁.setTop (mkF m 17 #[.val (.ref a1), .val (.ref a2), .val (.int (0 : Int32))] [(.int (0 : Int32)), (.ref a1)]))
  obtain ⟨cl4, Ar4, q4, S4, M4, H4, G4⟩ := id (P1.ext O0.2)
  have hin4 : ¬ ((0 : Int32) < 0 ∨ cl4.slots.size ≤ ((0 : Int32)).toNatClampNeg) := inb_of S4 ⟨by decide, by decide⟩
  have hat4 : cl4.slots[((0 : Int32)).toNatClampNeg]? = some (.int (51 : Int32)) := H4.at hin4 rfl
  refine Go.st (fun t k => X0.baloadBytes hx (j := (0 : Int32)) (v := (.int (51 : Int32))) (by rw [e0]; exact Ar4.1) (State.isArrayOf_alike hZ.alike Ar4.2.1) Ar4.2.2 hin4 hat4 (g := (mkF m 17 #[.val (.ref a1), .val (.ref a2), .val (.int (0 : Int32))] [(.int (0 : Int32)), (.ref a1)])) rfl rfl (hb hby d10_17) t k) ?_
  show Go p e below _ (s₁.setTop (mkF m 18 #[.val (.ref a1), .val (.ref a2), .val (.int (0 : Int32))] [(.int (51 : Int32))]))
  refine Go.st (fun t k => XS.aloadN X0.here hx rfl (hb hby d10_18) rfl rfl k) ?_
  show Go p e below _ (s₁.setTop (mkF m 19 #[.val (.ref a1), .val (.ref a2), .val (.int (0 : Int32))] [(.ref a2), (.int (51 : Int32))]))
  refine Go.st (fun t k => XS.iloadN X0.here hx rfl (hb hby d10_19) rfl k) ?_
  show Go p e below _ (s₁.setTop (mkF m 20 #[.val (.ref a1), .val (.ref a2), .val (.int (0 : Int32))] [(.int (0 : Int32)), (.ref a2), (.int (51 : Int32))]))
  obtain ⟨cl5, Ar5, q5, S5, M5, H5, G5⟩ := id P2
  have hin5 : ¬ ((0 : Int32) < 0 ∨ cl5.slots.size ≤ ((0 : Int32)).toNatClampNeg) := inb_of S5 ⟨by decide, by decide⟩
  have hat5 : cl5.slots[((0 : Int32)).toNatClampNeg]? = some (.int (51 : Int32)) := H5.at hin5 rfl
  refine Go.st (fun t k => X0.baloadBytes hx (j := (0 : Int32)) (v := (.int (51 : Int32))) (by rw [e0]; exact Ar5.1) (State.isArrayOf_alike hZ.alike Ar5.2.1) Ar5.2.2 hin5 hat5 (g := (mkF m 20 #[.val (.ref a1), .val (.ref a2), .val (.int (0 : Int32))] [(.int (0 : Int32)), (.ref a2), (.int (51 : Int32))])) rfl rfl (hb hby d10_20) t k) ?_
  show Go p e below _ (s₁.setTop (mkF m 21 #[.val (.ref a1), .val (.ref a2), .val (.int (0 : Int32))] [(.int (51 : Int32)), (.int (51 : Int32))]))
  refine Go.st (fun t k => XS.icmpYes X0.here hx rfl (pc0 := 21) (pc' := 26) rfl (hb hby d10_21) rfl (Jvm.Free.XT.ii_eq_t (by decide : (51 : Int32) = (51 : Int32))) (by decide) (by decide) k) ?_
  show Go p e below _ (s₁.setTop (mkF m 26 #[.val (.ref a1), .val (.ref a2), .val (.int (0 : Int32))] []))
  refine Go.st (fun t k => XS.iinc X0.here hx rfl (hb hby d10_26) rfl (l' := #[.val (.ref a1), .val (.ref a2), .val (.int (1 : Int32))]) rfl k) ?_
  show Go p e below _ (s₁.setTop (mkF m 29 #[.val (.ref a1), .val (.ref a2), .val (.int (1 : Int32))] []))
  refine Go.st (fun t k => XS.goto X0.here hx rfl (pc0 := 29) (pc' := 9) rfl (hb hby d10_29) (by decide) (by decide) k) ?_
  show Go p e below _ (s₁.setTop (mkF m 9 #[.val (.ref a1), .val (.ref a2), .val (.int (1 : Int32))] []))
  refine Go.st (fun t k => XS.iloadN X0.here hx rfl (hb hby d10_9) rfl k) ?_
  show Go p e below _ (s₁.setTop (mkF m 10 #[.val (.ref a1), .val (.ref a2), .val (.int (1 : Int32))] [(.int (1 : Int32))]))
  refine Go.st (fun t k => XS.aloadN X0.here hx rfl (hb hby d10_10) rfl rfl k) ?_
  show Go p e below _ (s₁.setTop (mkF m 11 #[.val (.ref a1), .val (.ref a2), .val (.int (1 : Int32))] [(.ref a1), (.int (1 : Int32))]))
  obtain ⟨cl6, Ar6, -, S6, M6, -, -⟩ := id (P1.ext O0.2)
  refine Go.st (fun t k => X0.arraylength hx (by rw [e0]; exact Ar6.1) (State.isArrayOf_alike hZ.alike Ar6.2.1) (g := (mkF m 11 #[.val (.ref a1), .val (.ref a2), .val (.int (1 : Int32))] [(.ref a1), (.int (1 : Int32))])) rfl rfl (hb hby d10_11) t k) ?_
  rw [len_of S6 M6]
  show Go p e below _ (s₁.setTop (mkF m 12 #[.val (.ref a1), .val (.ref a2), .val (.int (1 : Int32))] [(.int (3 : Int32)), (.int (1 : Int32))]))
  refine Go.st (fun t k => XS.icmpNo X0.here hx rfl (hb hby d10_12) rfl (Jvm.Free.XT.ii_ge_f (by decide : (1 : Int32) < (3 : Int32))) k) ?_
  show Go p e below _ (s₁.setTop (mkF m 15 #[.val (.ref a1), .val (.ref a2), .val (.int (1 : Int32))] []))
  refine Go.st (fun t k => XS.aloadN X0.here hx rfl (hb hby d10_15) rfl rfl k) ?_
  show Go p e below _ (s₁.setTop (mkF m 16 #[.val (.ref a1), .val (.ref a2), .val (.int (1 : Int32))] [(.ref a1)]))
  refine Go.st (fun t k => XS.iloadN X0.here hx rfl (hb hby d10_16) rfl k) ?_
  show Go p e below _ (s₁.setTop (mkF m 17 #[.val (.ref a1), .val (.ref a2), .val (.int (1 : Int32))] [(.int (1 : Int32)), (.ref a1)]))
  obtain ⟨cl7, Ar7, q7, S7, M7, H7, G7⟩ := id (P1.ext O0.2)
  have hin7 : ¬ ((1 : Int32) < 0 ∨ cl7.slots.size ≤ ((1 : Int32)).toNatClampNeg) := inb_of S7 ⟨by decide, by decide⟩
  have hat7 : cl7.slots[((1 : Int32)).toNatClampNeg]? = some (.int (111 : Int32)) := H7.at hin7 rfl
  refine Go.st (fun t k => X0.baloadBytes hx (j := (1 : Int32)) (v := (.int (111 : Int32))) (by rw [e0]; exact Ar7.1) (State.isArrayOf_alike hZ.alike Ar7.2.1) Ar7.2.2 hin7 hat7 (g := (mkF m 17 #[.val (.ref a1), .val (.ref a2), .val (.int (1 : Int32))] [(.int (1 : Int32)), (.ref a1)])) rfl rfl (hb hby d10_17) t k) ?_
  show Go p e below _ (s₁.setTop (mkF m 18 #[.val (.ref a1), .val (.ref a2), .val (.int (1 : Int32))] [(.int (111 : Int32))]))
  refine Go.st (fun t k => XS.aloadN X0.here hx rfl (hb hby d10_18) rfl rfl k) ?_
  show Go p e below _ (s₁.setTop (mkF m 19 #[.val (.ref a1), .val (.ref a2), .val (.int (1 : Int32))] [(.ref a2), (.int (111 : Int32))]))
  refine Go.st (fun t k => XS.iloadN X0.here hx rfl (hb hby d10_19) rfl k) ?_
  show Go p e below _ (s₁.setTop (mkF m 20 #[.val (.ref a1), .val (.ref a2), .val (.int (1 : Int32))] [(.int (1 : Int32)), (.ref a2), (.int (111 : Int32))]))
  obtain ⟨cl8, Ar8, q8, S8, M8, H8, G8⟩ := id P2
  have hin8 : ¬ ((1 : Int32) < 0 ∨ cl8.slots.size ≤ ((1 : Int32)).toNatClampNeg) := inb_of S8 ⟨by decide, by decide⟩
  have hat8 : cl8.slots[((1 : Int32)).toNatClampNeg]? = some (.int (111 : Int32)) := H8.at hin8 rfl
  refine Go.st (fun t k => X0.baloadBytes hx (j := (1 : Int32)) (v := (.int (111 : Int32))) (by rw [e0]; exact Ar8.1) (State.isArrayOf_alike hZ.alike Ar8.2.1) Ar8.2.2 hin8 hat8 (g := (mkF m 20 #[.val (.ref a1), .val (.ref a2), .val (.int (1 : Int32))] [(.int (1 : Int32)), (.ref a2), (.int (111 : Int32))])) rfl rfl (hb hby d10_20) t k) ?_
  show Go p e below _ (s₁.setTop (mkF m 21 #[.val (.ref a1), .val (.ref a2), .val (.int (1 : Int32))] [(.int (111 : Int32)), (.int (111 : Int32))]))
  refine Go.st (fun t k => XS.icmpYes X0.here hx rfl (pc0 := 21) (pc' := 26) rfl (hb hby d10_21) rfl (Jvm.Free.XT.ii_eq_t (by decide : (111 : Int32) = (111 : Int32))) (by decide) (by decide) k) ?_
  show Go p e below _ (s₁.setTop (mkF m 26 #[.val (.ref a1), .val (.ref a2), .val (.int (1 : Int32))] []))
  refine Go.st (fun t k => XS.iinc X0.here hx rfl (hb hby d10_26) rfl (l' := #[.val (.ref a1), .val (.ref a2), .val (.int (2 : Int32))]) rfl k) ?_
  show Go p e below _ (s₁.setTop (mkF m 29 #[.val (.ref a1), .val (.ref a2), .val (.int (2 : Int32))] []))
  refine Go.st (fun t k => XS.goto X0.here hx rfl (pc0 := 29) (pc' := 9) rfl (hb hby d10_29) (by decide) (by decide) k) ?_
  show Go p e below _ (s₁.setTop (mkF m 9 #[.val (.ref a1), .val (.ref a2), .val (.int (2 : Int32))] []))
  refine Go.st (fun t k => XS.iloadN X0.here hx rfl (hb hby d10_9) rfl k) ?_
  show Go p e below _ (s₁.setTop (mkF m 10 #[.val (.ref a1), .val (.ref a2), .val (.int (2 : Int32))] [(.int (2 : Int32))]))
  refine Go.st (fun t k => XS.aloadN X0.here hx rfl (hb hby d10_10) rfl rfl k) ?_
  show Go p e below _ (s₁.setTop (mkF m 11 #[.val (.ref a1), .val (.ref a2), .val (.int (2 : Int32))] [(.ref a1), (.int (2 : Int32))]))
  obtain ⟨cl9, Ar9, -, S9, M9, -, -⟩ := id (P1.ext O0.2)
  refine Go.st (fun t k => X0.arraylength hx (by rw [e0]; exact Ar9.1) (State.isArrayOf_alike hZ.alike Ar9.2.1) (g := (mkF m 11 #[.val (.ref a1), .val (.ref a2), .val (.int (2 : Int32))] [(.ref a1), (.int (2 : Int32))])) rfl rfl (hb hby d10_11) t k) ?_
  rw [len_of S9 M9]
  show Go p e below _ (s₁.setTop (mkF m 12 #[.val (.ref a1), .val (.ref a2), .val (.int (2 : Int32))] [(.int (3 : Int32)), (.int (2 : Int32))]))
  refine Go.st (fun t k => XS.icmpNo X0.here hx rfl (hb hby d10_12) rfl (Jvm.Free.XT.ii_ge_f (by decide : (2 : Int32) < (3 : Int32))) k) ?_
  show Go p e below _ (s₁.setTop (mkF m 15 #[.val (.ref a1), .val (.ref a2), .val (.int (2 : Int32))] []))
  refine Go.st (fun t k => XS.aloadN X0.here hx rfl (hb hby d10_15) rfl rfl k) ?_
  show Go p e below _ (s₁.setTop (mkF m 16 #[.val (.ref a1), .val (.ref a2), .val (.int (2 : Int32))] [(.ref a1)]))
  refine Go.st (fun t k => XS.iloadN X0.here hx rfl (hb hby d10_16) rfl k) ?_
  show Go p e below _ (s₁.setTop (mkF m 17 #[.val (.ref a1), .val (.ref a2), .val (.int (2 : Int32))] [(.int (2 : Int32)), (.ref a1)]))
  obtain ⟨cl10, Ar10, q10, S10, M10, H10, G10⟩ := id (P1.ext O0.2)
  have hin10 : ¬ ((2 : Int32) < 0 ∨ cl10.slots.size ≤ ((2 : Int32)).toNatClampNeg) := inb_of S10 ⟨by decide, by decide⟩
  have hat10 : cl10.slots[((2 : Int32)).toNatClampNeg]? = some (.int (112 : Int32)) := H10.at hin10 rfl
  refine Go.st (fun t k => X0.baloadBytes hx (j := (2 : Int32)) (v := (.int (112 : Int32))) (by rw [e0]; exact Ar10.1) (State.isArrayOf_alike hZ.alike Ar10.2.1) Ar10.2.2 hin10 hat10 (g := (mkF m 17 #[.val (.ref a1), .val (.ref a2), .val (.int (2 : Int32))] [(.int (2 : Int32)), (.ref a1)])) rfl rfl (hb hby d10_17) t k) ?_
  show Go p e below _ (s₁.setTop (mkF m 18 #[.val (.ref a1), .val (.ref a2), .val (.int (2 : Int32))] [(.int (112 : Int32))]))
  refine Go.st (fun t k => XS.aloadN X0.here hx rfl (hb hby d10_18) rfl rfl k) ?_
  show Go p e below _ (s₁.setTop (mkF m 19 #[.val (.ref a1), .val (.ref a2), .val (.int (2 : Int32))] [(.ref a2), (.int (112 : Int32))]))
  refine Go.st (fun t k => XS.iloadN X0.here hx rfl (hb hby d10_19) rfl k) ?_
  show Go p e below _ (s₁.setTop (mkF m 20 #[.val (.ref a1), .val (.ref a2), .val (.int (2 : Int32))] [(.int (2 : Int32)), (.ref a2), (.int (112 : Int32))]))
  obtain ⟨cl11, Ar11, q11, S11, M11, H11, G11⟩ := id P2
  have hin11 : ¬ ((2 : Int32) < 0 ∨ cl11.slots.size ≤ ((2 : Int32)).toNatClampNeg) := inb_of S11 ⟨by decide, by decide⟩
  have hat11 : cl11.slots[((2 : Int32)).toNatClampNeg]? = some (.int (112 : Int32)) := H11.at hin11 rfl
  refine Go.st (fun t k => X0.baloadBytes hx (j := (2 : Int32)) (v := (.int (112 : Int32))) (by rw [e0]; exact Ar11.1) (State.isArrayOf_alike hZ.alike Ar11.2.1) Ar11.2.2 hin11 hat11 (g := (mkF m 20 #[.val (.ref a1), .val (.ref a2), .val (.int (2 : Int32))] [(.int (2 : Int32)), (.ref a2), (.int (112 : Int32))])) rfl rfl (hb hby d10_20) t k) ?_
  show Go p e below _ (s₁.setTop (mkF m 21 #[.val (.ref a1), .val (.ref a2), .val (.int (2 : Int32))] [(.int (112 : Int32)), (.int (112 : Int32))]))
  refine Go.st (fun t k => XS.icmpYes X0.here hx rfl (pc0 := 21) (pc' := 26) rfl (hb hby d10_21) rfl (Jvm.Free.XT.ii_eq_t (by decide : (112 : Int32) = (112 : Int32))) (by decide) (by decide) k) ?_
  show Go p e below _ (s₁.setTop (mkF m 26 #[.val (.ref a1), .val (.ref a2), .val (.int (2 : Int32))] []))
  refine Go.st (fun t k => XS.iinc X0.here hx rfl (hb hby d10_26) rfl (l' := #[.val (.ref a1), .val (.ref a2), .val (.int (3 : Int32))]) rfl k) ?_
  show Go p e below _ (s₁.setTop (mkF m 29 #[.val (.ref a1), .val (.ref a2), .val (.int (3 : Int32))] []))
  refine Go.st (fun t k => XS.goto X0.here hx rfl (pc0 := 29) (pc' := 9) rfl (hb hby d10_29) (by decide) (by decide) k) ?_
  show Go p e below _ (s₁.setTop (mkF m 9 #[.val (.ref a1), .val (.ref a2), .val (.int (3 : Int32))] []))
  refine Go.st (fun t k => XS.iloadN X0.here hx rfl (hb hby d10_9) rfl k) ?_
  show Go p e below _ (s₁.setTop (mkF m 10 #[.val (.ref a1), .val (.ref a2), .val (.int (3 : Int32))] [(.int (3 : Int32))]))
  refine Go.st (fun t k => XS.aloadN X0.here hx rfl (hb hby d10_10) rfl rfl k) ?_
  show Go p e below _ (s₁.setTop (mkF m 11 #[.val (.ref a1), .val (.ref a2), .val (.int (3 : Int32))] [(.ref a1), (.int (3 : Int32))]))
  obtain ⟨cl12, Ar12, -, S12, M12, -, -⟩ := id (P1.ext O0.2)
  refine Go.st (fun t k => X0.arraylength hx (by rw [e0]; exact Ar12.1) (State.isArrayOf_alike hZ.alike Ar12.2.1) (g := (mkF m 11 #[.val (.ref a1), .val (.ref a2), .val (.int (3 : Int32))] [(.ref a1), (.int (3 : Int32))])) rfl rfl (hb hby d10_11) t k) ?_
  rw [len_of S12 M12]
  show Go p e below _ (s₁.setTop (mkF m 12 #[.val (.ref a1), .val (.ref a2), .val (.int (3 : Int32))] [(.int (3 : Int32)), (.int (3 : Int32))]))
  refine Go.st (fun t k => XS.icmpYes X0.here hx rfl (pc0 := 12) (pc' := 32) rfl (hb hby d10_12) rfl (Jvm.Free.XT.ii_ge_t (by decide : ¬ ((3 : Int32) < (3 : Int32)))) (by decide) (by decide) k) ?_
  show Go p e below _ (s₁.setTop (mkF m 32 #[.val (.ref a1), .val (.ref a2), .val (.int (3 : Int32))] []))
  refine Go.st (fun t k => XS.iconst X0.here hx rfl (hb hby d10_32) k) ?_
  show Go p e below _ (s₁.setTop (mkF m 33 #[.val (.ref a1), .val (.ref a2), .val (.int (3 : Int32))] [(.int (1 : Int32))]))
  obtain ⟨fs, hr, hrun, hended, hWd, hsame⟩ := X0.leave (v := some (.int (1 : Int32))) (fun h => by rw [Bd.returns] at h; cases h)
  refine ⟨_, _, ?_, hrun, hended, _, _, rfl, ?_, ⟨⟨_, rfl⟩, hWd, hsame.mono (by decide) (by decide)⟩⟩
  · exact retN X0 hx (t := .boolean) Bd.returns (by simp) (hb hby d10_33) hr
  · show Q_rm10_3 Z a1 a2 k3 k4 h0 n0 _ s₁.heap _
    rw [e0]
    exact ⟨rfl, N0, rfl⟩
def Q_rm9_3 (Z : State) (a1 : Addr) (a2 : Addr) (p3 : Int32) (a4 : Addr) (a5 : Addr) (k6 : ClassId) (k7 : ClassId) (h0 : Heap) (n0 : Nat) (v : Option Value) (h : Heap) (L : List Loc) : Prop := v = some (.int (1 : Int32)) ∧ Fr n0 L ∧ h = h0
set_option maxRecDepth 65536 in
set_option maxHeartbeats 40000000 in
theorem rm9_3 (l : Launch) (Z : State) (a0 : Array Value) (hw : ∀ d ∈ tables_1, d.before a0 Z = true) (ws : List Jvm.Cond) (a1 : Addr) (a2 : Addr) (p3 : Int32) (a4 : Addr) (a5 : Addr) (k6 : ClassId) (k7 : ClassId) (h0 : Heap) (n0 : Nat) (O0 : Old Z n0 h0) (P1 : a1 ≠ a2) (P2 : Exa Z h0 a2 "java/lang/String") (P3 : Sta Z Z.heap "java/lang/String" "COMPACT_STRINGS" "Z" (.int p3)) (P4 : ¬ (p3 = (0 : Int32))) (P5 : Fld Z Z.heap a1 "java/lang/String" "coder" "B" (.int (0 : Int32))) (P6 : Fld Z h0 a2 "java/lang/String" "coder" "B" (.int (0 : Int32))) (P7 : Fld Z Z.heap a1 "java/lang/String" "value" "[B" (.ref a4)) (P8 : Fld Z h0 a2 "java/lang/String" "value" "[B" (.ref a5)) (P9 : Arv Z Z.heap a4 k6 .byte (3 : Int32) [(.int (51 : Int32)), (.int (111 : Int32)), (.int (112 : Int32))] (.int (0 : Int32))) (P10 : Arv Z h0 a5 k7 .byte (3 : Int32) [(.int (51 : Int32)), (.int (111 : Int32)), (.int (112 : Int32))] (.int (0 : Int32))) :
    MetFree l (⟨"java/lang/String", "equals", "(Ljava/lang/Object;)Z"⟩ : MethodName) (head1 (Jvm.Cond.code (⟨"java/lang/String", "equals", "(Ljava/lang/Object;)Z"⟩ : MethodName) jdk_42_method_66_code 3 (some .boolean) :: ws) ({ frames := 1, cells := 0, slots := 0, locals := 14 } : Room)) (fun a U => a = #[(.ref a1), (.ref a2)] ∧ Z.Warmed39 U.vm ∧ U.heap = h0) (fun _ _ _ _ _ => True) (fun _ U o U' => ∃ v L, o = .returned v ∧ Q_rm9_3 Z a1 a2 p3 a4 a5 k6 k7 h0 n0 v U'.heap L ∧ FrameEnd U o U' L ({ frames := 1, cells := 0, slots := 0, locals := 14 } : Room).cells ({ frames := 1, cells := 0, slots := 0, locals := 14 } : Room).slots) := by
  refine MetFree.of_bodySF (plainFor_of_name pn_1) hisR ?_
  intro p e s m args below meth c s₁ Bd hml0 hP hK
  obtain ⟨rfl, hZ, hh⟩ := hP
  have hx := Bd.exec
  have hby := Bd.bytes
  have hml : c.maxLocals = 3 := hml0
  have hown : s.vm.findClass "java/lang/String" = some m.cls := findClass_of_methodNamed Bd.named
  have hnm := (name_of_methodNamed Bd.named Bd.method).1
  have X0 : Stand p l e ({ frames := 1, cells := 0, slots := 0, locals := 14 } : Room) s m #[(.ref a1), (.ref a2)] below meth c s₁ [] 0 0 := Stand.of_body Bd
  have e0 : s₁.heap = h0 := by rw [← hh, Bd.state]; rfl
  have N0 := Fr.nil n0
  refine Go.start (P := (fun o U' => ∃ v L, o = .returned v ∧ Q_rm9_3 Z a1 a2 p3 a4 a5 k6 k7 h0 n0 v U'.heap L ∧ FrameEnd s o U' L ({ frames := 1, cells := 0, slots := 0, locals := 14 } : Room).cells ({ frames := 1, cells := 0, slots := 0, locals := 14 } : Room).slots)) (castTop (g' := (mkF m 0 #[.val (.ref a1), .val (.ref a2), .unset] [])) (by first | rfl | simp [entryFrame, mkF, argsToLocals, Value.category]) (T := s₁)) ?_
  refine Go.st (fun t k => XS.aloadN X0.here hx rfl (hb hby d9_0) rfl rfl k) ?_
  show Go p e below _ (s₁.setTop (mkF m 1 #[.val (.ref a1), .val (.ref a2), .unset] [(.ref a1)]))
  refine Go.st (fun t k => XS.aloadN X0.here hx rfl (hb hby d9_1) rfl rfl k) ?_
  show Go p e below _ (s₁.setTop (mkF m 2 #[.val (.ref a1), .val (.ref a2), .unset] [(.ref a2), (.ref a1)]))
  refine Go.st (fun t k => Jvm.RoadKit.acmp (g := (mkF m 2 #[.val (.ref a1), .val (.ref a2), .unset] [(.ref a2), (.ref a1)])) X0 hx rfl rfl rfl (pc0 := 2) (pc' := 7) (same := false) rfl (hb hby d9_2) rfl (decide_eq_false fun q => P1 (Value.ref.inj q)) (by decide) (by decide) k) ?_
  show Go p e below _ (s₁.setTop (mkF m 7 #[.val (.ref a1), .val (.ref a2), .unset] []))
  refine Go.st (fun t k => XS.aloadN X0.here hx rfl (hb hby d9_7) rfl rfl k) ?_
  show Go p e below _ (s₁.setTop (mkF m 8 #[.val (.ref a1), .val (.ref a2), .unset] [(.ref a2)]))
  obtain ⟨T1, X1, e1, st1⟩ := instY X0 hx hZ hown (w59 hw) e0 (Ins.self P2) (g := (mkF m 8 #[.val (.ref a1), .val (.ref a2), .unset] [(.ref a2)])) rfl rfl (hb hby d9_8)
  refine Go.st st1 ?_
  show Go p e below _ (T1.setTop (mkF m 11 #[.val (.ref a1), .val (.ref a2), .unset] [(.int (1 : Int32))]))
  refine Go.st (fun t k => XS.ifNo X1.here hx rfl (hb hby d9_11) rfl (Jvm.Free.XT.i0_eq_f (by decide : ¬ ((1 : Int32) = (0 : Int32)))) k) ?_
  show Go p e below _ (T1.setTop (mkF m 14 #[.val (.ref a1), .val (.ref a2), .unset] []))
  refine Go.st (fun t k => XS.aloadN X1.here hx rfl (hb hby d9_14) rfl rfl k) ?_
  show Go p e below _ (T1.setTop (mkF m 15 #[.val (.ref a1), .val (.ref a2), .unset] [(.ref a2)]))
  obtain ⟨T2, X2, e2, st2⟩ := castY X1 hx hZ hown (w59 hw) e1 (Ins.self P2) (g := (mkF m 15 #[.val (.ref a1), .val (.ref a2), .unset] [(.ref a2)])) rfl rfl (hb hby d9_15)
  refine Go.st st2 ?_
  show Go p e below _ (T2.setTop (mkF m 18 #[.val (.ref a1), .val (.ref a2), .unset] [(.ref a2)]))
  refine Go.st (fun t k => XS.astoreN X2.here hx rfl (hb hby d9_18) rfl rfl (l' := #[.val (.ref a1), .val (.ref a2), .val (.ref a2)]) rfl k) ?_
  show Go p e below _ (T2.setTop (mkF m 19 #[.val (.ref a1), .val (.ref a2), .val (.ref a2)] []))
  obtain ⟨T3, X3, e3, st3⟩ := getS2 X2 hx hZ hown (host := "") (Or.inl (w14 hw)) Via.refl e2 (P3.ext O0.2) (g := (mkF m 19 #[.val (.ref a1), .val (.ref a2), .val (.ref a2)] [])) rfl (hb hby d9_19)
  refine Go.st st3 ?_
  show Go p e below _ (T3.setTop (mkF m 22 #[.val (.ref a1), .val (.ref a2), .val (.ref a2)] [(.int p3)]))
  refine Go.st (fun t k => XS.ifNo X3.here hx rfl (hb hby d9_22) rfl (Jvm.Free.XT.i0_eq_f P4) k) ?_
  show Go p e below _ (T3.setTop (mkF m 25 #[.val (.ref a1), .val (.ref a2), .val (.ref a2)] []))
  refine Go.st (fun t k => XS.aloadN X3.here hx rfl (hb hby d9_25) rfl rfl k) ?_
  show Go p e below _ (T3.setTop (mkF m 26 #[.val (.ref a1), .val (.ref a2), .val (.ref a2)] [(.ref a1)]))
  obtain ⟨T4, X4, e4, st4⟩ := getF X3 hx hZ hown (host := "") (Or.inl (w26 hw)) Via.refl e3 (P5.ext O0.2) (g := (mkF m 26 #[.val (.ref a1), .val (.ref a2), .val (.ref a2)] [(.ref a1)])) rfl rfl (hb hby d9_26)
  refine Go.st st4 ?_
  show Go p e below _ (T4.setTop (mkF m 29 #[.val (.ref a1), .val (.ref a2), .val (.ref a2)] [(.int (0 : Int32))]))
  refine Go.st (fun t k => XS.aloadN X4.here hx rfl (hb hby d9_29) rfl rfl k) ?_
  show Go p e below _ (T4.setTop (mkF m 30 #[.val (.ref a1), .val (.ref a2), .val (.ref a2)] [(.ref a2), (.int (0 : Int32))]))
  obtain ⟨T5, X5, e5, st5⟩ := getF X4 hx hZ hown (host := "") (Or.inl (w26 hw)) Via.refl e4 P6 (g := (mkF m 30 #[.val (.ref a1), .val (.ref a2), .val (.ref a2)] [(.ref a2), (.int (0 : Int32))])) rfl rfl (hb hby d9_30)
  refine Go.st st5 ?_
  show Go p e below _ (T5.setTop (mkF m 33 #[.val (.ref a1), .val (.ref a2), .val (.ref a2)] [(.int (0 : Int32)), (.int (0 : Int32))]))
  refine Go.st (fun t k => XS.icmpNo X5.here hx rfl (hb hby d9_33) rfl (Jvm.Free.XT.ii_ne_f (by decide : (0 : Int32) = (0 : Int32))) k) ?_
  show Go p e below _ (T5.setTop (mkF m 36 #[.val (.ref a1), .val (.ref a2), .val (.ref a2)] []))
  refine Go.st (fun t k => XS.aloadN X5.here hx rfl (hb hby d9_36) rfl rfl k) ?_
  show Go p e below _ (T5.setTop (mkF m 37 #[.val (.ref a1), .val (.ref a2), .val (.ref a2)] [(.ref a1)]))
  obtain ⟨T6, X6, e6, st6⟩ := getF X5 hx hZ hown (host := "") (Or.inl (w28 hw)) Via.refl e5 (P7.ext O0.2) (g := (mkF m 37 #[.val (.ref a1), .val (.ref a2), .val (.ref a2)] [(.ref a1)])) rfl rfl (hb hby d9_37)
  refine Go.st st6 ?_
  show Go p e below _ (T6.setTop (mkF m 40 #[.val (.ref a1), .val (.ref a2), .val (.ref a2)] [(.ref a4)]))
  refine Go.st (fun t k => XS.aloadN X6.here hx rfl (hb hby d9_40) rfl rfl k) ?_
  show Go p e below _ (T6.setTop (mkF m 41 #[.val (.ref a1), .val (.ref a2), .val (.ref a2)] [(.ref a2), (.ref a4)]))
  obtain ⟨T7, X7, e7, st7⟩ := getF X6 hx hZ hown (host := "") (Or.inl (w28 hw)) Via.refl e6 P8 (g := (mkF m 41 #[.val (.ref a1), .val (.ref a2), .val (.ref a2)] [(.ref a2), (.ref a4)])) rfl rfl (hb hby d9_41)
  refine Go.st st7 ?_
  show Go p e below _ (T7.setTop (mkF m 44 #[.val (.ref a1), .val (.ref a2), .val (.ref a2)] [(.ref a5), (.ref a4)]))
  obtain ⟨_, _, ⟨T8, L8, k8, n8⟩, -, X8, ⟨Lc8, hQ8, l8, y8, z8⟩, st8⟩ := Jvm.LawKit.callS X7 hx (y := (⟨"java/lang/StringLatin1", "equals", "([B[B)Z"⟩ : MethodName)) hown (mvT hZ (w60 hw)) (mvT hZ (w61 hw)) (mvT hZ (w62 hw)) (mvT hZ (w63 hw)) (by decide) (backOf (W := 0) (rm10_3 l Z a0 hw [] a4 a5 k6 k7 h0 n0 O0 P9 P10) hZ (w63 hw) (w62 hw) (by decide) (by decide)) (g := (mkF m 44 #[.val (.ref a1), .val (.ref a2), .val (.ref a2)] [(.ref a5), (.ref a4)])) rfl (by rw [hml]; rfl) (argsL := [(.ref a4), (.ref a5)]) (rest := []) (lenOf pd_6 rfl) rfl (by show 2 * 0 + _ ≤ _; exact Nat.le_of_eq rfl) (hb hby d9_44) (fun vm₁ hw₁ => ⟨rfl, e7, (by decide : 0 + 0 ≤ _), (by decide : 0 + 0 ≤ _)⟩)
  dsimp only [Pt.U, Pt.locs, Pt.cells, Pt.slots] at X8 l8 y8 z8 st8 hQ8
  subst l8 y8 z8
  obtain ⟨rfl, M8, eh8⟩ := hQ8
  have N8 := Fr.app N0 M8
  refine Go.st st8 ?_
  show Go p e below _ (T8.setTop (mkF m 47 #[.val (.ref a1), .val (.ref a2), .val (.ref a2)] [(.int (1 : Int32))]))
  refine Go.st (fun t k => XS.ifNo X8.here hx rfl (hb hby d9_47) rfl (Jvm.Free.XT.i0_eq_f (by decide : ¬ ((1 : Int32) = (0 : Int32)))) k) ?_
  show Go p e below _ (T8.setTop (mkF m 50 #[.val (.ref a1), .val (.ref a2), .val (.ref a2)] []))
  refine Go.st (fun t k => XS.iconst X8.here hx rfl (hb hby d9_50) k) ?_
  show Go p e below _ (T8.setTop (mkF m 51 #[.val (.ref a1), .val (.ref a2), .val (.ref a2)] [(.int (1 : Int32))]))
  refine Go.st (fun t k => XS.goto X8.here hx rfl (pc0 := 51) (pc' := 55) rfl (hb hby d9_51) (by decide) (by decide) k) ?_
  show Go p e below _ (T8.setTop (mkF m 55 #[.val (.ref a1), .val (.ref a2), .val (.ref a2)] [(.int (1 : Int32))]))
  obtain ⟨fs, hr, hrun, hended, hWd, hsame⟩ := X8.leave (v := some (.int (1 : Int32))) (fun h => by rw [Bd.returns] at h; cases h)
  refine ⟨_, _, ?_, hrun, hended, _, _, rfl, ?_, ⟨⟨_, rfl⟩, hWd, hsame.mono (by decide) (by decide)⟩⟩
  · exact retN X8 hx (t := .boolean) Bd.returns (by simp) (hb hby d9_55) hr
  · show Q_rm9_3 Z a1 a2 p3 a4 a5 k6 k7 h0 n0 _ T8.heap _
    rw [eh8]
    exact ⟨rfl, N8, rfl⟩
def Q_rm7_2 (Z : State) (a1 : Addr) (a2 : Addr) (k3 : ClassId) (a4 : Addr) (a5 : Addr) (a6 : Addr) (p7 : Int32) (a8 : Addr) (a9 : Addr) (k10 : ClassId) (k11 : ClassId) (a12 : Addr) (a13 : Addr) (k14 : ClassId) (h0 : Heap) (n0 : Nat) (v : Option Value) (h : Heap) (L : List Loc) : Prop := v = some (.ref a5) ∧ Fr n0 L ∧ Keep h0 h []
set_option maxRecDepth 65536 in
set_option maxHeartbeats 40000000 in
theorem rm7_2 (l : Launch) (Z : State) (a0 : Array Value) (hw : ∀ d ∈ tables_1, d.before a0 Z = true) (ws : List Jvm.Cond) (a1 : Addr) (a2 : Addr) (k3 : ClassId) (a4 : Addr) (a5 : Addr) (a6 : Addr) (p7 : Int32) (a8 : Addr) (a9 : Addr) (k10 : ClassId) (k11 : ClassId) (a12 : Addr) (a13 : Addr) (k14 : ClassId) (h0 : Heap) (n0 : Nat) (O0 : Old Z n0 h0) (P1 : Sta Z Z.heap "com/example/envelop/envelop/learn/Translation" "$VALUES" "[Lcom/example/envelop/envelop/learn/Translation;" (.ref a2)) (P2 : Arv Z Z.heap a2 k3 (.object "com/example/envelop/envelop/learn/Translation") (2 : Int32) [(.ref a4), (.ref a5)] .null) (P3 : Exa Z Z.heap a2 "[Lcom/example/envelop/envelop/learn/Translation;") (P4 : Fld Z Z.heap a4 "com/example/envelop/envelop/learn/Translation" "text" "Ljava/lang/String;" (.ref a6)) (P5 : Exa Z Z.heap a6 "java/lang/String") (P6 : a6 ≠ a1) (P7 : Exa Z h0 a1 "java/lang/String") (P8 : Sta Z Z.heap "java/lang/String" "COMPACT_STRINGS" "Z" (.int p7)) (P9 : ¬ (p7 = (0 : Int32))) (P10 : Fld Z Z.heap a6 "java/lang/String" "coder" "B" (.int (0 : Int32))) (P11 : Fld Z h0 a1 "java/lang/String" "coder" "B" (.int (0 : Int32))) (P12 : Fld Z Z.heap a6 "java/lang/String" "value" "[B" (.ref a8)) (P13 : Fld Z h0 a1 "java/lang/String" "value" "[B" (.ref a9)) (P14 : Arv Z Z.heap a8 k10 .byte (3 : Int32) [(.int (50 : Int32)), (.int (111 : Int32)), (.int (112 : Int32))] (.int (0 : Int32))) (P15 : Arv Z h0 a9 k11 .byte (3 : Int32) [(.int (51 : Int32)), (.int (111 : Int32)), (.int (112 : Int32))] (.int (0 : Int32))) (P16 : Fld Z Z.heap a5 "com/example/envelop/envelop/learn/Translation" "text" "Ljava/lang/String;" (.ref a12)) (P17 : Exa Z Z.heap a12 "java/lang/String") (P18 : a12 ≠ a1) (P19 : Fld Z Z.heap a12 "java/lang/String" "coder" "B" (.int (0 : Int32))) (P20 : Fld Z Z.heap a12 "java/lang/String" "value" "[B" (.ref a13)) (P21 : Arv Z Z.heap a13 k14 .byte (3 : Int32) [(.int (51 : Int32)), (.int (111 : Int32)), (.int (112 : Int32))] (.int (0 : Int32))) :
    MetFree l (⟨"com/example/envelop/envelop/learn/Translation", "named", "(Ljava/lang/String;)Lcom/example/envelop/envelop/learn/Translation;"⟩ : MethodName) (head1 (Jvm.Cond.code (⟨"com/example/envelop/envelop/learn/Translation", "named", "(Ljava/lang/String;)Lcom/example/envelop/envelop/learn/Translation;"⟩ : MethodName) prog_28_method_4_code 5 (some (.object "com/example/envelop/envelop/learn/Translation")) :: ws) ({ frames := 2, cells := 1, slots := 2, locals := 28 } : Room)) (fun a U => a = #[(.ref a1)] ∧ Z.Warmed39 U.vm ∧ U.heap = h0) (fun _ _ _ _ _ => True) (fun _ U o U' => ∃ v L, o = .returned v ∧ Q_rm7_2 Z a1 a2 k3 a4 a5 a6 p7 a8 a9 k10 k11 a12 a13 k14 h0 n0 v U'.heap L ∧ FrameEnd U o U' L ({ frames := 2, cells := 1, slots := 2, locals := 28 } : Room).cells ({ frames := 2, cells := 1, slots := 2, locals := 28 } : Room).slots) := by
  refine MetFree.of_bodySF (plainFor_of_name pn_2) hisR ?_
  intro p e s m args below meth c s₁ Bd hml0 hP hK
  obtain ⟨rfl, hZ, hh⟩ := hP
  have hx := Bd.exec
  have hby := Bd.bytes
  have hml : c.maxLocals = 5 := hml0
  have hown : s.vm.findClass "com/example/envelop/envelop/learn/Translation" = some m.cls := findClass_of_methodNamed Bd.named
  have hnm := (name_of_methodNamed Bd.named Bd.method).1
  have X0 : Stand p l e ({ frames := 2, cells := 1, slots := 2, locals := 28 } : Room) s m #[(.ref a1)] below meth c s₁ [] 0 0 := Stand.of_body Bd
  have e0 : s₁.heap = h0 := by rw [← hh, Bd.state]; rfl
  have N0 := Fr.nil n0
  refine Go.start (P := (fun o U' => ∃ v L, o = .returned v ∧ Q_rm7_2 Z a1 a2 k3 a4 a5 a6 p7 a8 a9 k10 k11 a12 a13 k14 h0 n0 v U'.heap L ∧ FrameEnd s o U' L ({ frames := 2, cells := 1, slots := 2, locals := 28 } : Room).cells ({ frames := 2, cells := 1, slots := 2, locals := 28 } : Room).slots)) (castTop (g' := (mkF m 0 #[.val (.ref a1), .unset, .unset, .unset, .unset] [])) (by first | rfl | simp [entryFrame, mkF, argsToLocals, Value.category]) (T := s₁)) ?_
  obtain ⟨_, _, ⟨T1, L1, k1, n1⟩, -, X1, ⟨Lc1, hQ1, l1, y1, z1⟩, st1⟩ := Jvm.LawKit.callS X0 hx (y := (⟨"com/example/envelop/envelop/learn/Translation", "values", "()[Lcom/example/envelop/envelop/learn/Translation;"⟩ : MethodName)) hown (mvT hZ (w36 hw)) (mvT hZ (w37 hw)) (mvT hZ (w31 hw)) (mvT hZ (w38 hw)) (by decide) (backOf (W := 0) (rm8_1 l Z a0 hw [] a2 k3 a4 a5 h0 n0 O0 P1 P2 P3) hZ (w38 hw) (w31 hw) (by decide) (by decide)) (g := (mkF m 0 #[.val (.ref a1), .unset, .unset, .unset, .unset] [])) rfl (by rw [hml]; rfl) (argsL := []) (rest := []) (lenOf pd_5 rfl) rfl (by show 2 * 0 + _ ≤ _; exact Nat.le_of_eq rfl) (hb hby d7_0) (fun vm₁ hw₁ => ⟨rfl, e0, (by decide : 0 + 1 ≤ _), (by decide : 0 + 2 ≤ _)⟩)
  dsimp only [Pt.U, Pt.locs, Pt.cells, Pt.slots] at X1 l1 y1 z1 st1 hQ1
  subst l1 y1 z1
  obtain ⟨b2_1, rfl, M1, K1c, r1_0, r1_1, r1_2⟩ := hQ1
  have N1 := Fr.app N0 M1
  have g_b2_1 : n0 ≤ b2_1 := Nat.le_trans (own_n0 O0) r1_0
  have s_b2_1 : h0.size ≤ b2_1 := Nat.le_trans (Keep.refl h0 []).1 r1_0
  have O1 : Old Z n0 T1.heap := O0.keep K1c all0
  have K1 : Keep h0 T1.heap [] := (Keep.refl h0 []).trans K1c all0
  refine Go.st st1 ?_
  show Go p e below _ (T1.setTop (mkF m 3 #[.val (.ref a1), .unset, .unset, .unset, .unset] [(.ref b2_1)]))
  refine Go.st (fun t k => XS.astoreN X1.here hx rfl (hb hby d7_3) rfl rfl (l' := #[.val (.ref a1), .val (.ref b2_1), .unset, .unset, .unset]) rfl k) ?_
  show Go p e below _ (T1.setTop (mkF m 4 #[.val (.ref a1), .val (.ref b2_1), .unset, .unset, .unset] []))
  refine Go.st (fun t k => XS.aloadN X1.here hx rfl (hb hby d7_4) rfl rfl k) ?_
  show Go p e below _ (T1.setTop (mkF m 5 #[.val (.ref a1), .val (.ref b2_1), .unset, .unset, .unset] [(.ref b2_1)]))
  obtain ⟨cl2, Ar2, -, S2, M2, -, -⟩ := id r1_1
  refine Go.st (fun t k => X1.arraylength hx Ar2.1 (State.isArrayOf_alike hZ.alike Ar2.2.1) (g := (mkF m 5 #[.val (.ref a1), .val (.ref b2_1), .unset, .unset, .unset] [(.ref b2_1)])) rfl rfl (hb hby d7_5) t k) ?_
  rw [len_of S2 M2]
  show Go p e below _ (T1.setTop (mkF m 6 #[.val (.ref a1), .val (.ref b2_1), .unset, .unset, .unset] [(.int (2 : Int32))]))
  refine Go.st (fun t k => XS.istoreN X1.here hx rfl (hb hby d7_6) rfl (l' := #[.val (.ref a1), .val (.ref b2_1), .val (.int (2 : Int32)), .unset, .unset]) rfl k) ?_
  show Go p e below _ (T1.setTop (mkF m 7 #[.val (.ref a1), .val (.ref b2_1), .val (.int (2 : Int32)), .unset, .unset] []))
  refine Go.st (fun t k => XS.iconst X1.here hx rfl (hb hby d7_7) k) ?_
  show Go p e below _ (T1.setTop (mkF m 8 #[.val (.ref a1), .val (.ref b2_1), .val (.int (2 : Int32)), .unset, .unset] [(.int (0 : Int32))]))
  refine Go.st (fun t k => XS.istoreN X1.here hx rfl (hb hby d7_8) rfl (l' := #[.val (.ref a1), .val (.ref b2_1), .val (.int (2 : Int32)), .val (.int (0 : Int32)), .unset]) rfl k) ?_
  show Go p e below _ (T1.setTop (mkF m 9 #[.val (.ref a1), .val (.ref b2_1), .val (.int (2 : Int32)), .val (.int (0 : Int32)), .unset] []))
  refine Go.st (fun t k => XS.iloadN X1.here hx rfl (hb hby d7_9) rfl k) ?_
  show Go p e below _ (T1.setTop (mkF m 10 #[.val (.ref a1), .val (.ref b2_1), .val (.int (2 : Int32)), .val (.int (0 : Int32)), .unset] [(.int (0 : Int32))]))
  refine Go.st (fun t k => XS.iloadN X1.here hx rfl (hb hby d7_10) rfl k) ?_
  show Go p e below _ (T1.setTop (mkF m 11 #[.val (.ref a1), .val (.ref b2_1), .val (.int (2 : Int32)), .val (.int (0 : Int32)), .unset] [(.int (2 : Int32)), (.int (0 : Int32))]))
  refine Go.st (fun t k => XS.icmpNo X1.here hx rfl (hb hby d7_11) rfl (Jvm.Free.XT.ii_ge_f (by decide : (0 : Int32) < (2 : Int32))) k) ?_
  show Go p e below _ (T1.setTop (mkF m 14 #[.val (.ref a1), .val (.ref b2_1), .val (.int (2 : Int32)), .val (.int (0 : Int32)), .unset] []))
  refine Go.st (fun t k => XS.aloadN X1.here hx rfl (hb hby d7_14) rfl rfl k) ?_
  show Go p e below _ (T1.setTop (mkF m 15 #[.val (.ref a1), .val (.ref b2_1), .val (.int (2 : Int32)), .val (.int (0 : Int32)), .unset] [(.ref b2_1)]))
  refine Go.st (fun t k => XS.iloadN X1.here hx rfl (hb hby d7_15) rfl k) ?_
  show Go p e below _ (T1.setTop (mkF m 16 #[.val (.ref a1), .val (.ref b2_1), .val (.int (2 : Int32)), .val (.int (0 : Int32)), .unset] [(.int (0 : Int32)), (.ref b2_1)]))
  obtain ⟨cl3, Ar3, q3, S3, M3, H3, G3⟩ := id r1_1
  have hin3 : ¬ ((0 : Int32) < 0 ∨ cl3.slots.size ≤ ((0 : Int32)).toNatClampNeg) := inb_of S3 ⟨by decide, by decide⟩
  have hat3 : cl3.slots[((0 : Int32)).toNatClampNeg]? = some (.ref a4) := H3.at hin3 rfl
  refine Go.st (fun t k => X1.aaload hx (j := (0 : Int32)) (v := (.ref a4)) Ar3.1 (State.isArrayOf_alike hZ.alike Ar3.2.1) rfl Ar3.2.2 hin3 hat3 (g := (mkF m 16 #[.val (.ref a1), .val (.ref b2_1), .val (.int (2 : Int32)), .val (.int (0 : Int32)), .unset] [(.int (0 : Int32)), (.ref b2_1)])) rfl rfl (hb hby d7_16) t k) ?_
  show Go p e below _ (T1.setTop (mkF m 17 #[.val (.ref a1), .val (.ref b2_1), .val (.int (2 : Int32)), .val (.int (0 : Int32)), .unset] [(.ref a4)]))
  refine Go.st (fun t k => XS.astore X1.here hx rfl (hb hby d7_17) rfl rfl (l' := #[.val (.ref a1), .val (.ref b2_1), .val (.int (2 : Int32)), .val (.int (0 : Int32)), .val (.ref a4)]) rfl k) ?_
  show Go p e below _ (T1.setTop (mkF m 19 #[.val (.ref a1), .val (.ref b2_1), .val (.int (2 : Int32)), .val (.int (0 : Int32)), .val (.ref a4)] []))
  refine Go.st (fun t k => XS.aload X1.here hx rfl (hb hby d7_19) rfl rfl k) ?_
  show Go p e below _ (T1.setTop (mkF m 21 #[.val (.ref a1), .val (.ref b2_1), .val (.int (2 : Int32)), .val (.int (0 : Int32)), .val (.ref a4)] [(.ref a4)]))
  obtain ⟨T4, X4, e4, st4⟩ := getF X1 hx hZ hown (host := "") (Or.inl (w52 hw)) Via.refl rfl (P4.ext O1.2) (g := (mkF m 21 #[.val (.ref a1), .val (.ref b2_1), .val (.int (2 : Int32)), .val (.int (0 : Int32)), .val (.ref a4)] [(.ref a4)])) rfl rfl (hb hby d7_21)
  refine Go.st st4 ?_
  show Go p e below _ (T4.setTop (mkF m 24 #[.val (.ref a1), .val (.ref b2_1), .val (.int (2 : Int32)), .val (.int (0 : Int32)), .val (.ref a4)] [(.ref a6)]))
  refine Go.st (fun t k => XS.aloadN X4.here hx rfl (hb hby d7_24) rfl rfl k) ?_
  show Go p e below _ (T4.setTop (mkF m 25 #[.val (.ref a1), .val (.ref b2_1), .val (.int (2 : Int32)), .val (.int (0 : Int32)), .val (.ref a4)] [(.ref a1), (.ref a6)]))
  obtain ⟨cq5, kq5, q5a, q5b, q5c⟩ := isOf hZ e4 (P5.ext O1.2)
  obtain ⟨_, _, ⟨T5, L5, k5, n5⟩, -, X5, ⟨Lc5, hQ5, l5, y5, z5⟩, st5⟩ := X4.virtualBack hx (y := (⟨"java/lang/String", "equals", "(Ljava/lang/Object;)Z"⟩ : MethodName)) (z := (⟨"java/lang/String", "equals", "(Ljava/lang/Object;)Z"⟩ : MethodName)) hown (mvT hZ (w54 hw)) (mvT hZ (w55 hw)) (notFace_of_selects (args := #[]) (mvT hZ (w57 hw))) (mvT hZ (w57 hw)) (mvT hZ (w56 hw)) (by decide) (backOf (W := 0) (rm9_2 l Z a0 hw [] a6 a1 p7 a8 a9 k10 k11 T1.heap n0 O1 P6 (P7.keep K1c) P8 P9 P10 (P11.keep K1c nin0) P12 (P13.keep K1c nin0) P14 (P15.keep K1c nin0)) hZ (w58 hw) (w3 hw) (by decide) (by decide)) q5a q5c (g := (mkF m 25 #[.val (.ref a1), .val (.ref b2_1), .val (.int (2 : Int32)), .val (.int (0 : Int32)), .val (.ref a4)] [(.ref a1), (.ref a6)])) rfl (by rw [hml]; rfl) (Steps.refl _) (argsL := [(.ref a1)]) (rest := []) (lenOf pd_7 rfl) rfl (by show 2 * 0 + _ ≤ _; exact Nat.le_of_eq rfl) (hb hby d7_25) (fun vm₁ hw₁ => ⟨rfl, e4, (by decide : 1 + 0 ≤ _), (by decide : 2 + 0 ≤ _)⟩)
  dsimp only [Pt.U, Pt.locs, Pt.cells, Pt.slots] at X5 l5 y5 z5 st5 hQ5
  subst l5 y5 z5
  obtain ⟨rfl, M5, eh5⟩ := hQ5
  have N5 := Fr.app N1 M5
  refine Go.tr st5 ?_
  show Go p e below _ (T5.setTop (mkF m 28 #[.val (.ref a1), .val (.ref b2_1), .val (.int (2 : Int32)), .val (.int (0 : Int32)), .val (.ref a4)] [(.int (0 : Int32))]))
  refine Go.st (fun t k => XS.ifYes X5.here hx rfl (pc0 := 28) (pc' := 34) rfl (hb hby d7_28) rfl (Jvm.Free.XT.i0_eq_t (by decide : (0 : Int32) = (0 : Int32))) (by decide) (by decide) k) ?_
  show Go p e below _ (T5.setTop (mkF m 34 #[.val (.ref a1), .val (.ref b2_1), .val (.int (2 : Int32)), .val (.int (0 : Int32)), .val (.ref a4)] []))
  refine Go.st (fun t k => XS.iinc X5.here hx rfl (hb hby d7_34) rfl (l' := #[.val (.ref a1), .val (.ref b2_1), .val (.int (2 : Int32)), .val (.int (1 : Int32)), .val (.ref a4)]) rfl k) ?_
  show Go p e below _ (T5.setTop (mkF m 37 #[.val (.ref a1), .val (.ref b2_1), .val (.int (2 : Int32)), .val (.int (1 : Int32)), .val (.ref a4)] []))
  refine Go.st (fun t k => XS.goto X5.here hx rfl (pc0 := 37) (pc' := 9) rfl (hb hby d7_37) (by decide) (by decide) k) ?_
  show Go p e below _ (T5.setTop (mkF m 9 #[.val (.ref a1), .val (.ref b2_1), .val (.int (2 : Int32)), .val (.int (1 : Int32)), .val (.ref a4)] []))
  refine Go.st (fun t k => XS.iloadN X5.here hx rfl (hb hby d7_9) rfl k) ?_
  show Go p e below _ (T5.setTop (mkF m 10 #[.val (.ref a1), .val (.ref b2_1), .val (.int (2 : Int32)), .val (.int (1 : Int32)), .val (.ref a4)] [(.int (1 : Int32))]))
  refine Go.st (fun t k => XS.iloadN X5.here hx rfl (hb hby d7_10) rfl k) ?_
  show Go p e below _ (T5.setTop (mkF m 11 #[.val (.ref a1), .val (.ref b2_1), .val (.int (2 : Int32)), .val (.int (1 : Int32)), .val (.ref a4)] [(.int (2 : Int32)), (.int (1 : Int32))]))
  refine Go.st (fun t k => XS.icmpNo X5.here hx rfl (hb hby d7_11) rfl (Jvm.Free.XT.ii_ge_f (by decide : (1 : Int32) < (2 : Int32))) k) ?_
  show Go p e below _ (T5.setTop (mkF m 14 #[.val (.ref a1), .val (.ref b2_1), .val (.int (2 : Int32)), .val (.int (1 : Int32)), .val (.ref a4)] []))
  refine Go.st (fun t k => XS.aloadN X5.here hx rfl (hb hby d7_14) rfl rfl k) ?_
  show Go p e below _ (T5.setTop (mkF m 15 #[.val (.ref a1), .val (.ref b2_1), .val (.int (2 : Int32)), .val (.int (1 : Int32)), .val (.ref a4)] [(.ref b2_1)]))
  refine Go.st (fun t k => XS.iloadN X5.here hx rfl (hb hby d7_15) rfl k) ?_
  show Go p e below _ (T5.setTop (mkF m 16 #[.val (.ref a1), .val (.ref b2_1), .val (.int (2 : Int32)), .val (.int (1 : Int32)), .val (.ref a4)] [(.int (1 : Int32)), (.ref b2_1)]))
  obtain ⟨cl6, Ar6, q6, S6, M6, H6, G6⟩ := id r1_1
  have hin6 : ¬ ((1 : Int32) < 0 ∨ cl6.slots.size ≤ ((1 : Int32)).toNatClampNeg) := inb_of S6 ⟨by decide, by decide⟩
  have hat6 : cl6.slots[((1 : Int32)).toNatClampNeg]? = some (.ref a5) := H6.at hin6 rfl
  refine Go.st (fun t k => X5.aaload hx (j := (1 : Int32)) (v := (.ref a5)) (by rw [eh5]; exact Ar6.1) (State.isArrayOf_alike hZ.alike Ar6.2.1) rfl Ar6.2.2 hin6 hat6 (g := (mkF m 16 #[.val (.ref a1), .val (.ref b2_1), .val (.int (2 : Int32)), .val (.int (1 : Int32)), .val (.ref a4)] [(.int (1 : Int32)), (.ref b2_1)])) rfl rfl (hb hby d7_16) t k) ?_
  show Go p e below _ (T5.setTop (mkF m 17 #[.val (.ref a1), .val (.ref b2_1), .val (.int (2 : Int32)), .val (.int (1 : Int32)), .val (.ref a4)] [(.ref a5)]))
  refine Go.st (fun t k => XS.astore X5.here hx rfl (hb hby d7_17) rfl rfl (l' := #[.val (.ref a1), .val (.ref b2_1), .val (.int (2 : Int32)), .val (.int (1 : Int32)), .val (.ref a5)]) rfl k) ?_
  show Go p e below _ (T5.setTop (mkF m 19 #[.val (.ref a1), .val (.ref b2_1), .val (.int (2 : Int32)), .val (.int (1 : Int32)), .val (.ref a5)] []))
  refine Go.st (fun t k => XS.aload X5.here hx rfl (hb hby d7_19) rfl rfl k) ?_
  show Go p e below _ (T5.setTop (mkF m 21 #[.val (.ref a1), .val (.ref b2_1), .val (.int (2 : Int32)), .val (.int (1 : Int32)), .val (.ref a5)] [(.ref a5)]))
  obtain ⟨T7, X7, e7, st7⟩ := getF X5 hx hZ hown (host := "") (Or.inl (w52 hw)) Via.refl eh5 (P16.ext O1.2) (g := (mkF m 21 #[.val (.ref a1), .val (.ref b2_1), .val (.int (2 : Int32)), .val (.int (1 : Int32)), .val (.ref a5)] [(.ref a5)])) rfl rfl (hb hby d7_21)
  refine Go.st st7 ?_
  show Go p e below _ (T7.setTop (mkF m 24 #[.val (.ref a1), .val (.ref b2_1), .val (.int (2 : Int32)), .val (.int (1 : Int32)), .val (.ref a5)] [(.ref a12)]))
  refine Go.st (fun t k => XS.aloadN X7.here hx rfl (hb hby d7_24) rfl rfl k) ?_
  show Go p e below _ (T7.setTop (mkF m 25 #[.val (.ref a1), .val (.ref b2_1), .val (.int (2 : Int32)), .val (.int (1 : Int32)), .val (.ref a5)] [(.ref a1), (.ref a12)]))
  obtain ⟨cq8, kq8, q8a, q8b, q8c⟩ := isOf hZ e7 (P17.ext O1.2)
  obtain ⟨_, _, ⟨T8, L8, k8, n8⟩, -, X8, ⟨Lc8, hQ8, l8, y8, z8⟩, st8⟩ := X7.virtualBack hx (y := (⟨"java/lang/String", "equals", "(Ljava/lang/Object;)Z"⟩ : MethodName)) (z := (⟨"java/lang/String", "equals", "(Ljava/lang/Object;)Z"⟩ : MethodName)) hown (mvT hZ (w54 hw)) (mvT hZ (w55 hw)) (notFace_of_selects (args := #[]) (mvT hZ (w57 hw))) (mvT hZ (w57 hw)) (mvT hZ (w56 hw)) (by decide) (backOf (W := 0) (rm9_3 l Z a0 hw [] a12 a1 p7 a13 a9 k14 k11 T1.heap n0 O1 P18 (P7.keep K1c) P8 P9 P19 (P11.keep K1c nin0) P20 (P13.keep K1c nin0) P21 (P15.keep K1c nin0)) hZ (w58 hw) (w3 hw) (by decide) (by decide)) q8a q8c (g := (mkF m 25 #[.val (.ref a1), .val (.ref b2_1), .val (.int (2 : Int32)), .val (.int (1 : Int32)), .val (.ref a5)] [(.ref a1), (.ref a12)])) rfl (by rw [hml]; rfl) (Steps.refl _) (argsL := [(.ref a1)]) (rest := []) (lenOf pd_7 rfl) rfl (by show 2 * 0 + _ ≤ _; exact Nat.le_of_eq rfl) (hb hby d7_25) (fun vm₁ hw₁ => ⟨rfl, e7, (by decide : 1 + 0 ≤ _), (by decide : 2 + 0 ≤ _)⟩)
  dsimp only [Pt.U, Pt.locs, Pt.cells, Pt.slots] at X8 l8 y8 z8 st8 hQ8
  subst l8 y8 z8
  obtain ⟨rfl, M8, eh8⟩ := hQ8
  have N8 := Fr.app N5 M8
  refine Go.tr st8 ?_
  show Go p e below _ (T8.setTop (mkF m 28 #[.val (.ref a1), .val (.ref b2_1), .val (.int (2 : Int32)), .val (.int (1 : Int32)), .val (.ref a5)] [(.int (1 : Int32))]))
  refine Go.st (fun t k => XS.ifNo X8.here hx rfl (hb hby d7_28) rfl (Jvm.Free.XT.i0_eq_f (by decide : ¬ ((1 : Int32) = (0 : Int32)))) k) ?_
  show Go p e below _ (T8.setTop (mkF m 31 #[.val (.ref a1), .val (.ref b2_1), .val (.int (2 : Int32)), .val (.int (1 : Int32)), .val (.ref a5)] []))
  refine Go.st (fun t k => XS.aload X8.here hx rfl (hb hby d7_31) rfl rfl k) ?_
  show Go p e below _ (T8.setTop (mkF m 33 #[.val (.ref a1), .val (.ref b2_1), .val (.int (2 : Int32)), .val (.int (1 : Int32)), .val (.ref a5)] [(.ref a5)]))
  obtain ⟨fs, hr, hrun, hended, hWd, hsame⟩ := X8.leave (v := some (.ref a5)) (fun h => by rw [Bd.returns] at h; cases h)
  refine ⟨_, _, ?_, hrun, hended, _, _, rfl, ?_, ⟨⟨_, rfl⟩, hWd, hsame.mono (by decide) (by decide)⟩⟩
  · exact own_retA X8 hx Bd.returns rfl rfl (hb hby d7_33) hr
  · show Q_rm7_2 Z a1 a2 k3 a4 a5 a6 p7 a8 a9 k10 k11 a12 a13 k14 h0 n0 _ T8.heap _
    rw [eh8]
    exact ⟨rfl, N8, K1⟩
def Q_rm0 (n0 : Nat) (v : Option Value) (L : List Loc) : Prop := v = some (.int (1 : Int32)) ∧ Fr n0 L
set_option maxRecDepth 65536 in
set_option maxHeartbeats 400000000 in
theorem rm0 (l : Launch) (Z : State) (a0 : Array Value) (hw : ∀ d ∈ tables_1, d.before a0 Z = true) (ws : List Jvm.Cond) (i0 : Int32) (w41a : Addr) (w46a : Addr) (w51a : Addr) (w56a : Addr) (w60a : Addr) (w64a : Addr) (w68a : Addr) (w72i : Int32) (k49c : ClassId) (k63c : ClassId) (k71c : ClassId) (h0 : Heap) (n0 : Nat) (O0 : Old Z n0 h0) (Y43 : Sta Z Z.heap "com/example/envelop/envelop/learn/Translation" "TWO_OPERATOR" "Lcom/example/envelop/envelop/learn/Translation;" (.ref w41a)) (Y44 : Exa Z Z.heap w41a "com/example/envelop/envelop/learn/Translation") (Y48 : Sta Z Z.heap "com/example/envelop/envelop/learn/Translation" "$VALUES" "[Lcom/example/envelop/envelop/learn/Translation;" (.ref w46a)) (Y50 : Exa Z Z.heap w46a "[Lcom/example/envelop/envelop/learn/Translation;") (Y53 : Sta Z Z.heap "com/example/envelop/envelop/learn/Translation" "THREE_OPERATOR" "Lcom/example/envelop/envelop/learn/Translation;" (.ref w51a)) (Y54 : Exa Z Z.heap w51a "com/example/envelop/envelop/learn/Translation") (Y58 : Fld Z Z.heap w41a "com/example/envelop/envelop/learn/Translation" "text" "Ljava/lang/String;" (.ref w56a)) (Y59 : Exa Z Z.heap w56a "java/lang/String") (Y62 : Fld Z Z.heap w56a "java/lang/String" "value" "[B" (.ref w60a)) (Y66 : Fld Z Z.heap w51a "com/example/envelop/envelop/learn/Translation" "text" "Ljava/lang/String;" (.ref w64a)) (Y67 : Exa Z Z.heap w64a "java/lang/String") (Y70 : Fld Z Z.heap w64a "java/lang/String" "value" "[B" (.ref w68a)) (Y74 : Sta Z Z.heap "java/lang/String" "COMPACT_STRINGS" "Z" (.int w72i)) (Y76 : Fld Z Z.heap w56a "java/lang/String" "coder" "B" (.int (0 : Int32))) (Y78 : Fld Z Z.heap w64a "java/lang/String" "coder" "B" (.int (0 : Int32))) (Y79 : ¬ (w72i = (0 : Int32))) (Y84 : Arv Z Z.heap w46a k49c (.object "com/example/envelop/envelop/learn/Translation") (2 : Int32) [(.ref w41a), (.ref w51a)] .null) (Y85 : Arv Z Z.heap w60a k63c .byte (3 : Int32) [(.int (50 : Int32)), (.int (111 : Int32)), (.int (112 : Int32))] (.int (0 : Int32))) (Y86 : Arv Z Z.heap w68a k71c .byte (3 : Int32) [(.int (51 : Int32)), (.int (111 : Int32)), (.int (112 : Int32))] (.int (0 : Int32))) :
    MetFree l x (head1 (Jvm.Cond.code x code maxLocals ret :: ws) room_1) (fun a U => a = #[(.int i0)] ∧ Z.Warmed39 U.vm ∧ U.heap = h0) (fun _ _ _ _ _ => True) (fun _ U o U' => ∃ v L, o = .returned v ∧ Q_rm0 n0 v L ∧ FrameEnd U o U' L room_1.cells room_1.slots) := by
  refine MetFree.of_bodySF (plainFor_of_name pn_4) hisR ?_
  intro p e s m args below meth c s₁ Bd hml0 hP hK
  obtain ⟨rfl, hZ, hh⟩ := hP
  have hx := Bd.exec
  have hby := Bd.bytes
  have hml : c.maxLocals = 6 := hml0
  have hown : s.vm.findClass "com/example/envelop/envelop/learn/TranslationNamedPinLaw" = some m.cls := findClass_of_methodNamed Bd.named
  have hnm := (name_of_methodNamed Bd.named Bd.method).1
  have X0 : Stand p l e room_1 s m #[(.int i0)] below meth c s₁ [] 0 0 := Stand.of_body Bd
  have e0 : s₁.heap = h0 := by rw [← hh, Bd.state]; rfl
  have N0 := Fr.nil n0
  refine Go.start (P := (fun o U' => ∃ v L, o = .returned v ∧ Q_rm0 n0 v L ∧ FrameEnd s o U' L room_1.cells room_1.slots)) (castTop (g' := (mkF m 0 #[.val (.int i0), .unset, .unset, .unset, .unset, .unset] [])) (by first | rfl | simp [entryFrame, mkF, argsToLocals, Value.category, maxLocals]) (T := s₁)) ?_
  refine Go.st (fun t k => XS.iloadN X0.here hx rfl (hb hby at_0) rfl k) ?_
  show Go p e below _ (s₁.setTop (mkF m 1 #[.val (.int i0), .unset, .unset, .unset, .unset, .unset] [(.int i0)]))
  refine Go.st (fun t k => XS.iconst X0.here hx rfl (hb hby at_1) k) ?_
  show Go p e below _ (s₁.setTop (mkF m 2 #[.val (.int i0), .unset, .unset, .unset, .unset, .unset] [(.int (1 : Int32)), (.int i0)]))
  refine Go.st (fun t k => XS.iand X0.here hx rfl (hb hby at_2) rfl k) ?_
  show Go p e below _ (s₁.setTop (mkF m 3 #[.val (.int i0), .unset, .unset, .unset, .unset, .unset] [(.int (i0 &&& (1 : Int32)))]))
  by_cases hc1 : (i0 &&& (1 : Int32)) = (0 : Int32)
  · refine Go.st (fun t k => XS.ifYes X0.here hx rfl (pc0 := 3) (pc' := 10) rfl (hb hby at_3) rfl (Jvm.Free.XT.i0_eq_t hc1) (by decide) (by decide) k) ?_
    show Go p e below _ (s₁.setTop (mkF m 10 #[.val (.int i0), .unset, .unset, .unset, .unset, .unset] []))
    refine Go.st (fun t k => XS.iconst X0.here hx rfl (hb hby at_10) k) ?_
    show Go p e below _ (s₁.setTop (mkF m 11 #[.val (.int i0), .unset, .unset, .unset, .unset, .unset] [(.int (0 : Int32))]))
    refine Go.st (fun t k => XS.istoreN X0.here hx rfl (hb hby at_11) rfl (l' := #[.val (.int i0), .val (.int (0 : Int32)), .unset, .unset, .unset, .unset]) rfl k) ?_
    show Go p e below _ (s₁.setTop (mkF m 12 #[.val (.int i0), .val (.int (0 : Int32)), .unset, .unset, .unset, .unset] []))
    refine Go.st (fun t k => XS.iconst X0.here hx rfl (hb hby at_12) k) ?_
    show Go p e below _ (s₁.setTop (mkF m 13 #[.val (.int i0), .val (.int (0 : Int32)), .unset, .unset, .unset, .unset] [(.int (3 : Int32))]))
    obtain ⟨T2, h2, k2, X2, e2, E2, A2, st2⟩ := newP X0 hx hZ (aty := .char) (w0 hw) e0 (g := (mkF m 13 #[.val (.int i0), .val (.int (0 : Int32)), .unset, .unset, .unset, .unset] [(.int (3 : Int32))])) rfl (hb hby at_13) rfl (by decide) (cap := 3) (by decide) (by decide) (by decide) (by decide)
    obtain ⟨b2, z2⟩ : ∃ z, z = h0.size := ⟨_, rfl⟩
    rw [← z2] at A2 st2
    have g_b2 : n0 ≤ b2 := Nat.le_trans (own_n0 O0) (Nat.le_of_eq z2.symm)
    have V2 : Arv Z h2 b2 k2 .char (3 : Int32) [(.int (0 : Int32)), (.int (0 : Int32)), (.int (0 : Int32))] (.int (0 : Int32)) := (Arv.new A2 (by decide)).pad (pad_rep [] (.int (0 : Int32)) 3)
    have O2 : Old Z n0 h2 := O0.ext E2
    refine Go.st st2 ?_
    show Go p e below _ (T2.setTop (mkF m 15 #[.val (.int i0), .val (.int (0 : Int32)), .unset, .unset, .unset, .unset] [(.ref b2)]))
    refine Go.st (fun t k => XS.astoreN X2.here hx rfl (hb hby at_15) rfl rfl (l' := #[.val (.int i0), .val (.int (0 : Int32)), .val (.ref b2), .unset, .unset, .unset]) rfl k) ?_
    show Go p e below _ (T2.setTop (mkF m 16 #[.val (.int i0), .val (.int (0 : Int32)), .val (.ref b2), .unset, .unset, .unset] []))
    refine Go.st (fun t k => XS.aloadN X2.here hx rfl (hb hby at_16) rfl rfl k) ?_
    show Go p e below _ (T2.setTop (mkF m 17 #[.val (.int i0), .val (.int (0 : Int32)), .val (.ref b2), .unset, .unset, .unset] [(.ref b2)]))
    refine Go.st (fun t k => XS.iconst X2.here hx rfl (hb hby at_17) k) ?_
    show Go p e below _ (T2.setTop (mkF m 18 #[.val (.int i0), .val (.int (0 : Int32)), .val (.ref b2), .unset, .unset, .unset] [(.int (0 : Int32)), (.ref b2)]))
    refine Go.st (fun t k => XS.iloadN X2.here hx rfl (hb hby at_18) rfl k) ?_
    show Go p e below _ (T2.setTop (mkF m 19 #[.val (.int i0), .val (.int (0 : Int32)), .val (.ref b2), .unset, .unset, .unset] [(.int (0 : Int32)), (.int (0 : Int32)), (.ref b2)]))
    refine Go.st (fun t k => XS.ifYes X2.here hx rfl (pc0 := 19) (pc' := 27) rfl (hb hby at_19) rfl (Jvm.Free.XT.i0_eq_t (by decide : (0 : Int32) = (0 : Int32))) (by decide) (by decide) k) ?_
    show Go p e below _ (T2.setTop (mkF m 27 #[.val (.int i0), .val (.int (0 : Int32)), .val (.ref b2), .unset, .unset, .unset] [(.int (0 : Int32)), (.ref b2)]))
    refine Go.st (fun t k => XS.bipush X2.here hx rfl (hb hby at_27) k) ?_
    show Go p e below _ (T2.setTop (mkF m 29 #[.val (.int i0), .val (.int (0 : Int32)), .val (.ref b2), .unset, .unset, .unset] [(.int (50 : Int32)), (.int (0 : Int32)), (.ref b2)]))
    obtain ⟨cl3, Ar3, q3, S3, M3, H3, G3⟩ := id V2
    have hin3 : ¬ ((0 : Int32) < 0 ∨ cl3.slots.size ≤ ((0 : Int32)).toNatClampNeg) := inb_of S3 ⟨by decide, by decide⟩
    obtain ⟨T3, h3, X3, e3, W3, st3⟩ := stC X2 hx hZ e2 Ar3 (j := (0 : Int32)) hin3 (g := (mkF m 29 #[.val (.int i0), .val (.int (0 : Int32)), .val (.ref b2), .unset, .unset, .unset] [(.int (50 : Int32)), (.int (0 : Int32)), (.ref b2)])) rfl rfl (hb hby at_29)
    have V3 : Arv Z h3 b2 k2 .char (3 : Int32) [(.int (50 : Int32)), (.int (0 : Int32)), (.int (0 : Int32))] (.int (0 : Int32)) := Arv.set Ar3 q3 S3 M3 H3 G3 (by decide) W3 0 rfl (Nat.le_of_ble_eq_true rfl)
    have N3 := Fr.snoc X3 N0 g_b2
    have O3 : Old Z n0 h3 := O2.wr W3 g_b2
    refine Go.st st3 ?_
    show Go p e below _ (T3.setTop (mkF m 30 #[.val (.int i0), .val (.int (0 : Int32)), .val (.ref b2), .unset, .unset, .unset] []))
    refine Go.st (fun t k => XS.aloadN X3.here hx rfl (hb hby at_30) rfl rfl k) ?_
    show Go p e below _ (T3.setTop (mkF m 31 #[.val (.int i0), .val (.int (0 : Int32)), .val (.ref b2), .unset, .unset, .unset] [(.ref b2)]))
    refine Go.st (fun t k => XS.iconst X3.here hx rfl (hb hby at_31) k) ?_
    show Go p e below _ (T3.setTop (mkF m 32 #[.val (.int i0), .val (.int (0 : Int32)), .val (.ref b2), .unset, .unset, .unset] [(.int (1 : Int32)), (.ref b2)]))
    refine Go.st (fun t k => XS.bipush X3.here hx rfl (hb hby at_32) k) ?_
    show Go p e below _ (T3.setTop (mkF m 34 #[.val (.int i0), .val (.int (0 : Int32)), .val (.ref b2), .unset, .unset, .unset] [(.int (111 : Int32)), (.int (1 : Int32)), (.ref b2)]))
    obtain ⟨cl4, Ar4, q4, S4, M4, H4, G4⟩ := id V3
    have hin4 : ¬ ((1 : Int32) < 0 ∨ cl4.slots.size ≤ ((1 : Int32)).toNatClampNeg) := inb_of S4 ⟨by decide, by decide⟩
    obtain ⟨T4, h4, X4, e4, W4, st4⟩ := stC X3 hx hZ e3 Ar4 (j := (1 : Int32)) hin4 (g := (mkF m 34 #[.val (.int i0), .val (.int (0 : Int32)), .val (.ref b2), .unset, .unset, .unset] [(.int (111 : Int32)), (.int (1 : Int32)), (.ref b2)])) rfl rfl (hb hby at_34)
    have V4 : Arv Z h4 b2 k2 .char (3 : Int32) [(.int (50 : Int32)), (.int (111 : Int32)), (.int (0 : Int32))] (.int (0 : Int32)) := Arv.set Ar4 q4 S4 M4 H4 G4 (by decide) W4 1 rfl (Nat.le_of_ble_eq_true rfl)
    have N4 := Fr.snoc X4 N3 g_b2
    have O4 : Old Z n0 h4 := O3.wr W4 g_b2
    refine Go.st st4 ?_
    show Go p e below _ (T4.setTop (mkF m 35 #[.val (.int i0), .val (.int (0 : Int32)), .val (.ref b2), .unset, .unset, .unset] []))
    refine Go.st (fun t k => XS.aloadN X4.here hx rfl (hb hby at_35) rfl rfl k) ?_
    show Go p e below _ (T4.setTop (mkF m 36 #[.val (.int i0), .val (.int (0 : Int32)), .val (.ref b2), .unset, .unset, .unset] [(.ref b2)]))
    refine Go.st (fun t k => XS.iconst X4.here hx rfl (hb hby at_36) k) ?_
    show Go p e below _ (T4.setTop (mkF m 37 #[.val (.int i0), .val (.int (0 : Int32)), .val (.ref b2), .unset, .unset, .unset] [(.int (2 : Int32)), (.ref b2)]))
    refine Go.st (fun t k => XS.bipush X4.here hx rfl (hb hby at_37) k) ?_
    show Go p e below _ (T4.setTop (mkF m 39 #[.val (.int i0), .val (.int (0 : Int32)), .val (.ref b2), .unset, .unset, .unset] [(.int (112 : Int32)), (.int (2 : Int32)), (.ref b2)]))
    obtain ⟨cl5, Ar5, q5, S5, M5, H5, G5⟩ := id V4
    have hin5 : ¬ ((2 : Int32) < 0 ∨ cl5.slots.size ≤ ((2 : Int32)).toNatClampNeg) := inb_of S5 ⟨by decide, by decide⟩
    obtain ⟨T5, h5, X5, e5, W5, st5⟩ := stC X4 hx hZ e4 Ar5 (j := (2 : Int32)) hin5 (g := (mkF m 39 #[.val (.int i0), .val (.int (0 : Int32)), .val (.ref b2), .unset, .unset, .unset] [(.int (112 : Int32)), (.int (2 : Int32)), (.ref b2)])) rfl rfl (hb hby at_39)
    have V5 : Arv Z h5 b2 k2 .char (3 : Int32) [(.int (50 : Int32)), (.int (111 : Int32)), (.int (112 : Int32))] (.int (0 : Int32)) := Arv.set Ar5 q5 S5 M5 H5 G5 (by decide) W5 2 rfl (Nat.le_of_ble_eq_true rfl)
    have N5 := Fr.snoc X5 N4 g_b2
    have O5 : Old Z n0 h5 := O4.wr W5 g_b2
    refine Go.st st5 ?_
    show Go p e below _ (T5.setTop (mkF m 40 #[.val (.int i0), .val (.int (0 : Int32)), .val (.ref b2), .unset, .unset, .unset] []))
    obtain ⟨T6, h6, X6, e6, E6, A6, D6, -, st6⟩ := newO X5 hx hZ hown (w1 hw) (w2 hw) (w3 hw) e5 (g := (mkF m 40 #[.val (.int i0), .val (.int (0 : Int32)), .val (.ref b2), .unset, .unset, .unset] [])) rfl (hb hby at_40) (by decide) (by decide)
    obtain ⟨b6, z6⟩ : ∃ z, z = h5.size := ⟨_, rfl⟩
    rw [← z6] at A6 D6 st6
    have g_b6 : n0 ≤ b6 := Nat.le_trans (own_n0 O5) (Nat.le_of_eq z6.symm)
    have O6 : Old Z n0 h6 := O5.ext E6
    have f6_27 : Fld Z h6 b6 "java/lang/String" "coder" "B" (.int (0 : Int32)) := D6 (Or.inr (w27 hw)) (ty := .byte) (by decide)
    have f6_29 : Fld Z h6 b6 "java/lang/String" "value" "[B" .null := D6 (Or.inr (w29 hw)) (ty := (.array .byte)) (by decide)
    refine Go.st st6 ?_
    show Go p e below _ (T6.setTop (mkF m 43 #[.val (.int i0), .val (.int (0 : Int32)), .val (.ref b2), .unset, .unset, .unset] [(.ref b6)]))
    refine Go.st (fun t k => XS.dup X6.here hx rfl (hb hby at_43) rfl rfl k) ?_
    show Go p e below _ (T6.setTop (mkF m 44 #[.val (.int i0), .val (.int (0 : Int32)), .val (.ref b2), .unset, .unset, .unset] [(.ref b6), (.ref b6)]))
    refine Go.st (fun t k => XS.aloadN X6.here hx rfl (hb hby at_44) rfl rfl k) ?_
    show Go p e below _ (T6.setTop (mkF m 45 #[.val (.int i0), .val (.int (0 : Int32)), .val (.ref b2), .unset, .unset, .unset] [(.ref b2), (.ref b6), (.ref b6)]))
    obtain ⟨_, _, ⟨T7, L7, k7, n7⟩, -, X7, ⟨Lc7, hQ7, l7, y7, z7⟩, st7⟩ := X6.specialBack hx (y := (⟨"java/lang/String", "<init>", "([C)V"⟩ : MethodName)) rfl hown (mvT hZ (w4 hw)) (mvT hZ (w5 hw)) (mvT hZ (w6 hw)) (by decide) (backOf (W := 1) (rm1_1 l Z a0 hw [] b6 b2 k2 w72i h6 n0 O6 (V5.ext E6) Y74 Y79 A6 f6_27 g_b6 f6_29) hZ (w6 hw) (w3 hw) (by decide) (by decide)) (g := (mkF m 45 #[.val (.int i0), .val (.int (0 : Int32)), .val (.ref b2), .unset, .unset, .unset] [(.ref b2), (.ref b6), (.ref b6)])) rfl (by rw [hml]; rfl) (Steps.refl _) (a := b6) (argsL := [(.ref b2)]) (rest := [(.ref b6)]) (lenOf pd_4 rfl) rfl (by show 2 * 0 + _ ≤ _; exact Nat.le_of_eq rfl) (hb hby at_45) (fun vm₁ hw₁ => ⟨rfl, e6, (by decide : 2 + 1 ≤ _), (by decide : 7 + 3 ≤ _)⟩)
    dsimp only [Pt.U, Pt.locs, Pt.cells, Pt.slots] at X7 l7 y7 z7 st7 hQ7
    subst l7 y7 z7
    obtain ⟨b1_3_2_7, k1_3_2_7, rfl, M7, K7c, r7_0, r7_1, r7_2, r7_3⟩ := hQ7
    have N7 := Fr.app N5 M7
    have g_b1_3_2_7 : n0 ≤ b1_3_2_7 := Nat.le_trans (own_n0 O6) r7_0
    have O7 : Old Z n0 T7.heap := O6.keep K7c (allS g_b6 all0)
    refine Go.tr st7 ?_
    show Go p e below _ (T7.setTop (mkF m 48 #[.val (.int i0), .val (.int (0 : Int32)), .val (.ref b2), .unset, .unset, .unset] [(.ref b6)]))
    refine Go.st (fun t k => XS.astoreN X7.here hx rfl (hb hby at_48) rfl rfl (l' := #[.val (.int i0), .val (.int (0 : Int32)), .val (.ref b2), .val (.ref b6), .unset, .unset]) rfl k) ?_
    show Go p e below _ (T7.setTop (mkF m 49 #[.val (.int i0), .val (.int (0 : Int32)), .val (.ref b2), .val (.ref b6), .unset, .unset] []))
    refine Go.st (fun t k => XS.iloadN X7.here hx rfl (hb hby at_49) rfl k) ?_
    show Go p e below _ (T7.setTop (mkF m 50 #[.val (.int i0), .val (.int (0 : Int32)), .val (.ref b2), .val (.ref b6), .unset, .unset] [(.int (0 : Int32))]))
    refine Go.st (fun t k => XS.ifYes X7.here hx rfl (pc0 := 50) (pc' := 59) rfl (hb hby at_50) rfl (Jvm.Free.XT.i0_eq_t (by decide : (0 : Int32) = (0 : Int32))) (by decide) (by decide) k) ?_
    show Go p e below _ (T7.setTop (mkF m 59 #[.val (.int i0), .val (.int (0 : Int32)), .val (.ref b2), .val (.ref b6), .unset, .unset] []))
    obtain ⟨T8, X8, e8, st8⟩ := getS2 X7 hx hZ hown (host := "") (Or.inl (w30 hw)) Via.refl rfl (Y43.ext O7.2) (g := (mkF m 59 #[.val (.int i0), .val (.int (0 : Int32)), .val (.ref b2), .val (.ref b6), .unset, .unset] [])) rfl (hb hby at_59)
    refine Go.st st8 ?_
    show Go p e below _ (T8.setTop (mkF m 62 #[.val (.int i0), .val (.int (0 : Int32)), .val (.ref b2), .val (.ref b6), .unset, .unset] [(.ref w41a)]))
    refine Go.st (fun t k => XS.astore X8.here hx rfl (hb hby at_62) rfl rfl (l' := #[.val (.int i0), .val (.int (0 : Int32)), .val (.ref b2), .val (.ref b6), .val (.ref w41a), .unset]) rfl k) ?_
    show Go p e below _ (T8.setTop (mkF m 64 #[.val (.int i0), .val (.int (0 : Int32)), .val (.ref b2), .val (.ref b6), .val (.ref w41a), .unset] []))
    refine Go.st (fun t k => XS.aloadN X8.here hx rfl (hb hby at_64) rfl rfl k) ?_
    show Go p e below _ (T8.setTop (mkF m 65 #[.val (.int i0), .val (.int (0 : Int32)), .val (.ref b2), .val (.ref b6), .val (.ref w41a), .unset] [(.ref b6)]))
    obtain ⟨_, _, ⟨T9, L9, k9, n9⟩, -, X9, ⟨Lc9, hQ9, l9, y9, z9⟩, st9⟩ := Jvm.LawKit.callS X8 hx (y := (⟨"com/example/envelop/envelop/learn/Translation", "named", "(Ljava/lang/String;)Lcom/example/envelop/envelop/learn/Translation;"⟩ : MethodName)) hown (mvT hZ (w33 hw)) (mvT hZ (w34 hw)) (mvT hZ (w31 hw)) (mvT hZ (w35 hw)) (by decide) (backOf (W := 0) (rm7_1 l Z a0 hw [] b6 w46a k49c w41a w51a w56a w72i w60a b1_3_2_7 k63c k1_3_2_7 T7.heap n0 O7 Y48 Y84 Y50 Y58 Y59 (Nat.ne_of_lt (Nat.lt_of_lt_of_le (Nat.lt_of_lt_of_le Y59.lt O5.2.1) (Nat.le_of_eq z6.symm))) (A6.keep K7c) Y74 Y79 Y76 r7_1 Y62 r7_2 Y85 r7_3) hZ (w35 hw) (w31 hw) (by decide) (by decide)) (g := (mkF m 65 #[.val (.int i0), .val (.int (0 : Int32)), .val (.ref b2), .val (.ref b6), .val (.ref w41a), .unset] [(.ref b6)])) rfl (by rw [hml]; rfl) (argsL := [(.ref b6)]) (rest := []) (lenOf pd_8 rfl) rfl (by show 2 * 0 + _ ≤ _; exact Nat.le_of_eq rfl) (hb hby at_65) (fun vm₁ hw₁ => ⟨rfl, e8, (by decide : 3 + 1 ≤ _), (by decide : 10 + 2 ≤ _)⟩)
    dsimp only [Pt.U, Pt.locs, Pt.cells, Pt.slots] at X9 l9 y9 z9 st9 hQ9
    subst l9 y9 z9
    obtain ⟨rfl, M9, K9c⟩ := hQ9
    have N9 := Fr.app N7 M9
    have O9 : Old Z n0 T9.heap := O7.keep K9c all0
    refine Go.st st9 ?_
    show Go p e below _ (T9.setTop (mkF m 68 #[.val (.int i0), .val (.int (0 : Int32)), .val (.ref b2), .val (.ref b6), .val (.ref w41a), .unset] [(.ref w41a)]))
    refine Go.st (fun t k => XS.astore X9.here hx rfl (hb hby at_68) rfl rfl (l' := #[.val (.int i0), .val (.int (0 : Int32)), .val (.ref b2), .val (.ref b6), .val (.ref w41a), .val (.ref w41a)]) rfl k) ?_
    show Go p e below _ (T9.setTop (mkF m 70 #[.val (.int i0), .val (.int (0 : Int32)), .val (.ref b2), .val (.ref b6), .val (.ref w41a), .val (.ref w41a)] []))
    refine Go.st (fun t k => XS.aload X9.here hx rfl (hb hby at_70) rfl rfl k) ?_
    show Go p e below _ (T9.setTop (mkF m 72 #[.val (.int i0), .val (.int (0 : Int32)), .val (.ref b2), .val (.ref b6), .val (.ref w41a), .val (.ref w41a)] [(.ref w41a)]))
    refine Go.st (fun t k => XS.aload X9.here hx rfl (hb hby at_72) rfl rfl k) ?_
    show Go p e below _ (T9.setTop (mkF m 74 #[.val (.int i0), .val (.int (0 : Int32)), .val (.ref b2), .val (.ref b6), .val (.ref w41a), .val (.ref w41a)] [(.ref w41a), (.ref w41a)]))
    refine Go.st (fun t k => Jvm.RoadKit.acmp (g := (mkF m 74 #[.val (.int i0), .val (.int (0 : Int32)), .val (.ref b2), .val (.ref b6), .val (.ref w41a), .val (.ref w41a)] [(.ref w41a), (.ref w41a)])) X9 hx rfl rfl rfl (pc0 := 74) (pc' := 77) (same := true) rfl (hb hby at_74) rfl (decide_eq_true (congrArg Value.ref rfl)) (by decide) (by decide) k) ?_
    show Go p e below _ (T9.setTop (mkF m 77 #[.val (.int i0), .val (.int (0 : Int32)), .val (.ref b2), .val (.ref b6), .val (.ref w41a), .val (.ref w41a)] []))
    refine Go.st (fun t k => XS.aload X9.here hx rfl (hb hby at_77) rfl rfl k) ?_
    show Go p e below _ (T9.setTop (mkF m 79 #[.val (.int i0), .val (.int (0 : Int32)), .val (.ref b2), .val (.ref b6), .val (.ref w41a), .val (.ref w41a)] [(.ref w41a)]))
    obtain ⟨cq10, kq10, q10a, q10b, q10c⟩ := isOf hZ rfl (Y44.ext O9.2)
    obtain ⟨_, _, ⟨T10, L10, k10, n10⟩, -, X10, ⟨Lc10, hQ10, l10, y10, z10⟩, st10⟩ := X9.virtualBack hx (y := (⟨"com/example/envelop/envelop/learn/Translation", "toString", "()Ljava/lang/String;"⟩ : MethodName)) (z := (⟨"com/example/envelop/envelop/learn/Translation", "toString", "()Ljava/lang/String;"⟩ : MethodName)) hown (mvT hZ (w64 hw)) (mvT hZ (w65 hw)) (notFace_of_selects (args := #[]) (mvT hZ (w67 hw))) (mvT hZ (w67 hw)) (mvT hZ (w66 hw)) (by decide) (backOf (W := 0) (rm11_1 l Z a0 hw [] w41a w56a T9.heap n0 O9 Y58) hZ (w68 hw) (w31 hw) (by decide) (by decide)) q10a q10c (g := (mkF m 79 #[.val (.int i0), .val (.int (0 : Int32)), .val (.ref b2), .val (.ref b6), .val (.ref w41a), .val (.ref w41a)] [(.ref w41a)])) rfl (by rw [hml]; rfl) (Steps.refl _) (argsL := []) (rest := []) (lenOf pd_9 rfl) rfl (by show 2 * 0 + _ ≤ _; exact Nat.le_of_eq rfl) (hb hby at_79) (fun vm₁ hw₁ => ⟨rfl, rfl, (by decide : 4 + 0 ≤ _), (by decide : 12 + 0 ≤ _)⟩)
    dsimp only [Pt.U, Pt.locs, Pt.cells, Pt.slots] at X10 l10 y10 z10 st10 hQ10
    subst l10 y10 z10
    obtain ⟨rfl, M10, eh10⟩ := hQ10
    have N10 := Fr.app N9 M10
    refine Go.tr st10 ?_
    show Go p e below _ (T10.setTop (mkF m 82 #[.val (.int i0), .val (.int (0 : Int32)), .val (.ref b2), .val (.ref b6), .val (.ref w41a), .val (.ref w41a)] [(.ref w56a)]))
    refine Go.st (fun t k => XS.aloadN X10.here hx rfl (hb hby at_82) rfl rfl k) ?_
    show Go p e below _ (T10.setTop (mkF m 83 #[.val (.int i0), .val (.int (0 : Int32)), .val (.ref b2), .val (.ref b6), .val (.ref w41a), .val (.ref w41a)] [(.ref b6), (.ref w56a)]))
    obtain ⟨cq11, kq11, q11a, q11b, q11c⟩ := isOf hZ eh10 (Y59.ext O9.2)
    obtain ⟨_, _, ⟨T11, L11, k11, n11⟩, -, X11, ⟨Lc11, hQ11, l11, y11, z11⟩, st11⟩ := X10.virtualBack hx (y := (⟨"java/lang/String", "equals", "(Ljava/lang/Object;)Z"⟩ : MethodName)) (z := (⟨"java/lang/String", "equals", "(Ljava/lang/Object;)Z"⟩ : MethodName)) hown (mvT hZ (w69 hw)) (mvT hZ (w55 hw)) (notFace_of_selects (args := #[]) (mvT hZ (w57 hw))) (mvT hZ (w57 hw)) (mvT hZ (w56 hw)) (by decide) (backOf (W := 0) (rm9_1 l Z a0 hw [] w56a b6 w72i w60a b1_3_2_7 k63c k1_3_2_7 T9.heap n0 O9 (Nat.ne_of_lt (Nat.lt_of_lt_of_le (Nat.lt_of_lt_of_le Y59.lt O5.2.1) (Nat.le_of_eq z6.symm))) ((A6.keep K7c).keep K9c) Y74 Y79 Y76 (r7_1.keep K9c nin0) Y62 (r7_2.keep K9c nin0) Y85 (r7_3.keep K9c nin0)) hZ (w58 hw) (w3 hw) (by decide) (by decide)) q11a q11c (g := (mkF m 83 #[.val (.int i0), .val (.int (0 : Int32)), .val (.ref b2), .val (.ref b6), .val (.ref w41a), .val (.ref w41a)] [(.ref b6), (.ref w56a)])) rfl (by rw [hml]; rfl) (Steps.refl _) (argsL := [(.ref b6)]) (rest := []) (lenOf pd_7 rfl) rfl (by show 2 * 0 + _ ≤ _; exact Nat.le_of_eq rfl) (hb hby at_83) (fun vm₁ hw₁ => ⟨rfl, eh10, (by decide : 4 + 0 ≤ _), (by decide : 12 + 0 ≤ _)⟩)
    dsimp only [Pt.U, Pt.locs, Pt.cells, Pt.slots] at X11 l11 y11 z11 st11 hQ11
    subst l11 y11 z11
    obtain ⟨rfl, M11, eh11⟩ := hQ11
    have N11 := Fr.app N10 M11
    refine Go.tr st11 ?_
    show Go p e below _ (T11.setTop (mkF m 86 #[.val (.int i0), .val (.int (0 : Int32)), .val (.ref b2), .val (.ref b6), .val (.ref w41a), .val (.ref w41a)] [(.int (1 : Int32))]))
    refine Go.st (fun t k => XS.ifNo X11.here hx rfl (hb hby at_86) rfl (Jvm.Free.XT.i0_eq_f (by decide : ¬ ((1 : Int32) = (0 : Int32)))) k) ?_
    show Go p e below _ (T11.setTop (mkF m 89 #[.val (.int i0), .val (.int (0 : Int32)), .val (.ref b2), .val (.ref b6), .val (.ref w41a), .val (.ref w41a)] []))
    refine Go.st (fun t k => XS.iconst X11.here hx rfl (hb hby at_89) k) ?_
    show Go p e below _ (T11.setTop (mkF m 90 #[.val (.int i0), .val (.int (0 : Int32)), .val (.ref b2), .val (.ref b6), .val (.ref w41a), .val (.ref w41a)] [(.int (1 : Int32))]))
    refine Go.st (fun t k => XS.goto X11.here hx rfl (pc0 := 90) (pc' := 94) rfl (hb hby at_90) (by decide) (by decide) k) ?_
    show Go p e below _ (T11.setTop (mkF m 94 #[.val (.int i0), .val (.int (0 : Int32)), .val (.ref b2), .val (.ref b6), .val (.ref w41a), .val (.ref w41a)] [(.int (1 : Int32))]))
    obtain ⟨fs, hr, hrun, hended, hWd, hsame⟩ := X11.leave (v := some (.int (1 : Int32))) (fun h => by rw [Bd.returns] at h; cases h)
    refine ⟨_, _, ?_, hrun, hended, _, _, rfl, ?_, ⟨⟨_, rfl⟩, hWd, hsame.mono (by decide) (by decide)⟩⟩
    · exact retN X11 hx (t := .boolean) Bd.returns (by simp) (hb hby at_94) hr
    · exact ⟨rfl, N11⟩
  · refine Go.st (fun t k => XS.ifNo X0.here hx rfl (hb hby at_3) rfl (Jvm.Free.XT.i0_eq_f hc1) k) ?_
    show Go p e below _ (s₁.setTop (mkF m 6 #[.val (.int i0), .unset, .unset, .unset, .unset, .unset] []))
    refine Go.st (fun t k => XS.iconst X0.here hx rfl (hb hby at_6) k) ?_
    show Go p e below _ (s₁.setTop (mkF m 7 #[.val (.int i0), .unset, .unset, .unset, .unset, .unset] [(.int (1 : Int32))]))
    refine Go.st (fun t k => XS.goto X0.here hx rfl (pc0 := 7) (pc' := 11) rfl (hb hby at_7) (by decide) (by decide) k) ?_
    show Go p e below _ (s₁.setTop (mkF m 11 #[.val (.int i0), .unset, .unset, .unset, .unset, .unset] [(.int (1 : Int32))]))
    refine Go.st (fun t k => XS.istoreN X0.here hx rfl (hb hby at_11) rfl (l' := #[.val (.int i0), .val (.int (1 : Int32)), .unset, .unset, .unset, .unset]) rfl k) ?_
    show Go p e below _ (s₁.setTop (mkF m 12 #[.val (.int i0), .val (.int (1 : Int32)), .unset, .unset, .unset, .unset] []))
    refine Go.st (fun t k => XS.iconst X0.here hx rfl (hb hby at_12) k) ?_
    show Go p e below _ (s₁.setTop (mkF m 13 #[.val (.int i0), .val (.int (1 : Int32)), .unset, .unset, .unset, .unset] [(.int (3 : Int32))]))
    obtain ⟨T12, h12, k12, X12, e12, E12, A12, st12⟩ := newP X0 hx hZ (aty := .char) (w0 hw) e0 (g := (mkF m 13 #[.val (.int i0), .val (.int (1 : Int32)), .unset, .unset, .unset, .unset] [(.int (3 : Int32))])) rfl (hb hby at_13) rfl (by decide) (cap := 3) (by decide) (by decide) (by decide) (by decide)
    obtain ⟨b12, z12⟩ : ∃ z, z = h0.size := ⟨_, rfl⟩
    rw [← z12] at A12 st12
    have g_b12 : n0 ≤ b12 := Nat.le_trans (own_n0 O0) (Nat.le_of_eq z12.symm)
    have V12 : Arv Z h12 b12 k12 .char (3 : Int32) [(.int (0 : Int32)), (.int (0 : Int32)), (.int (0 : Int32))] (.int (0 : Int32)) := (Arv.new A12 (by decide)).pad (pad_rep [] (.int (0 : Int32)) 3)
    have O12 : Old Z n0 h12 := O0.ext E12
    refine Go.st st12 ?_
    show Go p e below _ (T12.setTop (mkF m 15 #[.val (.int i0), .val (.int (1 : Int32)), .unset, .unset, .unset, .unset] [(.ref b12)]))
    refine Go.st (fun t k => XS.astoreN X12.here hx rfl (hb hby at_15) rfl rfl (l' := #[.val (.int i0), .val (.int (1 : Int32)), .val (.ref b12), .unset, .unset, .unset]) rfl k) ?_
    show Go p e below _ (T12.setTop (mkF m 16 #[.val (.int i0), .val (.int (1 : Int32)), .val (.ref b12), .unset, .unset, .unset] []))
    refine Go.st (fun t k => XS.aloadN X12.here hx rfl (hb hby at_16) rfl rfl k) ?_
    show Go p e below _ (T12.setTop (mkF m 17 #[.val (.int i0), .val (.int (1 : Int32)), .val (.ref b12), .unset, .unset, .unset] [(.ref b12)]))
    refine Go.st (fun t k => XS.iconst X12.here hx rfl (hb hby at_17) k) ?_
    show Go p e below _ (T12.setTop (mkF m 18 #[.val (.int i0), .val (.int (1 : Int32)), .val (.ref b12), .unset, .unset, .unset] [(.int (0 : Int32)), (.ref b12)]))
    refine Go.st (fun t k => XS.iloadN X12.here hx rfl (hb hby at_18) rfl k) ?_
    show Go p e below _ (T12.setTop (mkF m 19 #[.val (.int i0), .val (.int (1 : Int32)), .val (.ref b12), .unset, .unset, .unset] [(.int (1 : Int32)), (.int (0 : Int32)), (.ref b12)]))
    refine Go.st (fun t k => XS.ifNo X12.here hx rfl (hb hby at_19) rfl (Jvm.Free.XT.i0_eq_f (by decide : ¬ ((1 : Int32) = (0 : Int32)))) k) ?_
    show Go p e below _ (T12.setTop (mkF m 22 #[.val (.int i0), .val (.int (1 : Int32)), .val (.ref b12), .unset, .unset, .unset] [(.int (0 : Int32)), (.ref b12)]))
    refine Go.st (fun t k => XS.bipush X12.here hx rfl (hb hby at_22) k) ?_
    show Go p e below _ (T12.setTop (mkF m 24 #[.val (.int i0), .val (.int (1 : Int32)), .val (.ref b12), .unset, .unset, .unset] [(.int (51 : Int32)), (.int (0 : Int32)), (.ref b12)]))
    refine Go.st (fun t k => XS.goto X12.here hx rfl (pc0 := 24) (pc' := 29) rfl (hb hby at_24) (by decide) (by decide) k) ?_
    show Go p e below _ (T12.setTop (mkF m 29 #[.val (.int i0), .val (.int (1 : Int32)), .val (.ref b12), .unset, .unset, .unset] [(.int (51 : Int32)), (.int (0 : Int32)), (.ref b12)]))
    obtain ⟨cl13, Ar13, q13, S13, M13, H13, G13⟩ := id V12
    have hin13 : ¬ ((0 : Int32) < 0 ∨ cl13.slots.size ≤ ((0 : Int32)).toNatClampNeg) := inb_of S13 ⟨by decide, by decide⟩
    obtain ⟨T13, h13, X13, e13, W13, st13⟩ := stC X12 hx hZ e12 Ar13 (j := (0 : Int32)) hin13 (g := (mkF m 29 #[.val (.int i0), .val (.int (1 : Int32)), .val (.ref b12), .unset, .unset, .unset] [(.int (51 : Int32)), (.int (0 : Int32)), (.ref b12)])) rfl rfl (hb hby at_29)
    have V13 : Arv Z h13 b12 k12 .char (3 : Int32) [(.int (51 : Int32)), (.int (0 : Int32)), (.int (0 : Int32))] (.int (0 : Int32)) := Arv.set Ar13 q13 S13 M13 H13 G13 (by decide) W13 0 rfl (Nat.le_of_ble_eq_true rfl)
    have N13 := Fr.snoc X13 N0 g_b12
    have O13 : Old Z n0 h13 := O12.wr W13 g_b12
    refine Go.st st13 ?_
    show Go p e below _ (T13.setTop (mkF m 30 #[.val (.int i0), .val (.int (1 : Int32)), .val (.ref b12), .unset, .unset, .unset] []))
    refine Go.st (fun t k => XS.aloadN X13.here hx rfl (hb hby at_30) rfl rfl k) ?_
    show Go p e below _ (T13.setTop (mkF m 31 #[.val (.int i0), .val (.int (1 : Int32)), .val (.ref b12), .unset, .unset, .unset] [(.ref b12)]))
    refine Go.st (fun t k => XS.iconst X13.here hx rfl (hb hby at_31) k) ?_
    show Go p e below _ (T13.setTop (mkF m 32 #[.val (.int i0), .val (.int (1 : Int32)), .val (.ref b12), .unset, .unset, .unset] [(.int (1 : Int32)), (.ref b12)]))
    refine Go.st (fun t k => XS.bipush X13.here hx rfl (hb hby at_32) k) ?_
    show Go p e below _ (T13.setTop (mkF m 34 #[.val (.int i0), .val (.int (1 : Int32)), .val (.ref b12), .unset, .unset, .unset] [(.int (111 : Int32)), (.int (1 : Int32)), (.ref b12)]))
    obtain ⟨cl14, Ar14, q14, S14, M14, H14, G14⟩ := id V13
    have hin14 : ¬ ((1 : Int32) < 0 ∨ cl14.slots.size ≤ ((1 : Int32)).toNatClampNeg) := inb_of S14 ⟨by decide, by decide⟩
    obtain ⟨T14, h14, X14, e14, W14, st14⟩ := stC X13 hx hZ e13 Ar14 (j := (1 : Int32)) hin14 (g := (mkF m 34 #[.val (.int i0), .val (.int (1 : Int32)), .val (.ref b12), .unset, .unset, .unset] [(.int (111 : Int32)), (.int (1 : Int32)), (.ref b12)])) rfl rfl (hb hby at_34)
    have V14 : Arv Z h14 b12 k12 .char (3 : Int32) [(.int (51 : Int32)), (.int (111 : Int32)), (.int (0 : Int32))] (.int (0 : Int32)) := Arv.set Ar14 q14 S14 M14 H14 G14 (by decide) W14 1 rfl (Nat.le_of_ble_eq_true rfl)
    have N14 := Fr.snoc X14 N13 g_b12
    have O14 : Old Z n0 h14 := O13.wr W14 g_b12
    refine Go.st st14 ?_
    show Go p e below _ (T14.setTop (mkF m 35 #[.val (.int i0), .val (.int (1 : Int32)), .val (.ref b12), .unset, .unset, .unset] []))
    refine Go.st (fun t k => XS.aloadN X14.here hx rfl (hb hby at_35) rfl rfl k) ?_
    show Go p e below _ (T14.setTop (mkF m 36 #[.val (.int i0), .val (.int (1 : Int32)), .val (.ref b12), .unset, .unset, .unset] [(.ref b12)]))
    refine Go.st (fun t k => XS.iconst X14.here hx rfl (hb hby at_36) k) ?_
    show Go p e below _ (T14.setTop (mkF m 37 #[.val (.int i0), .val (.int (1 : Int32)), .val (.ref b12), .unset, .unset, .unset] [(.int (2 : Int32)), (.ref b12)]))
    refine Go.st (fun t k => XS.bipush X14.here hx rfl (hb hby at_37) k) ?_
    show Go p e below _ (T14.setTop (mkF m 39 #[.val (.int i0), .val (.int (1 : Int32)), .val (.ref b12), .unset, .unset, .unset] [(.int (112 : Int32)), (.int (2 : Int32)), (.ref b12)]))
    obtain ⟨cl15, Ar15, q15, S15, M15, H15, G15⟩ := id V14
    have hin15 : ¬ ((2 : Int32) < 0 ∨ cl15.slots.size ≤ ((2 : Int32)).toNatClampNeg) := inb_of S15 ⟨by decide, by decide⟩
    obtain ⟨T15, h15, X15, e15, W15, st15⟩ := stC X14 hx hZ e14 Ar15 (j := (2 : Int32)) hin15 (g := (mkF m 39 #[.val (.int i0), .val (.int (1 : Int32)), .val (.ref b12), .unset, .unset, .unset] [(.int (112 : Int32)), (.int (2 : Int32)), (.ref b12)])) rfl rfl (hb hby at_39)
    have V15 : Arv Z h15 b12 k12 .char (3 : Int32) [(.int (51 : Int32)), (.int (111 : Int32)), (.int (112 : Int32))] (.int (0 : Int32)) := Arv.set Ar15 q15 S15 M15 H15 G15 (by decide) W15 2 rfl (Nat.le_of_ble_eq_true rfl)
    have N15 := Fr.snoc X15 N14 g_b12
    have O15 : Old Z n0 h15 := O14.wr W15 g_b12
    refine Go.st st15 ?_
    show Go p e below _ (T15.setTop (mkF m 40 #[.val (.int i0), .val (.int (1 : Int32)), .val (.ref b12), .unset, .unset, .unset] []))
    obtain ⟨T16, h16, X16, e16, E16, A16, D16, -, st16⟩ := newO X15 hx hZ hown (w1 hw) (w2 hw) (w3 hw) e15 (g := (mkF m 40 #[.val (.int i0), .val (.int (1 : Int32)), .val (.ref b12), .unset, .unset, .unset] [])) rfl (hb hby at_40) (by decide) (by decide)
    obtain ⟨b16, z16⟩ : ∃ z, z = h15.size := ⟨_, rfl⟩
    rw [← z16] at A16 D16 st16
    have g_b16 : n0 ≤ b16 := Nat.le_trans (own_n0 O15) (Nat.le_of_eq z16.symm)
    have O16 : Old Z n0 h16 := O15.ext E16
    have f16_27 : Fld Z h16 b16 "java/lang/String" "coder" "B" (.int (0 : Int32)) := D16 (Or.inr (w27 hw)) (ty := .byte) (by decide)
    have f16_29 : Fld Z h16 b16 "java/lang/String" "value" "[B" .null := D16 (Or.inr (w29 hw)) (ty := (.array .byte)) (by decide)
    refine Go.st st16 ?_
    show Go p e below _ (T16.setTop (mkF m 43 #[.val (.int i0), .val (.int (1 : Int32)), .val (.ref b12), .unset, .unset, .unset] [(.ref b16)]))
    refine Go.st (fun t k => XS.dup X16.here hx rfl (hb hby at_43) rfl rfl k) ?_
    show Go p e below _ (T16.setTop (mkF m 44 #[.val (.int i0), .val (.int (1 : Int32)), .val (.ref b12), .unset, .unset, .unset] [(.ref b16), (.ref b16)]))
    refine Go.st (fun t k => XS.aloadN X16.here hx rfl (hb hby at_44) rfl rfl k) ?_
    show Go p e below _ (T16.setTop (mkF m 45 #[.val (.int i0), .val (.int (1 : Int32)), .val (.ref b12), .unset, .unset, .unset] [(.ref b12), (.ref b16), (.ref b16)]))
    obtain ⟨_, _, ⟨T17, L17, k17, n17⟩, -, X17, ⟨Lc17, hQ17, l17, y17, z17⟩, st17⟩ := X16.specialBack hx (y := (⟨"java/lang/String", "<init>", "([C)V"⟩ : MethodName)) rfl hown (mvT hZ (w4 hw)) (mvT hZ (w5 hw)) (mvT hZ (w6 hw)) (by decide) (backOf (W := 1) (rm1_2 l Z a0 hw [] b16 b12 k12 w72i h16 n0 O16 (V15.ext E16) Y74 Y79 A16 f16_27 g_b16 f16_29) hZ (w6 hw) (w3 hw) (by decide) (by decide)) (g := (mkF m 45 #[.val (.int i0), .val (.int (1 : Int32)), .val (.ref b12), .unset, .unset, .unset] [(.ref b12), (.ref b16), (.ref b16)])) rfl (by rw [hml]; rfl) (Steps.refl _) (a := b16) (argsL := [(.ref b12)]) (rest := [(.ref b16)]) (lenOf pd_4 rfl) rfl (by show 2 * 0 + _ ≤ _; exact Nat.le_of_eq rfl) (hb hby at_45) (fun vm₁ hw₁ => ⟨rfl, e16, (by decide : 2 + 1 ≤ _), (by decide : 7 + 3 ≤ _)⟩)
    dsimp only [Pt.U, Pt.locs, Pt.cells, Pt.slots] at X17 l17 y17 z17 st17 hQ17
    subst l17 y17 z17
    obtain ⟨b1_3_2_17, k1_3_2_17, rfl, M17, K17c, r17_0, r17_1, r17_2, r17_3⟩ := hQ17
    have N17 := Fr.app N15 M17
    have g_b1_3_2_17 : n0 ≤ b1_3_2_17 := Nat.le_trans (own_n0 O16) r17_0
    have O17 : Old Z n0 T17.heap := O16.keep K17c (allS g_b16 all0)
    refine Go.tr st17 ?_
    show Go p e below _ (T17.setTop (mkF m 48 #[.val (.int i0), .val (.int (1 : Int32)), .val (.ref b12), .unset, .unset, .unset] [(.ref b16)]))
    refine Go.st (fun t k => XS.astoreN X17.here hx rfl (hb hby at_48) rfl rfl (l' := #[.val (.int i0), .val (.int (1 : Int32)), .val (.ref b12), .val (.ref b16), .unset, .unset]) rfl k) ?_
    show Go p e below _ (T17.setTop (mkF m 49 #[.val (.int i0), .val (.int (1 : Int32)), .val (.ref b12), .val (.ref b16), .unset, .unset] []))
    refine Go.st (fun t k => XS.iloadN X17.here hx rfl (hb hby at_49) rfl k) ?_
    show Go p e below _ (T17.setTop (mkF m 50 #[.val (.int i0), .val (.int (1 : Int32)), .val (.ref b12), .val (.ref b16), .unset, .unset] [(.int (1 : Int32))]))
    refine Go.st (fun t k => XS.ifNo X17.here hx rfl (hb hby at_50) rfl (Jvm.Free.XT.i0_eq_f (by decide : ¬ ((1 : Int32) = (0 : Int32)))) k) ?_
    show Go p e below _ (T17.setTop (mkF m 53 #[.val (.int i0), .val (.int (1 : Int32)), .val (.ref b12), .val (.ref b16), .unset, .unset] []))
    obtain ⟨T18, X18, e18, st18⟩ := getS2 X17 hx hZ hown (host := "") (Or.inl (w70 hw)) Via.refl rfl (Y53.ext O17.2) (g := (mkF m 53 #[.val (.int i0), .val (.int (1 : Int32)), .val (.ref b12), .val (.ref b16), .unset, .unset] [])) rfl (hb hby at_53)
    refine Go.st st18 ?_
    show Go p e below _ (T18.setTop (mkF m 56 #[.val (.int i0), .val (.int (1 : Int32)), .val (.ref b12), .val (.ref b16), .unset, .unset] [(.ref w51a)]))
    refine Go.st (fun t k => XS.goto X18.here hx rfl (pc0 := 56) (pc' := 62) rfl (hb hby at_56) (by decide) (by decide) k) ?_
    show Go p e below _ (T18.setTop (mkF m 62 #[.val (.int i0), .val (.int (1 : Int32)), .val (.ref b12), .val (.ref b16), .unset, .unset] [(.ref w51a)]))
    refine Go.st (fun t k => XS.astore X18.here hx rfl (hb hby at_62) rfl rfl (l' := #[.val (.int i0), .val (.int (1 : Int32)), .val (.ref b12), .val (.ref b16), .val (.ref w51a), .unset]) rfl k) ?_
    show Go p e below _ (T18.setTop (mkF m 64 #[.val (.int i0), .val (.int (1 : Int32)), .val (.ref b12), .val (.ref b16), .val (.ref w51a), .unset] []))
    refine Go.st (fun t k => XS.aloadN X18.here hx rfl (hb hby at_64) rfl rfl k) ?_
    show Go p e below _ (T18.setTop (mkF m 65 #[.val (.int i0), .val (.int (1 : Int32)), .val (.ref b12), .val (.ref b16), .val (.ref w51a), .unset] [(.ref b16)]))
    obtain ⟨_, _, ⟨T19, L19, k19, n19⟩, -, X19, ⟨Lc19, hQ19, l19, y19, z19⟩, st19⟩ := Jvm.LawKit.callS X18 hx (y := (⟨"com/example/envelop/envelop/learn/Translation", "named", "(Ljava/lang/String;)Lcom/example/envelop/envelop/learn/Translation;"⟩ : MethodName)) hown (mvT hZ (w33 hw)) (mvT hZ (w34 hw)) (mvT hZ (w31 hw)) (mvT hZ (w35 hw)) (by decide) (backOf (W := 0) (rm7_2 l Z a0 hw [] b16 w46a k49c w41a w51a w56a w72i w60a b1_3_2_17 k63c k1_3_2_17 w64a w68a k71c T17.heap n0 O17 Y48 Y84 Y50 Y58 Y59 (Nat.ne_of_lt (Nat.lt_of_lt_of_le (Nat.lt_of_lt_of_le Y59.lt O15.2.1) (Nat.le_of_eq z16.symm))) (A16.keep K17c) Y74 Y79 Y76 r17_1 Y62 r17_2 Y85 r17_3 Y66 Y67 (Nat.ne_of_lt (Nat.lt_of_lt_of_le (Nat.lt_of_lt_of_le Y67.lt O15.2.1) (Nat.le_of_eq z16.symm))) Y78 Y70 Y86) hZ (w35 hw) (w31 hw) (by decide) (by decide)) (g := (mkF m 65 #[.val (.int i0), .val (.int (1 : Int32)), .val (.ref b12), .val (.ref b16), .val (.ref w51a), .unset] [(.ref b16)])) rfl (by rw [hml]; rfl) (argsL := [(.ref b16)]) (rest := []) (lenOf pd_8 rfl) rfl (by show 2 * 0 + _ ≤ _; exact Nat.le_of_eq rfl) (hb hby at_65) (fun vm₁ hw₁ => ⟨rfl, e18, (by decide : 3 + 1 ≤ _), (by decide : 10 + 2 ≤ _)⟩)
    dsimp only [Pt.U, Pt.locs, Pt.cells, Pt.slots] at X19 l19 y19 z19 st19 hQ19
    subst l19 y19 z19
    obtain ⟨rfl, M19, K19c⟩ := hQ19
    have N19 := Fr.app N17 M19
    have O19 : Old Z n0 T19.heap := O17.keep K19c all0
    refine Go.st st19 ?_
    show Go p e below _ (T19.setTop (mkF m 68 #[.val (.int i0), .val (.int (1 : Int32)), .val (.ref b12), .val (.ref b16), .val (.ref w51a), .unset] [(.ref w51a)]))
    refine Go.st (fun t k => XS.astore X19.here hx rfl (hb hby at_68) rfl rfl (l' := #[.val (.int i0), .val (.int (1 : Int32)), .val (.ref b12), .val (.ref b16), .val (.ref w51a), .val (.ref w51a)]) rfl k) ?_
    show Go p e below _ (T19.setTop (mkF m 70 #[.val (.int i0), .val (.int (1 : Int32)), .val (.ref b12), .val (.ref b16), .val (.ref w51a), .val (.ref w51a)] []))
    refine Go.st (fun t k => XS.aload X19.here hx rfl (hb hby at_70) rfl rfl k) ?_
    show Go p e below _ (T19.setTop (mkF m 72 #[.val (.int i0), .val (.int (1 : Int32)), .val (.ref b12), .val (.ref b16), .val (.ref w51a), .val (.ref w51a)] [(.ref w51a)]))
    refine Go.st (fun t k => XS.aload X19.here hx rfl (hb hby at_72) rfl rfl k) ?_
    show Go p e below _ (T19.setTop (mkF m 74 #[.val (.int i0), .val (.int (1 : Int32)), .val (.ref b12), .val (.ref b16), .val (.ref w51a), .val (.ref w51a)] [(.ref w51a), (.ref w51a)]))
    refine Go.st (fun t k => Jvm.RoadKit.acmp (g := (mkF m 74 #[.val (.int i0), .val (.int (1 : Int32)), .val (.ref b12), .val (.ref b16), .val (.ref w51a), .val (.ref w51a)] [(.ref w51a), (.ref w51a)])) X19 hx rfl rfl rfl (pc0 := 74) (pc' := 77) (same := true) rfl (hb hby at_74) rfl (decide_eq_true (congrArg Value.ref rfl)) (by decide) (by decide) k) ?_
    show Go p e below _ (T19.setTop (mkF m 77 #[.val (.int i0), .val (.int (1 : Int32)), .val (.ref b12), .val (.ref b16), .val (.ref w51a), .val (.ref w51a)] []))
    refine Go.st (fun t k => XS.aload X19.here hx rfl (hb hby at_77) rfl rfl k) ?_
    show Go p e below _ (T19.setTop (mkF m 79 #[.val (.int i0), .val (.int (1 : Int32)), .val (.ref b12), .val (.ref b16), .val (.ref w51a), .val (.ref w51a)] [(.ref w51a)]))
    obtain ⟨cq20, kq20, q20a, q20b, q20c⟩ := isOf hZ rfl (Y54.ext O19.2)
    obtain ⟨_, _, ⟨T20, L20, k20, n20⟩, -, X20, ⟨Lc20, hQ20, l20, y20, z20⟩, st20⟩ := X19.virtualBack hx (y := (⟨"com/example/envelop/envelop/learn/Translation", "toString", "()Ljava/lang/String;"⟩ : MethodName)) (z := (⟨"com/example/envelop/envelop/learn/Translation", "toString", "()Ljava/lang/String;"⟩ : MethodName)) hown (mvT hZ (w64 hw)) (mvT hZ (w65 hw)) (notFace_of_selects (args := #[]) (mvT hZ (w67 hw))) (mvT hZ (w67 hw)) (mvT hZ (w66 hw)) (by decide) (backOf (W := 0) (rm11_1 l Z a0 hw [] w51a w64a T19.heap n0 O19 Y66) hZ (w68 hw) (w31 hw) (by decide) (by decide)) q20a q20c (g := (mkF m 79 #[.val (.int i0), .val (.int (1 : Int32)), .val (.ref b12), .val (.ref b16), .val (.ref w51a), .val (.ref w51a)] [(.ref w51a)])) rfl (by rw [hml]; rfl) (Steps.refl _) (argsL := []) (rest := []) (lenOf pd_9 rfl) rfl (by show 2 * 0 + _ ≤ _; exact Nat.le_of_eq rfl) (hb hby at_79) (fun vm₁ hw₁ => ⟨rfl, rfl, (by decide : 4 + 0 ≤ _), (by decide : 12 + 0 ≤ _)⟩)
    dsimp only [Pt.U, Pt.locs, Pt.cells, Pt.slots] at X20 l20 y20 z20 st20 hQ20
    subst l20 y20 z20
    obtain ⟨rfl, M20, eh20⟩ := hQ20
    have N20 := Fr.app N19 M20
    refine Go.tr st20 ?_
    show Go p e below _ (T20.setTop (mkF m 82 #[.val (.int i0), .val (.int (1 : Int32)), .val (.ref b12), .val (.ref b16), .val (.ref w51a), .val (.ref w51a)] [(.ref w64a)]))
    refine Go.st (fun t k => XS.aloadN X20.here hx rfl (hb hby at_82) rfl rfl k) ?_
    show Go p e below _ (T20.setTop (mkF m 83 #[.val (.int i0), .val (.int (1 : Int32)), .val (.ref b12), .val (.ref b16), .val (.ref w51a), .val (.ref w51a)] [(.ref b16), (.ref w64a)]))
    obtain ⟨cq21, kq21, q21a, q21b, q21c⟩ := isOf hZ eh20 (Y67.ext O19.2)
    obtain ⟨_, _, ⟨T21, L21, k21, n21⟩, -, X21, ⟨Lc21, hQ21, l21, y21, z21⟩, st21⟩ := X20.virtualBack hx (y := (⟨"java/lang/String", "equals", "(Ljava/lang/Object;)Z"⟩ : MethodName)) (z := (⟨"java/lang/String", "equals", "(Ljava/lang/Object;)Z"⟩ : MethodName)) hown (mvT hZ (w69 hw)) (mvT hZ (w55 hw)) (notFace_of_selects (args := #[]) (mvT hZ (w57 hw))) (mvT hZ (w57 hw)) (mvT hZ (w56 hw)) (by decide) (backOf (W := 0) (rm9_3 l Z a0 hw [] w64a b16 w72i w68a b1_3_2_17 k71c k1_3_2_17 T19.heap n0 O19 (Nat.ne_of_lt (Nat.lt_of_lt_of_le (Nat.lt_of_lt_of_le Y67.lt O15.2.1) (Nat.le_of_eq z16.symm))) ((A16.keep K17c).keep K19c) Y74 Y79 Y78 (r17_1.keep K19c nin0) Y70 (r17_2.keep K19c nin0) Y86 (r17_3.keep K19c nin0)) hZ (w58 hw) (w3 hw) (by decide) (by decide)) q21a q21c (g := (mkF m 83 #[.val (.int i0), .val (.int (1 : Int32)), .val (.ref b12), .val (.ref b16), .val (.ref w51a), .val (.ref w51a)] [(.ref b16), (.ref w64a)])) rfl (by rw [hml]; rfl) (Steps.refl _) (argsL := [(.ref b16)]) (rest := []) (lenOf pd_7 rfl) rfl (by show 2 * 0 + _ ≤ _; exact Nat.le_of_eq rfl) (hb hby at_83) (fun vm₁ hw₁ => ⟨rfl, eh20, (by decide : 4 + 0 ≤ _), (by decide : 12 + 0 ≤ _)⟩)
    dsimp only [Pt.U, Pt.locs, Pt.cells, Pt.slots] at X21 l21 y21 z21 st21 hQ21
    subst l21 y21 z21
    obtain ⟨rfl, M21, eh21⟩ := hQ21
    have N21 := Fr.app N20 M21
    refine Go.tr st21 ?_
    show Go p e below _ (T21.setTop (mkF m 86 #[.val (.int i0), .val (.int (1 : Int32)), .val (.ref b12), .val (.ref b16), .val (.ref w51a), .val (.ref w51a)] [(.int (1 : Int32))]))
    refine Go.st (fun t k => XS.ifNo X21.here hx rfl (hb hby at_86) rfl (Jvm.Free.XT.i0_eq_f (by decide : ¬ ((1 : Int32) = (0 : Int32)))) k) ?_
    show Go p e below _ (T21.setTop (mkF m 89 #[.val (.int i0), .val (.int (1 : Int32)), .val (.ref b12), .val (.ref b16), .val (.ref w51a), .val (.ref w51a)] []))
    refine Go.st (fun t k => XS.iconst X21.here hx rfl (hb hby at_89) k) ?_
    show Go p e below _ (T21.setTop (mkF m 90 #[.val (.int i0), .val (.int (1 : Int32)), .val (.ref b12), .val (.ref b16), .val (.ref w51a), .val (.ref w51a)] [(.int (1 : Int32))]))
    refine Go.st (fun t k => XS.goto X21.here hx rfl (pc0 := 90) (pc' := 94) rfl (hb hby at_90) (by decide) (by decide) k) ?_
    show Go p e below _ (T21.setTop (mkF m 94 #[.val (.int i0), .val (.int (1 : Int32)), .val (.ref b12), .val (.ref b16), .val (.ref w51a), .val (.ref w51a)] [(.int (1 : Int32))]))
    obtain ⟨fs, hr, hrun, hended, hWd, hsame⟩ := X21.leave (v := some (.int (1 : Int32))) (fun h => by rw [Bd.returns] at h; cases h)
    refine ⟨_, _, ?_, hrun, hended, _, _, rfl, ?_, ⟨⟨_, rfl⟩, hWd, hsame.mono (by decide) (by decide)⟩⟩
    · exact retN X21 hx (t := .boolean) Bd.returns (by simp) (hb hby at_94) hr
    · exact ⟨rfl, N21⟩
set_option maxRecDepth 65536 in
set_option maxHeartbeats 40000000 in
theorem comes_1 {Post : Tables → Env → Array Value → State → Outcome → State → Prop} (hpost : ∀ tb e args s v u, (limb_1_1.after args s (.returned v) u = true ∧ limb_1_2.after args s (.returned v) u = true ∧ True) → FrameEnd s (.returned v) u (Jvm.fieldLocs frame_1_writes args s ++ Jvm.arrayLocs frame_1_arrays args s ++ Jvm.staticLocs frame_1_statics s) 16 128 → Post tb e args s (.returned v) u) :
    ArmFor flags0 classFile x code maxLocals ret World_1 tables_1 room_1 Calls_1 rest_1 Pre_1 Post := by
  intro l hfl _ _ p e ha hc hk s m args below hf hA hF happ hP
  obtain ⟨hcalls, hrest, hpre⟩ := hP
  obtain ⟨-, -, -, hnamed, -, -, -, hat⟩ := (Spec.applies_iff hf).mp happ
  obtain ⟨hg, hn⟩ := and_e (Cond.before_iff.mp (show (Jvm.Cond.and given_1 narrow_1).before args s = true from hpre))
  obtain ⟨hcnt, hg⟩ := and_e hg
  have hv0 := hg
  obtain ⟨w0, rfl⟩ : ∃ w0 : Value, args = #[w0] := by
    have hs : args.size = 1 := by simpa [Cond.value, given_1] using hcnt
    obtain ⟨L⟩ := args
    match L, hs with
    | [w0], _ => exact ⟨w0, rfl⟩
  have hw := fun d (hd : d ∈ tables_1) => atoms_spec (ws := Jvm.Cond.code x code maxLocals ret :: tables_1) hat d (List.mem_cons_of_mem _ hd)
  have hfit : Fit s := fun {y c} hc i hi => by
    obtain ⟨ha, rfl⟩ := Array.getElem?_eq_some_iff.mp hc
    have q := List.all_eq_true.mp ((Array.all_eq_true_iff_forall_mem.mp hF) _ (Array.getElem_mem ha)) i (List.mem_range.mpr hi)
    simpa [Array.getElem?_eq_getElem hi] using q
  obtain ⟨hsets, hown0⟩ := atoms_of _ (rest_1_c_eq ▸ (show rest_1_c.before _ s = true from hrest))
  have hr0 := Cond.before_iff.mp hown0
  obtain ⟨i0, ei0⟩ := is_v hv0
  obtain rfl : w0 = (.int i0) := Option.some.inj ei0
  obtain ⟨u1, u2⟩ := and_e hn
  obtain ⟨u3, u4⟩ := and_e u2
  obtain ⟨u5, u6⟩ := and_e u4
  obtain ⟨u7, u8⟩ := and_e u6
  obtain ⟨u9, u10⟩ := and_e u8
  obtain ⟨u11, u12⟩ := and_e u10
  obtain ⟨u13, u14⟩ := and_e u12
  obtain ⟨u15, u16⟩ := and_e u14
  obtain ⟨u17, u18⟩ := and_e u16
  obtain ⟨u19, u20⟩ := and_e u18
  obtain ⟨u21, u22⟩ := and_e u20
  obtain ⟨u23, u24⟩ := and_e u22
  obtain ⟨u25, u26⟩ := and_e u24
  obtain ⟨u27, u28⟩ := and_e u26
  obtain ⟨u29, u30⟩ := and_e u28
  obtain ⟨u31, u32⟩ := and_e u30
  obtain ⟨u33, u34⟩ := and_e u32
  obtain ⟨u35, u36⟩ := and_e u34
  obtain ⟨u37, u38⟩ := and_e u36
  obtain ⟨u39, u40⟩ := and_e u38
  obtain ⟨w41a, ev42⟩ := exa_v u1
  have Y43 : Sta s s.heap "com/example/envelop/envelop/learn/Translation" "TWO_OPERATOR" "Lcom/example/envelop/envelop/learn/Translation;" (.ref w41a) := Sta.start ev42 (Or.inr ⟨(w31 hw), (w32 hw)⟩)
  have Y44 : Exa s s.heap w41a "com/example/envelop/envelop/learn/Translation" := Exa.start ev42 u1
  have ev45 : (Term.elem (Term.static "com/example/envelop/envelop/learn/Translation" "$VALUES" "[Lcom/example/envelop/envelop/learn/Translation;") (Term.int (0 : Int32))).eval _ s none [] s = some (.ref w41a) := own_eqL ev42 u9
  obtain ⟨w46a, ev47⟩ := arr_v u3
  have Y48 : Sta s s.heap "com/example/envelop/envelop/learn/Translation" "$VALUES" "[Lcom/example/envelop/envelop/learn/Translation;" (.ref w46a) := Sta.start ev47 (Or.inl (w49 hw))
  obtain ⟨cl49, ar49⟩ := Arr.start ev47 u3
  have Y50 : Exa s s.heap w46a "[Lcom/example/envelop/envelop/learn/Translation;" := Exa.start ev47 u5
  obtain ⟨w51a, ev52⟩ := exa_v u11
  have Y53 : Sta s s.heap "com/example/envelop/envelop/learn/Translation" "THREE_OPERATOR" "Lcom/example/envelop/envelop/learn/Translation;" (.ref w51a) := Sta.start ev52 (Or.inr ⟨(w31 hw), (w48 hw)⟩)
  have Y54 : Exa s s.heap w51a "com/example/envelop/envelop/learn/Translation" := Exa.start ev52 u11
  have ev55 : (Term.elem (Term.static "com/example/envelop/envelop/learn/Translation" "$VALUES" "[Lcom/example/envelop/envelop/learn/Translation;") (Term.int (1 : Int32))).eval _ s none [] s = some (.ref w51a) := own_eqL ev52 u13
  obtain ⟨w56a, ev57⟩ := exa_v u15
  have Y58 : Fld s s.heap w41a "com/example/envelop/envelop/learn/Translation" "text" "Ljava/lang/String;" (.ref w56a) := Fld.start ((fld_at ev42).symm.trans ev57)
  have Y59 : Exa s s.heap w56a "java/lang/String" := Exa.start ev57 u15
  obtain ⟨w60a, ev61⟩ := arr_v u19
  have Y62 : Fld s s.heap w56a "java/lang/String" "value" "[B" (.ref w60a) := Fld.start ((fld_at ev57).symm.trans ev61)
  obtain ⟨cl63, ar63⟩ := Arr.start ev61 u19
  obtain ⟨w64a, ev65⟩ := exa_v u29
  have Y66 : Fld s s.heap w51a "com/example/envelop/envelop/learn/Translation" "text" "Ljava/lang/String;" (.ref w64a) := Fld.start ((fld_at ev52).symm.trans ev65)
  have Y67 : Exa s s.heap w64a "java/lang/String" := Exa.start ev65 u29
  obtain ⟨w68a, ev69⟩ := arr_v u33
  have Y70 : Fld s s.heap w64a "java/lang/String" "value" "[B" (.ref w68a) := Fld.start ((fld_at ev65).symm.trans ev69)
  obtain ⟨cl71, ar71⟩ := Arr.start ev69 u33
  obtain ⟨w72i, ev73⟩ := is_v (Cond.before_iff.mp (hsets _ (List.mem_of_getElem? (i := 1) rfl)))
  have Y74 : Sta s s.heap "java/lang/String" "COMPACT_STRINGS" "Z" (.int w72i) := Sta.start ev73 (Or.inl (hsets _ (List.mem_of_getElem? (i := 0) rfl)))
  have ev75 : (Term.field (Term.field (Term.static "com/example/envelop/envelop/learn/Translation" "TWO_OPERATOR" "Lcom/example/envelop/envelop/learn/Translation;") "com/example/envelop/envelop/learn/Translation" "text" "Ljava/lang/String;") "java/lang/String" "coder" "B").eval _ s none [] s = some (.int (0 : Int32)) := own_valI u17
  have Y76 : Fld s s.heap w56a "java/lang/String" "coder" "B" (.int (0 : Int32)) := Fld.start ((fld_at ev57).symm.trans ev75)
  have ev77 : (Term.field (Term.field (Term.static "com/example/envelop/envelop/learn/Translation" "THREE_OPERATOR" "Lcom/example/envelop/envelop/learn/Translation;") "com/example/envelop/envelop/learn/Translation" "text" "Ljava/lang/String;") "java/lang/String" "coder" "B").eval _ s none [] s = some (.int (0 : Int32)) := own_valI u31
  have Y78 : Fld s s.heap w64a "java/lang/String" "coder" "B" (.int (0 : Int32)) := Fld.start ((fld_at ev65).symm.trans ev77)
  have Y79 : ¬ (w72i = (0 : Int32)) := own_neI ev73 (Cond.before_iff.mp (hsets _ (List.mem_of_getElem? (i := 2) rfl)))
  obtain ⟨k49c, hk49⟩ : ∃ z, z = cl49.cls := ⟨_, rfl⟩
  have Y84 : Arv s s.heap w46a k49c (.object "com/example/envelop/envelop/learn/Translation") (2 : Int32) [(.ref w41a), (.ref w51a)] .null := hk49 ▸ own_arv hfit ar49 ev47 u7 (by decide) rfl ⟨(elem_in ev45 ev47 rfl ar49.1).2, (elem_in ev55 ev47 rfl ar49.1).2, trivial⟩
  obtain ⟨k63c, hk63⟩ : ∃ z, z = cl63.cls := ⟨_, rfl⟩
  have Y85 : Arv s s.heap w60a k63c .byte (3 : Int32) [(.int (50 : Int32)), (.int (111 : Int32)), (.int (112 : Int32))] (.int (0 : Int32)) := hk63 ▸ own_arv hfit ar63 ev61 u21 (by decide) rfl ⟨own_elI ar63 ev61 u23, own_elI ar63 ev61 u25, own_elI ar63 ev61 u27, trivial⟩
  obtain ⟨k71c, hk71⟩ : ∃ z, z = cl71.cls := ⟨_, rfl⟩
  have Y86 : Arv s s.heap w68a k71c .byte (3 : Int32) [(.int (51 : Int32)), (.int (111 : Int32)), (.int (112 : Int32))] (.int (0 : Int32)) := hk71 ▸ own_arv hfit ar71 ev69 u35 (by decide) rfl ⟨own_elI ar71 ev69 u37, own_elI ar71 ev69 u39, own_elI ar71 ev69 u40, trivial⟩
  obtain ⟨n, o, h1, h2, h3, _, L, rfl, ⟨rfl, N⟩, hq⟩ := rm0 l s _ hw tables_1 i0 w41a w46a w51a w56a w60a w64a w68a w72i k49c k63c k71c s.heap s.heap.size (Old.start s) Y43 Y44 Y48 Y50 Y53 Y54 Y58 Y59 Y62 Y66 Y67 Y70 Y74 Y76 Y78 Y79 Y84 Y85 Y86 p e ha hc hk s m _ below hf ((Spec.applies_iff_loose hf).mp happ).1 ⟨rfl, State.Warmed39.refl s, rfl⟩ trivial
  refine ⟨n, _, h1, h2, h3, hpost _ _ _ _ _ _ ⟨Cond.after_iff.mpr rfl, Cond.after_iff.mpr (eq_i res_at (Term.int_eval (1)) rfl), trivial⟩ ⟨hq.1, hq.2.1, (hq.2.2.sift fun y hy => Or.inr (N y hy)).mono (by decide) (by decide)⟩⟩
theorem main_1_1 : Claimed_1_1 := comes_1 fun _ _ _ _ _ _ h hF => ⟨h.1, hF⟩
theorem main_1_2 : Claimed_1_2 := comes_1 fun _ _ _ _ _ _ h hF => ⟨h.2.1, hF⟩
end Jvm.Pilot.@@N@@
namespace Jvm.Pilot.@@N@@
open Jvm Jvm.ClassFile Sem Op Lib Jvm.Free Jvm.Stand Jvm.Pilot.@@N@@.Jvm.D
/-! MADE BY PROGRAM (witnessworld.py) out of the Statement's table words and the real class files: 22 classes; the members and pool entries that the words name. The judged class is class 1, her method 1. -/
namespace start1
open Jvm.ClassFile
def u (s : String) : CpInfo := .utf8 (stringToUtf16 s)
/-- a pool by its gaps: so many unusable entries, then the entry; so many at the end -/
def gap : Nat → List CpInfo → List CpInfo
  | 0, r => r
  | n + 1, r => .unusable :: gap n r
def poolList (es : List (Nat × CpInfo)) (last : Nat) : List CpInfo := es.foldr (fun e r => gap e.1 (e.2 :: r)) (gap last [])
def pool (es : List (Nat × CpInfo)) (last : Nat) : Array CpInfo := ⟨poolList es last⟩
def fileOf (pool : Array CpInfo) (this : Nat) (attrs : Array Attribute := #[]) (ms : Array MethodInfo := #[]) (fl : Nat := 33) (sup : Nat := 0) (ifs : Array Nat := #[]) (fds : Array FieldInfo := #[]) : ClassFile where
  minorVersion := 0
  majorVersion := 65
  constantPool := pool
  accessFlags := fl
  thisClass := this
  superClass := sup
  interfaces := ifs
  fields := fds
  methods := ms
  attributes := attrs
def plain (name : String) (sup : Option ClassId) : Class where
  name := name
  kind := .ordinary
  loader := none
  accessFlags := 33
  super := sup
  interfaces := #[]
  cf := none
  fields := #[]
  methods := #[]
  instanceTypes := #[]
  staticTypes := #[]
  resolved := #[]
  callSites := []
  init := .initialized
  statics := none
  mirror := none

def pool0 : Array CpInfo := pool [(5, u "<init>"), (0, u "()V"), (1, .class_ 10), (1, u "java/lang/Object"), (85, u "clone"), (0, u "()Ljava/lang/Object;")] 26

def k0c0 : Code := { maxStack := 0, maxLocals := 1, code := object_method_1_code, exceptionTable := #[], attributes := #[] }
def k0m0 : Method := { name := "<init>", desc := "()V", sig := { parameters := [], returnType := none }, accessFlags := 1, code := some k0c0 }
def k0m1 : Method := { name := "clone", desc := "()Ljava/lang/Object;", sig := { parameters := [], returnType := some (.object "java/lang/Object") }, accessFlags := 260, code := none }
/-- java/lang/Object -/
def k0 : Class := { plain "java/lang/Object" none with
  accessFlags := 33
  interfaces := #[]
  cf := some (fileOf pool0 8 #[] #[{ accessFlags := 1, nameIndex := 5, descriptorIndex := 6, attributes := #[] }, { accessFlags := 260, nameIndex := 96, descriptorIndex := 97, attributes := #[] }] 33 0 #[] #[])
  fields := #[]
  methods := #[k0m0, k0m1]
  instanceTypes := #[]
  staticTypes := #[]
  resolved := Array.replicate 124 none
  statics := none }

def pool1 : Array CpInfo := pool [(2, .class_ 4), (1, u "java/lang/Object"), (0, u "<init>"), (0, u "()V"), (0, .class_ 8), (0, u "java/lang/String"), (0, .methodref 7 10), (0, .nameAndType 5 11), (0, u "([C)V"), (0, .fieldref 13 14), (0, .class_ 15), (0, .nameAndType 16 17), (0, u "com/example/envelop/envelop/learn/Translation"), (0, u "THREE_OPERATOR"), (0, u "Lcom/example/envelop/envelop/learn/Translation;"), (0, .fieldref 13 19), (0, .nameAndType 20 17), (0, u "TWO_OPERATOR"), (0, .methodref 13 22), (0, .nameAndType 23 24), (0, u "named"), (0, u "(Ljava/lang/String;)Lcom/example/envelop/envelop/learn/Translation;"), (0, .methodref 13 26), (0, .nameAndType 27 28), (0, u "toString"), (0, u "()Ljava/lang/String;"), (0, .methodref 7 30), (0, .nameAndType 31 32), (0, u "equals"), (0, u "(Ljava/lang/Object;)Z"), (0, .class_ 34), (0, u "com/example/envelop/envelop/learn/TranslationNamedPinLaw"), (2, u "law"), (0, u "(I)Z")] 5

def k1m0 : Method := { name := "<init>", desc := "()V", sig := { parameters := [], returnType := none }, accessFlags := 1, code := none }
def k1c1 : Code := { maxStack := 3, maxLocals := 6, code := code, exceptionTable := #[], attributes := #[] }
def k1m1 : Method := { name := "law", desc := "(I)Z", sig := { parameters := [.int], returnType := some .boolean }, accessFlags := 9, code := some k1c1 }
/-- com/example/envelop/envelop/learn/TranslationNamedPinLaw -/
def k1 : Class := { plain "com/example/envelop/envelop/learn/TranslationNamedPinLaw" (some 0) with
  accessFlags := 49
  interfaces := #[]
  cf := some (fileOf pool1 33 #[] #[{ accessFlags := 1, nameIndex := 5, descriptorIndex := 6, attributes := #[] }, { accessFlags := 9, nameIndex := 37, descriptorIndex := 38, attributes := #[] }] 49 2 #[] #[])
  fields := #[]
  methods := #[k1m0, k1m1]
  instanceTypes := #[]
  staticTypes := #[]
  resolved := Array.replicate 44 none
  statics := none }

def pool2 : Array CpInfo := pool [(1, .class_ 2), (0, u "java/io/Serializable"), (0, .class_ 4), (0, u "java/lang/Object")] 2

/-- java/io/Serializable -/
def k2 : Class := { plain "java/io/Serializable" (some 0) with
  accessFlags := 1537
  interfaces := #[]
  cf := some (fileOf pool2 1 #[] #[] 1537 3 #[] #[])
  fields := #[]
  methods := #[]
  instanceTypes := #[]
  staticTypes := #[]
  resolved := Array.replicate 7 none
  statics := none }

def pool3 : Array CpInfo := pool [(1, .class_ 2), (0, u "java/lang/Comparable"), (0, .class_ 4), (0, u "java/lang/Object")] 7

/-- java/lang/Comparable -/
def k3 : Class := { plain "java/lang/Comparable" (some 0) with
  accessFlags := 1537
  interfaces := #[]
  cf := some (fileOf pool3 1 #[] #[] 1537 3 #[] #[])
  fields := #[]
  methods := #[]
  instanceTypes := #[]
  staticTypes := #[]
  resolved := Array.replicate 12 none
  statics := none }

def pool4 : Array CpInfo := pool [(2, .class_ 4), (1, u "java/lang/CharSequence"), (42, .class_ 48), (0, u "java/lang/CharSequence$1CodePointIterator"), (10, .class_ 60), (0, u "java/lang/CharSequence$1CharIterator"), (5, .class_ 67), (0, u "java/lang/Object")] 63

/-- java/lang/CharSequence -/
def k4 : Class := { plain "java/lang/CharSequence" (some 0) with
  accessFlags := 1537
  interfaces := #[]
  cf := some (fileOf pool4 2 #[.nestMembers #[47, 59]] #[] 1537 66 #[] #[])
  fields := #[]
  methods := #[]
  instanceTypes := #[]
  staticTypes := #[]
  resolved := Array.replicate 131 none
  statics := none }

def pool5 : Array CpInfo := pool [(1, .class_ 2), (0, u "java/lang/constant/Constable"), (0, .class_ 4), (0, u "java/lang/Object")] 6

/-- java/lang/constant/Constable -/
def k5 : Class := { plain "java/lang/constant/Constable" (some 0) with
  accessFlags := 1537
  interfaces := #[]
  cf := some (fileOf pool5 1 #[] #[] 1537 3 #[] #[])
  fields := #[]
  methods := #[]
  instanceTypes := #[]
  staticTypes := #[]
  resolved := Array.replicate 11 none
  statics := none }

def pool6 : Array CpInfo := pool [(1, .class_ 2), (0, u "java/lang/constant/ConstantDesc"), (0, .class_ 4), (0, u "java/lang/Object")] 32

/-- java/lang/constant/ConstantDesc -/
def k6 : Class := { plain "java/lang/constant/ConstantDesc" (some 0) with
  accessFlags := 1537
  interfaces := #[]
  cf := some (fileOf pool6 1 #[] #[] 1537 3 #[] #[])
  fields := #[]
  methods := #[]
  instanceTypes := #[]
  staticTypes := #[]
  resolved := Array.replicate 37 none
  statics := none }

def pool7 : Array CpInfo := pool [(1, .methodref 2 3), (0, .class_ 4), (0, .nameAndType 5 6), (0, u "java/lang/Object"), (0, u "<init>"), (0, u "()V"), (2, .fieldref 10 11), (0, .class_ 12), (0, .nameAndType 13 14), (0, u "java/lang/String"), (0, u "value"), (0, u "[B"), (0, .fieldref 10 16), (0, .nameAndType 17 18), (0, u "coder"), (0, u "B"), (2, u "hash"), (0, u "I"), (2, u "hashIsZero"), (0, u "Z"), (0, .methodref 10 28), (0, .nameAndType 5 29), (0, u "([CIILjava/lang/Void;)V"), (8, .fieldref 10 39), (0, .nameAndType 40 26), (0, u "COMPACT_STRINGS"), (1, .class_ 44), (1, u "java/lang/StringUTF16"), (0, u "compress"), (1, .methodref 42 48), (0, .nameAndType 49 50), (0, u "coderFromArrayLen"), (0, u "([BI)B"), (56, .class_ 109), (1, u "java/lang/StringLatin1"), (67, .methodref 42 178), (0, .nameAndType 45 179), (0, u "([CII)[B"), (361, .methodref 107 542), (0, .nameAndType 543 544), (0, u "equals"), (0, u "([B[B)Z"), (28, u "(Ljava/lang/Object;)Z"), (1, .class_ 576), (0, u "java/lang/CharSequence"), (22, u "CASE_INSENSITIVE_ORDER"), (0, u "Ljava/util/Comparator;"), (409, u "([C)V"), (90, u "serialPersistentFields"), (0, u "[Ljava/io/ObjectStreamField;"), (0, .class_ 1104), (0, u "java/lang/String$CaseInsensitiveComparator"), (1, .class_ 1107), (0, u "java/io/Serializable"), (0, .class_ 1109), (0, u "java/lang/Comparable"), (0, .class_ 1111), (0, u "java/lang/constant/Constable"), (0, .class_ 1113), (0, u "java/lang/constant/ConstantDesc"), (2, u "serialVersionUID"), (0, u "J"), (3, u "REPL"), (0, u "C"), (2, u "LATIN1"), (1, u "UTF16")] 323

def k7m0 : Method := { name := "<init>", desc := "()V", sig := { parameters := [], returnType := none }, accessFlags := 1, code := none }
def k7c1 : Code := { maxStack := 5, maxLocals := 2, code := jdk_42_method_3_code, exceptionTable := #[], attributes := #[] }
def k7m1 : Method := { name := "<init>", desc := "([C)V", sig := { parameters := [(.array .char)], returnType := none }, accessFlags := 1, code := some k7c1 }
def k7c2 : Code := { maxStack := 2, maxLocals := 3, code := jdk_42_method_66_code, exceptionTable := #[], attributes := #[] }
def k7m2 : Method := { name := "equals", desc := "(Ljava/lang/Object;)Z", sig := { parameters := [(.object "java/lang/Object")], returnType := some .boolean }, accessFlags := 1, code := some k7c2 }
def k7c3 : Code := { maxStack := 4, maxLocals := 6, code := jdk_42_method_149_code, exceptionTable := #[], attributes := #[] }
def k7m3 : Method := { name := "<init>", desc := "([CIILjava/lang/Void;)V", sig := { parameters := [(.array .char), .int, .int, (.object "java/lang/Void")], returnType := none }, accessFlags := 2, code := some k7c3 }
/-- java/lang/String -/
def k7 : Class := { plain "java/lang/String" (some 0) with
  accessFlags := 49
  interfaces := #[2, 3, 4, 5, 6]
  cf := some (fileOf pool7 10 #[.nestMembers #[1103]] #[{ accessFlags := 1, nameIndex := 5, descriptorIndex := 6, attributes := #[] }, { accessFlags := 1, nameIndex := 5, descriptorIndex := 1010, attributes := #[] }, { accessFlags := 1, nameIndex := 543, descriptorIndex := 573, attributes := #[] }, { accessFlags := 2, nameIndex := 5, descriptorIndex := 29, attributes := #[] }] 49 2 #[1106, 1108, 575, 1110, 1112] #[{ accessFlags := 18, nameIndex := 13, descriptorIndex := 14, attributes := #[] }, { accessFlags := 18, nameIndex := 17, descriptorIndex := 18, attributes := #[] }, { accessFlags := 2, nameIndex := 21, descriptorIndex := 22, attributes := #[] }, { accessFlags := 2, nameIndex := 25, descriptorIndex := 26, attributes := #[] }, { accessFlags := 26, nameIndex := 1116, descriptorIndex := 1117, attributes := #[] }, { accessFlags := 24, nameIndex := 40, descriptorIndex := 26, attributes := #[] }, { accessFlags := 26, nameIndex := 1101, descriptorIndex := 1102, attributes := #[] }, { accessFlags := 26, nameIndex := 1121, descriptorIndex := 1122, attributes := #[] }, { accessFlags := 25, nameIndex := 599, descriptorIndex := 600, attributes := #[] }, { accessFlags := 24, nameIndex := 1125, descriptorIndex := 18, attributes := #[] }, { accessFlags := 24, nameIndex := 1127, descriptorIndex := 18, attributes := #[] }])
  fields := #[{ name := "value", type := (.array .byte), accessFlags := 18, slot := 0, constantValue := 0 }, { name := "coder", type := .byte, accessFlags := 18, slot := 1, constantValue := 0 }, { name := "hash", type := .int, accessFlags := 2, slot := 2, constantValue := 0 }, { name := "hashIsZero", type := .boolean, accessFlags := 2, slot := 3, constantValue := 0 }, { name := "serialVersionUID", type := .long, accessFlags := 26, slot := 0, constantValue := 0 }, { name := "COMPACT_STRINGS", type := .boolean, accessFlags := 24, slot := 1, constantValue := 0 }, { name := "serialPersistentFields", type := (.array (.object "java/io/ObjectStreamField")), accessFlags := 26, slot := 2, constantValue := 0 }, { name := "REPL", type := .char, accessFlags := 26, slot := 3, constantValue := 0 }, { name := "CASE_INSENSITIVE_ORDER", type := (.object "java/util/Comparator"), accessFlags := 25, slot := 4, constantValue := 0 }, { name := "LATIN1", type := .byte, accessFlags := 24, slot := 5, constantValue := 0 }, { name := "UTF16", type := .byte, accessFlags := 24, slot := 6, constantValue := 0 }]
  methods := #[k7m0, k7m1, k7m2, k7m3]
  instanceTypes := #[(.array .byte), .byte, .int, .boolean]
  staticTypes := #[.long, .boolean, (.array (.object "java/io/ObjectStreamField")), .char, (.object "java/util/Comparator"), .byte, .byte]
  resolved := Array.replicate 1451 none
  statics := some 0 }

def pool8 : Array CpInfo := pool [(6, .class_ 8), (1, u "java/lang/Object"), (0, u "<init>"), (0, u "()V"), (1, .class_ 14), (1, u "java/lang/StringUTF16"), (31, u "$assertionsDisabled"), (0, u "Z"), (13, u "HI_BYTE_SHIFT"), (0, u "I"), (2, u "LO_BYTE_SHIFT"), (49, .methodref 12 116), (0, .nameAndType 117 118), (0, u "compress"), (0, u "([CI[BII)I"), (3, u "([CII)[B"), (138, u "coderFromArrayLen"), (0, u "([BI)B"), (106, .class_ 371), (1, u "java/lang/StringUTF16$LinesSpliterator"), (58, u "MAX_LENGTH"), (196, .class_ 628), (0, u "java/lang/StringUTF16$CodePointsSpliterator"), (0, .class_ 630), (0, u "java/lang/StringUTF16$CharsSpliterator")] 4

def k8m0 : Method := { name := "<init>", desc := "()V", sig := { parameters := [], returnType := none }, accessFlags := 0, code := none }
def k8c1 : Code := { maxStack := 2, maxLocals := 2, code := jdk_52_method_15_code, exceptionTable := #[], attributes := #[] }
def k8m1 : Method := { name := "coderFromArrayLen", desc := "([BI)B", sig := { parameters := [(.array .byte), .int], returnType := some .byte }, accessFlags := 8, code := some k8c1 }
def k8c2 : Code := { maxStack := 5, maxLocals := 6, code := jdk_52_method_16_code, exceptionTable := #[], attributes := #[] }
def k8m2 : Method := { name := "compress", desc := "([CII)[B", sig := { parameters := [(.array .char), .int, .int], returnType := some (.array .byte) }, accessFlags := 9, code := some k8c2 }
def k8c3 : Code := { maxStack := 3, maxLocals := 7, code := jdk_52_method_21_code, exceptionTable := #[], attributes := #[] }
def k8m3 : Method := { name := "compress", desc := "([CI[BII)I", sig := { parameters := [(.array .char), .int, (.array .byte), .int, .int], returnType := some .int }, accessFlags := 9, code := some k8c3 }
/-- java/lang/StringUTF16 -/
def k8 : Class := { plain "java/lang/StringUTF16" (some 0) with
  accessFlags := 48
  interfaces := #[]
  cf := some (fileOf pool8 12 #[.nestMembers #[627, 629, 369]] #[{ accessFlags := 0, nameIndex := 9, descriptorIndex := 10, attributes := #[] }, { accessFlags := 8, nameIndex := 261, descriptorIndex := 262, attributes := #[] }, { accessFlags := 9, nameIndex := 117, descriptorIndex := 122, attributes := #[] }, { accessFlags := 9, nameIndex := 117, descriptorIndex := 118, attributes := #[] }] 48 6 #[] #[{ accessFlags := 26, nameIndex := 61, descriptorIndex := 62, attributes := #[] }, { accessFlags := 26, nameIndex := 65, descriptorIndex := 62, attributes := #[] }, { accessFlags := 24, nameIndex := 430, descriptorIndex := 62, attributes := #[] }, { accessFlags := 4120, nameIndex := 46, descriptorIndex := 47, attributes := #[] }])
  fields := #[{ name := "HI_BYTE_SHIFT", type := .int, accessFlags := 26, slot := 0, constantValue := 0 }, { name := "LO_BYTE_SHIFT", type := .int, accessFlags := 26, slot := 1, constantValue := 0 }, { name := "MAX_LENGTH", type := .int, accessFlags := 24, slot := 2, constantValue := 0 }, { name := "$assertionsDisabled", type := .boolean, accessFlags := 4120, slot := 3, constantValue := 0 }]
  methods := #[k8m0, k8m1, k8m2, k8m3]
  instanceTypes := #[]
  staticTypes := #[.int, .int, .int, .boolean]
  resolved := Array.replicate 635 none
  statics := none }

def pool9 : Array CpInfo := pool [(2, .class_ 4), (1, u "java/lang/Enum"), (0, u "name"), (0, u "Ljava/lang/String;"), (2, u "ordinal"), (0, u "I"), (1, .class_ 14), (1, u "java/lang/Object"), (4, u "hash"), (86, .class_ 108), (1, u "java/lang/Enum$EnumDesc"), (2, .class_ 112), (0, u "java/lang/constant/Constable"), (0, .class_ 114), (0, u "java/lang/Comparable"), (0, .class_ 116), (0, u "java/io/Serializable")] 87

/-- java/lang/Enum -/
def k9 : Class := { plain "java/lang/Enum" (some 0) with
  accessFlags := 1057
  interfaces := #[5, 3, 2]
  cf := some (fileOf pool9 2 #[.nestMembers #[106]] #[] 1057 12 #[111, 113, 115] #[{ accessFlags := 18, nameIndex := 5, descriptorIndex := 6, attributes := #[] }, { accessFlags := 18, nameIndex := 9, descriptorIndex := 10, attributes := #[] }, { accessFlags := 2, nameIndex := 19, descriptorIndex := 10, attributes := #[] }])
  fields := #[{ name := "name", type := (.object "java/lang/String"), accessFlags := 18, slot := 0, constantValue := 0 }, { name := "ordinal", type := .int, accessFlags := 18, slot := 1, constantValue := 0 }, { name := "hash", type := .int, accessFlags := 2, slot := 2, constantValue := 0 }]
  methods := #[]
  instanceTypes := #[(.object "java/lang/String"), .int, .int]
  staticTypes := #[]
  resolved := Array.replicate 204 none
  statics := none }

def pool10 : Array CpInfo := pool [(1, .class_ 2), (0, u "com/example/envelop/envelop/learn/Translation"), (2, u "TWO_OPERATOR"), (0, u "Lcom/example/envelop/envelop/learn/Translation;"), (2, u "THREE_OPERATOR"), (0, .fieldref 1 11), (0, .nameAndType 12 13), (0, u "$VALUES"), (0, u "[Lcom/example/envelop/envelop/learn/Translation;"), (0, .methodref 15 16), (0, .class_ 13), (0, .nameAndType 17 18), (0, u "clone"), (0, u "()Ljava/lang/Object;"), (1, .class_ 22), (1, u "java/lang/Enum"), (6, .fieldref 1 30), (0, .nameAndType 31 32), (0, u "text"), (0, u "Ljava/lang/String;"), (2, u "points"), (0, u "Ljava/util/List;"), (0, .methodref 1 38), (0, .nameAndType 39 40), (0, u "values"), (0, u "()[Lcom/example/envelop/envelop/learn/Translation;"), (0, .methodref 42 43), (0, .class_ 44), (0, .nameAndType 45 46), (0, u "java/lang/String"), (0, u "equals"), (0, u "(Ljava/lang/Object;)Z"), (32, .class_ 80), (0, u "com/example/envelop/envelop/learn/Translation$Running"), (220, u "()Ljava/lang/String;"), (67, u "toString"), (25, u "BY_START"), (0, u "Ljava/util/Comparator;"), (5, u "(Ljava/lang/String;)Lcom/example/envelop/envelop/learn/Translation;"), (2, u "named")] 69

def k10c0 : Code := { maxStack := 1, maxLocals := 0, code := prog_28_method_1_code, exceptionTable := #[], attributes := #[] }
def k10m0 : Method := { name := "values", desc := "()[Lcom/example/envelop/envelop/learn/Translation;", sig := { parameters := [], returnType := some (.array (.object "com/example/envelop/envelop/learn/Translation")) }, accessFlags := 9, code := some k10c0 }
def k10c1 : Code := { maxStack := 3, maxLocals := 5, code := prog_28_method_4_code, exceptionTable := #[], attributes := #[] }
def k10m1 : Method := { name := "named", desc := "(Ljava/lang/String;)Lcom/example/envelop/envelop/learn/Translation;", sig := { parameters := [(.object "java/lang/String")], returnType := some (.object "com/example/envelop/envelop/learn/Translation") }, accessFlags := 9, code := some k10c1 }
def k10c2 : Code := { maxStack := 1, maxLocals := 1, code := prog_28_method_6_code, exceptionTable := #[], attributes := #[] }
def k10m2 : Method := { name := "toString", desc := "()Ljava/lang/String;", sig := { parameters := [], returnType := some (.object "java/lang/String") }, accessFlags := 1, code := some k10c2 }
/-- com/example/envelop/envelop/learn/Translation -/
def k10 : Class := { plain "com/example/envelop/envelop/learn/Translation" (some 9) with
  accessFlags := 16433
  interfaces := #[]
  cf := some (fileOf pool10 1 #[.nestMembers #[79]] #[{ accessFlags := 9, nameIndex := 39, descriptorIndex := 40, attributes := #[] }, { accessFlags := 9, nameIndex := 405, descriptorIndex := 402, attributes := #[] }, { accessFlags := 1, nameIndex := 369, descriptorIndex := 301, attributes := #[] }] 16433 20 #[] #[{ accessFlags := 16409, nameIndex := 5, descriptorIndex := 6, attributes := #[] }, { accessFlags := 16409, nameIndex := 9, descriptorIndex := 6, attributes := #[] }, { accessFlags := 26, nameIndex := 395, descriptorIndex := 396, attributes := #[] }, { accessFlags := 18, nameIndex := 31, descriptorIndex := 32, attributes := #[] }, { accessFlags := 18, nameIndex := 35, descriptorIndex := 36, attributes := #[] }, { accessFlags := 4122, nameIndex := 12, descriptorIndex := 13, attributes := #[] }])
  fields := #[{ name := "TWO_OPERATOR", type := (.object "com/example/envelop/envelop/learn/Translation"), accessFlags := 16409, slot := 0, constantValue := 0 }, { name := "THREE_OPERATOR", type := (.object "com/example/envelop/envelop/learn/Translation"), accessFlags := 16409, slot := 1, constantValue := 0 }, { name := "BY_START", type := (.object "java/util/Comparator"), accessFlags := 26, slot := 2, constantValue := 0 }, { name := "text", type := (.object "java/lang/String"), accessFlags := 18, slot := 3, constantValue := 0 }, { name := "points", type := (.object "java/util/List"), accessFlags := 18, slot := 4, constantValue := 0 }, { name := "$VALUES", type := (.array (.object "com/example/envelop/envelop/learn/Translation")), accessFlags := 4122, slot := 3, constantValue := 0 }]
  methods := #[k10m0, k10m1, k10m2]
  instanceTypes := #[(.object "java/lang/String"), .int, .int, (.object "java/lang/String"), (.object "java/util/List")]
  staticTypes := #[(.object "com/example/envelop/envelop/learn/Translation"), (.object "com/example/envelop/envelop/learn/Translation"), (.object "java/util/Comparator"), (.array (.object "com/example/envelop/envelop/learn/Translation"))]
  resolved := Array.replicate 475 none
  statics := some 1 }

def pool11 : Array CpInfo := pool [(1, .class_ 2), (0, u "java/lang/Cloneable"), (0, .class_ 4), (0, u "java/lang/Object")] 2

/-- java/lang/Cloneable -/
def k11 : Class := { plain "java/lang/Cloneable" (some 0) with
  accessFlags := 1537
  interfaces := #[]
  cf := some (fileOf pool11 1 #[] #[] 1537 3 #[] #[])
  fields := #[]
  methods := #[]
  instanceTypes := #[]
  staticTypes := #[]
  resolved := Array.replicate 7 none
  statics := none }

def pool12 : Array CpInfo := pool [(4, .class_ 6), (1, u "java/lang/Object"), (0, u "<init>"), (0, u "()V"), (5, .class_ 16), (1, u "java/lang/StringLatin1"), (104, u "$assertionsDisabled"), (0, u "Z"), (98, .class_ 223), (1, u "java/lang/StringLatin1$LinesSpliterator"), (57, u "equals"), (0, u "([B[B)Z"), (107, .class_ 391), (0, u "java/lang/StringLatin1$CharsSpliterator")] 3

def k12m0 : Method := { name := "<init>", desc := "()V", sig := { parameters := [], returnType := none }, accessFlags := 0, code := none }
def k12c1 : Code := { maxStack := 3, maxLocals := 3, code := jdk_43_method_13_code, exceptionTable := #[], attributes := #[] }
def k12m1 : Method := { name := "equals", desc := "([B[B)Z", sig := { parameters := [(.array .byte), (.array .byte)], returnType := some .boolean }, accessFlags := 9, code := some k12c1 }
/-- java/lang/StringLatin1 -/
def k12 : Class := { plain "java/lang/StringLatin1" (some 0) with
  accessFlags := 48
  interfaces := #[]
  cf := some (fileOf pool12 14 #[.nestMembers #[390, 221]] #[{ accessFlags := 0, nameIndex := 7, descriptorIndex := 8, attributes := #[] }, { accessFlags := 9, nameIndex := 281, descriptorIndex := 282, attributes := #[] }] 48 4 #[] #[{ accessFlags := 4120, nameIndex := 121, descriptorIndex := 122, attributes := #[] }])
  fields := #[{ name := "$assertionsDisabled", type := .boolean, accessFlags := 4120, slot := 0, constantValue := 0 }]
  methods := #[k12m0, k12m1]
  instanceTypes := #[]
  staticTypes := #[.boolean]
  resolved := Array.replicate 395 none
  statics := none }

def pool13 : Array CpInfo := pool [(2, .class_ 4), (1, u "java/lang/Object"), (0, u "<init>"), (0, u "()V"), (17, .class_ 26), (1, u "jdk/internal/util/Preconditions"), (28, .class_ 56), (0, u "jdk/internal/util/Preconditions$4"), (57, .class_ 115), (0, u "jdk/internal/util/Preconditions$1"), (7, u "SIOOBE_FORMATTER"), (0, u "Ljava/util/function/BiFunction;"), (0, .class_ 126), (0, u "jdk/internal/util/Preconditions$2"), (3, u "AIOOBE_FORMATTER"), (0, .class_ 132), (0, u "jdk/internal/util/Preconditions$3"), (3, u "IOOBE_FORMATTER")] 57

def k13m0 : Method := { name := "<init>", desc := "()V", sig := { parameters := [], returnType := none }, accessFlags := 1, code := none }
/-- jdk/internal/util/Preconditions -/
def k13 : Class := { plain "jdk/internal/util/Preconditions" (some 0) with
  accessFlags := 33
  interfaces := #[]
  cf := some (fileOf pool13 24 #[.nestMembers #[55, 131, 125, 114]] #[{ accessFlags := 1, nameIndex := 5, descriptorIndex := 6, attributes := #[] }] 33 2 #[] #[{ accessFlags := 25, nameIndex := 123, descriptorIndex := 124, attributes := #[] }, { accessFlags := 25, nameIndex := 130, descriptorIndex := 124, attributes := #[] }, { accessFlags := 25, nameIndex := 136, descriptorIndex := 124, attributes := #[] }])
  fields := #[{ name := "SIOOBE_FORMATTER", type := (.object "java/util/function/BiFunction"), accessFlags := 25, slot := 0, constantValue := 0 }, { name := "AIOOBE_FORMATTER", type := (.object "java/util/function/BiFunction"), accessFlags := 25, slot := 1, constantValue := 0 }, { name := "IOOBE_FORMATTER", type := (.object "java/util/function/BiFunction"), accessFlags := 25, slot := 2, constantValue := 0 }]
  methods := #[k13m0]
  instanceTypes := #[]
  staticTypes := #[(.object "java/util/function/BiFunction"), (.object "java/util/function/BiFunction"), (.object "java/util/function/BiFunction")]
  resolved := Array.replicate 194 none
  statics := some 2 }

def pool14 : Array CpInfo := pool [(9, u "<init>"), (6, .class_ 18), (1, u "java/lang/Object"), (0, u "()V"), (1, .class_ 23), (1, u "jdk/internal/util/ArraysSupport"), (0, u "LOG2_ARRAY_LONG_INDEX_SCALE"), (0, u "I"), (2, u "U"), (0, u "Ljdk/internal/misc/Unsafe;"), (8, u "BIG_ENDIAN"), (0, u "Z"), (8, u "LOG2_BYTE_BIT_SIZE"), (4, u "LOG2_ARRAY_INT_INDEX_SCALE"), (54, u "JLA"), (0, u "Ljdk/internal/access/JavaLangAccess;"), (11, u "LOG2_ARRAY_BOOLEAN_INDEX_SCALE"), (9, u "LOG2_ARRAY_BYTE_INDEX_SCALE"), (5, u "LOG2_ARRAY_CHAR_INDEX_SCALE"), (5, u "LOG2_ARRAY_SHORT_INDEX_SCALE"), (18, u "LOG2_ARRAY_FLOAT_INDEX_SCALE"), (24, u "LOG2_ARRAY_DOUBLE_INDEX_SCALE"), (89, u "T_BOOLEAN"), (2, u "T_CHAR"), (1, u "T_FLOAT"), (1, u "T_DOUBLE"), (1, u "T_BYTE"), (1, u "T_SHORT"), (1, u "T_INT"), (1, u "T_LONG"), (1, u "SOFT_MAX_ARRAY_LENGTH")] 83

def k14m0 : Method := { name := "<init>", desc := "()V", sig := { parameters := [], returnType := none }, accessFlags := 2, code := none }
/-- jdk/internal/util/ArraysSupport -/
def k14 : Class := { plain "jdk/internal/util/ArraysSupport" (some 0) with
  accessFlags := 33
  interfaces := #[]
  cf := some (fileOf pool14 21 #[] #[{ accessFlags := 2, nameIndex := 9, descriptorIndex := 19, attributes := #[] }] 33 16 #[] #[{ accessFlags := 24, nameIndex := 28, descriptorIndex := 29, attributes := #[] }, { accessFlags := 26, nameIndex := 38, descriptorIndex := 39, attributes := #[] }, { accessFlags := 25, nameIndex := 121, descriptorIndex := 25, attributes := #[] }, { accessFlags := 25, nameIndex := 131, descriptorIndex := 25, attributes := #[] }, { accessFlags := 25, nameIndex := 137, descriptorIndex := 25, attributes := #[] }, { accessFlags := 25, nameIndex := 143, descriptorIndex := 25, attributes := #[] }, { accessFlags := 25, nameIndex := 53, descriptorIndex := 25, attributes := #[] }, { accessFlags := 25, nameIndex := 24, descriptorIndex := 25, attributes := #[] }, { accessFlags := 25, nameIndex := 162, descriptorIndex := 25, attributes := #[] }, { accessFlags := 25, nameIndex := 187, descriptorIndex := 25, attributes := #[] }, { accessFlags := 26, nameIndex := 48, descriptorIndex := 25, attributes := #[] }, { accessFlags := 25, nameIndex := 277, descriptorIndex := 25, attributes := #[] }, { accessFlags := 25, nameIndex := 280, descriptorIndex := 25, attributes := #[] }, { accessFlags := 25, nameIndex := 282, descriptorIndex := 25, attributes := #[] }, { accessFlags := 25, nameIndex := 284, descriptorIndex := 25, attributes := #[] }, { accessFlags := 25, nameIndex := 286, descriptorIndex := 25, attributes := #[] }, { accessFlags := 25, nameIndex := 288, descriptorIndex := 25, attributes := #[] }, { accessFlags := 25, nameIndex := 290, descriptorIndex := 25, attributes := #[] }, { accessFlags := 25, nameIndex := 292, descriptorIndex := 25, attributes := #[] }, { accessFlags := 26, nameIndex := 108, descriptorIndex := 109, attributes := #[] }, { accessFlags := 25, nameIndex := 294, descriptorIndex := 25, attributes := #[] }])
  fields := #[{ name := "U", type := (.object "jdk/internal/misc/Unsafe"), accessFlags := 24, slot := 0, constantValue := 0 }, { name := "BIG_ENDIAN", type := .boolean, accessFlags := 26, slot := 1, constantValue := 0 }, { name := "LOG2_ARRAY_BOOLEAN_INDEX_SCALE", type := .int, accessFlags := 25, slot := 2, constantValue := 0 }, { name := "LOG2_ARRAY_BYTE_INDEX_SCALE", type := .int, accessFlags := 25, slot := 3, constantValue := 0 }, { name := "LOG2_ARRAY_CHAR_INDEX_SCALE", type := .int, accessFlags := 25, slot := 4, constantValue := 0 }, { name := "LOG2_ARRAY_SHORT_INDEX_SCALE", type := .int, accessFlags := 25, slot := 5, constantValue := 0 }, { name := "LOG2_ARRAY_INT_INDEX_SCALE", type := .int, accessFlags := 25, slot := 6, constantValue := 0 }, { name := "LOG2_ARRAY_LONG_INDEX_SCALE", type := .int, accessFlags := 25, slot := 7, constantValue := 0 }, { name := "LOG2_ARRAY_FLOAT_INDEX_SCALE", type := .int, accessFlags := 25, slot := 8, constantValue := 0 }, { name := "LOG2_ARRAY_DOUBLE_INDEX_SCALE", type := .int, accessFlags := 25, slot := 9, constantValue := 0 }, { name := "LOG2_BYTE_BIT_SIZE", type := .int, accessFlags := 26, slot := 10, constantValue := 0 }, { name := "T_BOOLEAN", type := .int, accessFlags := 25, slot := 11, constantValue := 0 }, { name := "T_CHAR", type := .int, accessFlags := 25, slot := 12, constantValue := 0 }, { name := "T_FLOAT", type := .int, accessFlags := 25, slot := 13, constantValue := 0 }, { name := "T_DOUBLE", type := .int, accessFlags := 25, slot := 14, constantValue := 0 }, { name := "T_BYTE", type := .int, accessFlags := 25, slot := 15, constantValue := 0 }, { name := "T_SHORT", type := .int, accessFlags := 25, slot := 16, constantValue := 0 }, { name := "T_INT", type := .int, accessFlags := 25, slot := 17, constantValue := 0 }, { name := "T_LONG", type := .int, accessFlags := 25, slot := 18, constantValue := 0 }, { name := "JLA", type := (.object "jdk/internal/access/JavaLangAccess"), accessFlags := 26, slot := 19, constantValue := 0 }, { name := "SOFT_MAX_ARRAY_LENGTH", type := .int, accessFlags := 25, slot := 20, constantValue := 0 }]
  methods := #[k14m0]
  instanceTypes := #[]
  staticTypes := #[(.object "jdk/internal/misc/Unsafe"), .boolean, .int, .int, .int, .int, .int, .int, .int, .int, .int, .int, .int, .int, .int, .int, .int, .int, .int, (.object "jdk/internal/access/JavaLangAccess"), .int]
  resolved := Array.replicate 378 none
  statics := none }

/-- the primitive byte -/
def k15 : Class := { plain "byte" none with kind := .primitive 'B', accessFlags := 0x411 }
/-- [B -/
def k16 : Class := { plain "[B" (some 0) with kind := .array 15 .byte, interfaces := #[11, 2], accessFlags := 1041 }

/-- the primitive char -/
def k17 : Class := { plain "char" none with kind := .primitive 'C', accessFlags := 0x411 }
/-- [C -/
def k18 : Class := { plain "[C" (some 0) with kind := .array 17 .char, interfaces := #[11, 2], accessFlags := 1041 }

/-- the primitive int -/
def k19 : Class := { plain "int" none with kind := .primitive 'I', accessFlags := 0x411 }
/-- [I -/
def k20 : Class := { plain "[I" (some 0) with kind := .array 19 .int, interfaces := #[11, 2], accessFlags := 1041 }

/-- [Lcom/example/envelop/envelop/learn/Translation; -/
def k21 : Class := { plain "[Lcom/example/envelop/envelop/learn/Translation;" (some 0) with kind := .array 10 (.object "com/example/envelop/envelop/learn/Translation"), interfaces := #[11, 2], accessFlags := 1041 }

def heap : Heap := #[{ cls := 7, slots := #[.long 0, .int 1, .null, .int 0, .null, .int 0, .int 0], vm := .statics 7 },
  { cls := 10, slots := #[.ref 4, .ref 5, .null, .ref 3], vm := .statics 10 },
  { cls := 13, slots := #[.null, .null, .null], vm := .statics 13 },
  { cls := 21, slots := #[.ref 4, .ref 5], vm := .none },
  { cls := 10, slots := #[.null, .int 0, .int 0, .ref 6, .null], vm := .none },
  { cls := 10, slots := #[.null, .int 0, .int 0, .ref 8, .null], vm := .none },
  { cls := 7, slots := #[.ref 7, .int 0, .int 0, .int 0], vm := .none },
  { cls := 16, slots := #[.int 50, .int 111, .int 112], vm := .none },
  { cls := 7, slots := #[.ref 9, .int 0, .int 0, .int 0], vm := .none },
  { cls := 16, slots := #[.int 51, .int 111, .int 112], vm := .none }]
def classes : Array Class := #[k0, k1, k2, k3, k4, k5, k6, k7, k8, k9, k10, k11, k12, k13, k14, k15, k16, k17, k18, k19, k20, k21]
def interned : List (Array UInt16 × Addr) := []
def slotsUsed : Nat := 40
def theMethod : MethodId := ⟨1, 1⟩
def args0 : Array Value := #[.int 1]
def aboutOver (below : List Frame) : State where
  vm := { classes := classes, interned := interned.toArray }
  heap := heap
  slotsUsed := slotsUsed
  threads := #[{ frames := .invoking theMethod args0 :: below }]
def below0 : List Frame := [.native { method := ⟨0, 0⟩, args := #[] }]
def about1 : State := aboutOver below0
def p0 : Program := .bare "" "" ""
def e0 : Env := launch0.env 0 0 0
theorem w_frames : about1.frames = Frame.invoking theMethod args0 :: below0 := rfl
set_option maxRecDepth 65536 in
theorem w_args : argsFit about1.vm theMethod args0 = true := by decide +kernel
set_option maxRecDepth 65536 in
theorem w_heap : heapFits about1 = true := by decide +kernel
set_option maxRecDepth 65536 in
theorem w_runnable : about1.curStatus? = some .runnable := by decide +kernel
set_option maxRecDepth 65536 in
theorem w_alone : about1.alone = true := by decide +kernel
set_option maxRecDepth 65536 in
theorem w_named : about1.methodNamed? x = some theMethod := by decide +kernel
set_option maxRecDepth 65536 in
theorem w_hears : about1.hears theMethod below0 = true := by decide +kernel
set_option maxRecDepth 65536 in
theorem w_ripe : about1.ripe theMethod args0 below0 = true := by decide +kernel
theorem w_running : about1.status = .running := rfl
set_option maxRecDepth 65536 in
theorem w_room : about1.hasRoom e0.platform room_1 = true :=
  launch0.hasRoom_least _ room_1 (by decide +kernel) (by decide +kernel) (by decide +kernel) (by decide +kernel) (by decide +kernel) (by decide +kernel)
theorem allAtoms_all (ts : List Jvm.Cond) (a : Array Jvm.Value) (st : Jvm.State) : (allAtoms ts).before a st = ts.all (fun c => c.before a st) := by
  induction ts with
  | nil => rfl
  | cons c t ih =>
    show (Jvm.Cond.and c (allAtoms t)).before a st = _
    rw [Jvm.Cond.before_and, ih, List.all_cons]
def words1 : List Jvm.Cond := Jvm.Cond.code x code maxLocals ret :: tables_1
/-- a 'code' word, met by the world's own term for the bytes: nothing is compared byte by byte -/
theorem code_word {y : MethodName} {bytes : ByteArray} {mx : Nat} {rt : Option FieldType} {a : Array Value} {s : State} {m : MethodId} {meth : Method} {c : Code} (h1 : s.methodNamed? y = some m) (h2 : s.vm.method? m = some meth) (h3 : meth.code = some c) (h4 : c.code = bytes)
    (h5 : (c.maxLocals == mx && c.exceptionTable.isEmpty && decide (c.maxStack ≤ mostOperands) && decide (meth.sig.returnType = rt) && !meth.locks && decide (parseMethodDescriptor y.desc = some meth.sig)) = true) : (Jvm.Cond.code y bytes mx rt).before a s = true := by
  simp only [Bool.and_eq_true, beq_iff_eq, Bool.not_eq_true', decide_eq_true_eq] at h5
  obtain ⟨⟨⟨⟨⟨g1, g2⟩, g3⟩, g4⟩, g5⟩, g6⟩ := h5
  simp [Cond.before, Cond.holds, Cond.value, h1, h2, h3, h4, g1, g2, g3, g4, g5, g6]
def isCode : Jvm.Cond → Bool
  | .code _ _ _ _ => true
  | _ => false
theorem all_split {L : List Jvm.Cond} {P : Jvm.Cond → Bool} (h1 : L.all (fun c => isCode c || P c) = true) (h2 : ∀ c ∈ L.filter isCode, P c = true) : L.all P = true := by
  refine List.all_eq_true.mpr fun c hc => ?_
  have h := List.all_eq_true.mp h1 c hc
  rcases Bool.eq_false_or_eq_true (isCode c) with hi | hi
  · exact h2 c (List.mem_filter.mpr ⟨hc, hi⟩)
  · simpa [hi] using h
set_option maxRecDepth 65536 in
theorem w_c0 : (Jvm.Cond.code x code maxLocals ret).before args0 about1 = true := code_word (m := ⟨1, 1⟩) (meth := k1m1) (c := k1c1) (by decide +kernel) rfl rfl rfl (by decide +kernel)
set_option maxRecDepth 65536 in
theorem w_c1 : (Jvm.Cond.code ({ cls := "java/lang/String", name := "<init>", desc := "([C)V" } : Jvm.MethodName) jdk_42_method_3_code (2 : Nat) (Option.none : Option Jvm.ClassFile.FieldType)).before args0 about1 = true := code_word (m := ⟨7, 1⟩) (meth := k7m1) (c := k7c1) (by decide +kernel) rfl rfl rfl (by decide +kernel)
set_option maxRecDepth 65536 in
theorem w_c2 : (Jvm.Cond.code ({ cls := "java/lang/String", name := "<init>", desc := "([CIILjava/lang/Void;)V" } : Jvm.MethodName) jdk_42_method_149_code (6 : Nat) (Option.none : Option Jvm.ClassFile.FieldType)).before args0 about1 = true := code_word (m := ⟨7, 3⟩) (meth := k7m3) (c := k7c3) (by decide +kernel) rfl rfl rfl (by decide +kernel)
set_option maxRecDepth 65536 in
theorem w_c3 : (Jvm.Cond.code ({ cls := "java/lang/Object", name := "<init>", desc := "()V" } : Jvm.MethodName) object_method_1_code (1 : Nat) (Option.none : Option Jvm.ClassFile.FieldType)).before args0 about1 = true := code_word (m := ⟨0, 0⟩) (meth := k0m0) (c := k0c0) (by decide +kernel) rfl rfl rfl (by decide +kernel)
set_option maxRecDepth 65536 in
theorem w_c4 : (Jvm.Cond.code ({ cls := "java/lang/StringUTF16", name := "compress", desc := "([CII)[B" } : Jvm.MethodName) jdk_52_method_16_code (6 : Nat) (Option.some (Jvm.ClassFile.FieldType.array Jvm.ClassFile.FieldType.byte))).before args0 about1 = true := code_word (m := ⟨8, 2⟩) (meth := k8m2) (c := k8c2) (by decide +kernel) rfl rfl rfl (by decide +kernel)
set_option maxRecDepth 65536 in
theorem w_c5 : (Jvm.Cond.code ({ cls := "java/lang/StringUTF16", name := "compress", desc := "([CI[BII)I" } : Jvm.MethodName) jdk_52_method_21_code (7 : Nat) (Option.some Jvm.ClassFile.FieldType.int)).before args0 about1 = true := code_word (m := ⟨8, 3⟩) (meth := k8m3) (c := k8c3) (by decide +kernel) rfl rfl rfl (by decide +kernel)
set_option maxRecDepth 65536 in
theorem w_c6 : (Jvm.Cond.code ({ cls := "java/lang/StringUTF16", name := "coderFromArrayLen", desc := "([BI)B" } : Jvm.MethodName) jdk_52_method_15_code (2 : Nat) (Option.some Jvm.ClassFile.FieldType.byte)).before args0 about1 = true := code_word (m := ⟨8, 1⟩) (meth := k8m1) (c := k8c1) (by decide +kernel) rfl rfl rfl (by decide +kernel)
set_option maxRecDepth 65536 in
theorem w_c7 : (Jvm.Cond.code ({ cls := "com/example/envelop/envelop/learn/Translation", name := "named", desc := "(Ljava/lang/String;)Lcom/example/envelop/envelop/learn/Translation;" } : Jvm.MethodName) prog_28_method_4_code (5 : Nat) (Option.some (Jvm.ClassFile.FieldType.object "com/example/envelop/envelop/learn/Translation"))).before args0 about1 = true := code_word (m := ⟨10, 1⟩) (meth := k10m1) (c := k10c1) (by decide +kernel) rfl rfl rfl (by decide +kernel)
set_option maxRecDepth 65536 in
theorem w_c8 : (Jvm.Cond.code ({ cls := "com/example/envelop/envelop/learn/Translation", name := "values", desc := "()[Lcom/example/envelop/envelop/learn/Translation;" } : Jvm.MethodName) prog_28_method_1_code (0 : Nat) (Option.some (Jvm.ClassFile.FieldType.array (Jvm.ClassFile.FieldType.object "com/example/envelop/envelop/learn/Translation")))).before args0 about1 = true := code_word (m := ⟨10, 0⟩) (meth := k10m0) (c := k10c0) (by decide +kernel) rfl rfl rfl (by decide +kernel)
set_option maxRecDepth 65536 in
theorem w_c9 : (Jvm.Cond.code ({ cls := "java/lang/String", name := "equals", desc := "(Ljava/lang/Object;)Z" } : Jvm.MethodName) jdk_42_method_66_code (3 : Nat) (Option.some Jvm.ClassFile.FieldType.boolean)).before args0 about1 = true := code_word (m := ⟨7, 2⟩) (meth := k7m2) (c := k7c2) (by decide +kernel) rfl rfl rfl (by decide +kernel)
set_option maxRecDepth 65536 in
theorem w_c10 : (Jvm.Cond.code ({ cls := "java/lang/StringLatin1", name := "equals", desc := "([B[B)Z" } : Jvm.MethodName) jdk_43_method_13_code (3 : Nat) (Option.some Jvm.ClassFile.FieldType.boolean)).before args0 about1 = true := code_word (m := ⟨12, 1⟩) (meth := k12m1) (c := k12c1) (by decide +kernel) rfl rfl rfl (by decide +kernel)
set_option maxRecDepth 65536 in
theorem w_c11 : (Jvm.Cond.code ({ cls := "com/example/envelop/envelop/learn/Translation", name := "toString", desc := "()Ljava/lang/String;" } : Jvm.MethodName) prog_28_method_6_code (1 : Nat) (Option.some (Jvm.ClassFile.FieldType.object "java/lang/String"))).before args0 about1 = true := code_word (m := ⟨10, 2⟩) (meth := k10m2) (c := k10c2) (by decide +kernel) rfl rfl rfl (by decide +kernel)
def codes1 : List Jvm.Cond := [Jvm.Cond.code x code maxLocals ret, Jvm.Cond.code ({ cls := "java/lang/String", name := "<init>", desc := "([C)V" } : Jvm.MethodName) jdk_42_method_3_code (2 : Nat) (Option.none : Option Jvm.ClassFile.FieldType), Jvm.Cond.code ({ cls := "java/lang/String", name := "<init>", desc := "([CIILjava/lang/Void;)V" } : Jvm.MethodName) jdk_42_method_149_code (6 : Nat) (Option.none : Option Jvm.ClassFile.FieldType), Jvm.Cond.code ({ cls := "java/lang/Object", name := "<init>", desc := "()V" } : Jvm.MethodName) object_method_1_code (1 : Nat) (Option.none : Option Jvm.ClassFile.FieldType), Jvm.Cond.code ({ cls := "java/lang/StringUTF16", name := "compress", desc := "([CII)[B" } : Jvm.MethodName) jdk_52_method_16_code (6 : Nat) (Option.some (Jvm.ClassFile.FieldType.array Jvm.ClassFile.FieldType.byte)), Jvm.Cond.code ({ cls := "java/lang/StringUTF16", name := "compress", desc := "([CI[BII)I" } : Jvm.MethodName) jdk_52_method_21_code (7 : Nat) (Option.some Jvm.ClassFile.FieldType.int), Jvm.Cond.code ({ cls := "java/lang/StringUTF16", name := "coderFromArrayLen", desc := "([BI)B" } : Jvm.MethodName) jdk_52_method_15_code (2 : Nat) (Option.some Jvm.ClassFile.FieldType.byte), Jvm.Cond.code ({ cls := "com/example/envelop/envelop/learn/Translation", name := "named", desc := "(Ljava/lang/String;)Lcom/example/envelop/envelop/learn/Translation;" } : Jvm.MethodName) prog_28_method_4_code (5 : Nat) (Option.some (Jvm.ClassFile.FieldType.object "com/example/envelop/envelop/learn/Translation")), Jvm.Cond.code ({ cls := "com/example/envelop/envelop/learn/Translation", name := "values", desc := "()[Lcom/example/envelop/envelop/learn/Translation;" } : Jvm.MethodName) prog_28_method_1_code (0 : Nat) (Option.some (Jvm.ClassFile.FieldType.array (Jvm.ClassFile.FieldType.object "com/example/envelop/envelop/learn/Translation"))), Jvm.Cond.code ({ cls := "java/lang/String", name := "equals", desc := "(Ljava/lang/Object;)Z" } : Jvm.MethodName) jdk_42_method_66_code (3 : Nat) (Option.some Jvm.ClassFile.FieldType.boolean), Jvm.Cond.code ({ cls := "java/lang/StringLatin1", name := "equals", desc := "([B[B)Z" } : Jvm.MethodName) jdk_43_method_13_code (3 : Nat) (Option.some Jvm.ClassFile.FieldType.boolean), Jvm.Cond.code ({ cls := "com/example/envelop/envelop/learn/Translation", name := "toString", desc := "()Ljava/lang/String;" } : Jvm.MethodName) prog_28_method_6_code (1 : Nat) (Option.some (Jvm.ClassFile.FieldType.object "java/lang/String"))]
set_option maxRecDepth 65536 in
theorem codes_eq : words1.filter isCode = codes1 := rfl
theorem w_codes : ∀ c ∈ words1.filter isCode, c.before args0 about1 = true := by
  rw [codes_eq]
  intro c hc
  simp only [codes1, List.mem_cons, List.not_mem_nil, or_false] at hc
  rcases hc with rfl | rfl | rfl | rfl | rfl | rfl | rfl | rfl | rfl | rfl | rfl | rfl
  · exact w_c0
  · exact w_c1
  · exact w_c2
  · exact w_c3
  · exact w_c4
  · exact w_c5
  · exact w_c6
  · exact w_c7
  · exact w_c8
  · exact w_c9
  · exact w_c10
  · exact w_c11
set_option maxRecDepth 65536 in
theorem w_t1 : (words1.take 24).all (fun c => isCode c || c.before args0 about1) = true := by decide +kernel
set_option maxRecDepth 65536 in
theorem w_t2 : ((words1.drop 24).take 24).all (fun c => isCode c || c.before args0 about1) = true := by decide +kernel
set_option maxRecDepth 65536 in
theorem w_t3 : ((words1.drop 24).drop 24).all (fun c => isCode c || c.before args0 about1) = true := by decide +kernel
theorem w_tables : (allAtoms (Jvm.Cond.code x code maxLocals ret :: tables_1)).before args0 about1 = true := by
  rw [allAtoms_all]
  show words1.all (fun c => c.before args0 about1) = true
  refine all_split ?_ w_codes
  rw [← List.take_append_drop 24 words1, List.all_append, w_t1, ← List.take_append_drop 24 (words1.drop 24), List.all_append, w_t2, w_t3]
  rfl
set_option maxRecDepth 65536 in
theorem w_rest : rest_1_c.before args0 about1 = true := by decide +kernel
set_option maxRecDepth 65536 in
theorem w_case : (Jvm.Cond.and given_1 narrow_1).before args0 about1 = true := by decide +kernel
theorem w_applies : (headSpec (Jvm.Cond.code x code maxLocals ret :: tables_1) room_1).applies x e0.platform about1 = true :=
  (Spec.applies_iff w_frames).mpr ⟨w_running, w_runnable, w_alone, w_named, w_hears, w_ripe, w_room, w_tables⟩
theorem atStart : AtStart classFile x code maxLocals ret World_1 tables_1 room_1 Calls_1 rest_1 Pre_1 launch0 p0 e0 about1 theMethod args0 below0 :=
  ⟨lists_1, trivial, launch0.admits_env _ _ _, launch0.least_env, fairChoices_fair.cas, fairChoices_fair.clock, w_frames, w_args, w_heap, w_applies, trivial, w_rest, w_case⟩
end start1
theorem witness_1 : WitnessClaimed_1 := ⟨start1.p0, start1.e0, start1.about1, start1.theMethod, start1.args0, start1.below0, start1.atStart⟩
end Jvm.Pilot.@@N@@
