import JvmDerived
import JvmDerived.Pilot.@@N@@Statement
import JvmDerived.Pilot.@@N@@Code
set_option linter.unusedVariables false
set_option linter.unusedSimpArgs false
namespace Jvm.RoadKit
open Sem ClassFile Op Lib Jvm.Stand Jvm.Free Jvm.LawKit
section New
variable {p : Program} {l : Launch} {e : Env} {R : Room} {s : State} {m : MethodId} {args : Array Value} {below : List Frame} {meth : Method} {c : Code} {T : State} {locs : List Loc} {cells slots : Nat}
theorem retI (X : Stand p l e R s m args below meth c T locs cells slots) (hx : p.tables.exec = Jvm.exec) {pc : Nat} {Ls : Array Slot} {z : Int32} {rest : List Value} (hret : meth.sig.returnType = some .int) (hd : decode c.code pc = .ok (.ireturn, 1)) {fs : List Frame}
    (hl : ∀ (f : JFrame) (acts : List Action), f.method = m → f.locked = none → f.entered = [] → (doReturn e (T.setTop f) acts (some (.int z))).1 = T.setFrames fs) : Steps p.tables e below (T.setTop (mkF m pc Ls (.int z :: rest))) (T.setFrames fs) := by
  have hm' : T.vm.method? m = some meth := X.method'
  have hn : narrow .int (.int z) = .int z := rfl
  show Steps p.tables e below (T.setTop { method := m, pc := pc, locals := Ls, stack := _ :: rest, locked := none }) _
  jvm_step X.here [X.here.top, hx, hd, hm', hret, hn]
  first | (intro acts; rw [hl _ acts rfl rfl rfl]) | rw [hl _ _ rfl rfl rfl]
  exact Steps.refl _
theorem own_retA (X : Stand p l e R s m args below meth c T locs cells slots) (hx : p.tables.exec = Jvm.exec) {pc : Nat} {Ls : Array Slot} {z : Value} {ty : FieldType} {rest : List Value} (hret : meth.sig.returnType = some ty) (hty : ty.isReference = true) (hz : z.isRef = true) (hd : decode c.code pc = .ok (.areturn, 1)) {fs : List Frame}
    (hl : ∀ (f : JFrame) (acts : List Action), f.method = m → f.locked = none → f.entered = [] → (doReturn e (T.setTop f) acts (some z)).1 = T.setFrames fs) : Steps p.tables e below (T.setTop (mkF m pc Ls (z :: rest))) (T.setFrames fs) := by
  have hm' : T.vm.method? m = some meth := X.method'
  show Steps p.tables e below (T.setTop { method := m, pc := pc, locals := Ls, stack := _ :: rest, locked := none }) _
  jvm_step X.here [X.here.top, hx, hd, hm', hret, hz, hty]
  first | (intro acts; rw [hl _ acts rfl rfl rfl]) | rw [hl _ _ rfl rfl rfl]
  exact Steps.refl _
theorem own_lremM {g : JFrame} {target : State} (X : Stand p l e R s m args below meth c T locs cells slots) (hx : p.tables.exec = Jvm.exec) (hg : g.method = m) {x y : Int64} {rest : List Value} (hd : decode c.code g.pc = .ok (.lrem, 1)) (hs : g.stack = .long y :: .long x :: rest) (hy : y ≠ 0)
    (hr : Steps p.tables e below (T.setTop { g with pc := g.pc + 1, stack := .long (x % y) :: rest }) target) : Steps p.tables e below (T.setTop g) target :=
  XS.lrem X.here hx hg hd hs hy (by rw [lrem_mod]; exact hr)
end New
end Jvm.RoadKit
namespace Jvm.Pilot.@@N@@
open Jvm Jvm.ClassFile Sem Op Lib Jvm.Free Jvm.Stand Jvm.LawKit Jvm.RoadKit Bundle Jvm.Pilot.@@N@@.Jvm.D
theorem own_selP {Z s : State} {args a0 : Array Value} {y : MethodName} {n : Nat} (hZ : Z.Warmed39 s.vm) (wi : (Jvm.Cond.instantiable y.cls n).before a0 Z = true) (wp : (Jvm.Cond.privateMethod y).before a0 Z = true) (wm : (Jvm.Cond.instanceMethod y).before a0 Z = true) (hy : y.cls ≠ "java/lang/invoke/MethodHandle" ∧ y.cls ≠ "java/lang/invoke/VarHandle") : (Jvm.Cond.selects y.cls y y).before args s = true := by
  obtain ⟨c, k, h1, h2, -, h3, -⟩ := Cond.instantiable_spec (mv (args := args) hZ wi)
  exact Jvm.Stand.selects_self_of_private h1 h2 (by simp only [Bool.or_eq_false_iff] at h3; exact h3.1) (Cond.privateMethod_at (mvP hZ wp (args := args))) (mv hZ wm) hy
theorem own_fitC {Z : State} {h : Heap} {a : Addr} {cl : Cell} {ty : FieldType} {vs : List Value} {dv : Value} (A : Arr Z h a cl ty) (H : Has cl vs dv) (G : ∀ i, i < cl.slots.size → fits ty (vs.getD i dv) = true) : FitC Z cl := fun i v hv => by
  obtain ⟨hi, -⟩ := Array.getElem?_eq_some_iff.mp hv
  obtain ⟨hs, k, hk, comp, hkind⟩ := A.2.1
  have e : Z.slotType? cl.cls .none i = some ty := by simp [State.slotType?, hk, hkind]
  have q := G i hi
  have hv' : v = vs.getD i dv := Option.some.inj (hv.symm.trans (H i hi))
  rw [State.fitsSlot, e, hv']
  exact q
theorem own_ibW {Z s : State} {vm₁ : Vm} {Ts : List String} (I : IB Z s.vm Ts) (h : s.WarmedH vm₁) : IB Z vm₁ Ts := by
  obtain ⟨more, q1, q2⟩ := I
  exact ⟨more, by rw [h.interned_eq]; exact q1, q2⟩
theorem own_litS {Z s : State} {vm₁ : Vm} {own : String} {i : Nat} {a : Addr} (L : Lit s own i a) (h : s.Warmed39 vm₁) : Lit (Z.setVm vm₁) own i a := State.resolvedAt?_warmed39 (s := s) h L
theorem own_litW {Z s : State} {vm₁ : Vm} {own : String} {i : Nat} {a : Addr} (L : Lit s own i a) (h : s.WarmedH vm₁) : Lit (Z.setVm vm₁) own i a := own_litS L h.wide
theorem own_backOfV {p : Program} {l : Launch} {e : Env} {R : Room} {s : State} {args : Array Value} {below : List Frame} {Z : State} {a0 : Array Value} {h : Heap} {y : MethodName} {bytes : ByteArray} {maxL : Nat} {ret : Option FieldType} {rm : Room} {len W : Nat} {as' : Array Value} {VP : Vm → Prop} {Q : Option Value → Heap → Vm → List Loc → Prop}
    (hM : MetFree l y (head1 [Jvm.Cond.code y bytes maxL ret] rm) (fun a U => a = as' ∧ Z.Warmed39 U.vm ∧ U.heap = h ∧ VP U.vm) (fun _ _ _ _ _ => True) (fun _ U o U' => ∃ v L, o = .returned v ∧ Q v U'.heap U'.vm L ∧ ReturnedEndW U o U' L rm.cells rm.slots))
    (hZ : Z.Warmed39 s.vm) (wc : (Jvm.Cond.code y bytes maxL ret).before a0 Z = true) (wz : (Jvm.Cond.initialized y.cls).before a0 Z = true) (hf : rm.frames + 1 ≤ R.frames) (hl : W + (maxL + 11) + rm.locals ≤ R.locals) :
    BackS l R p e below s args y len W (fun A a => a = as' ∧ A.U.heap = h ∧ VP A.U.vm ∧ A.cells + rm.cells ≤ R.cells ∧ A.slots + rm.slots ≤ R.slots)
      (fun A _ v B => ∃ L, Q v B.U.heap B.U.vm L ∧ B.locs = A.locs ++ L ∧ B.cells = A.cells + rm.cells ∧ B.slots = A.slots + rm.slots) := by
  refine BackS.of_freeW (bytes := bytes) (maxL := maxL) (ret := ret) (E := fun _ _ o t L k n => k = rm.cells ∧ n = rm.slots ∧ ∃ v, o = .returned v ∧ Q v t.heap t.vm L) hM hf hl ?_ ?_ (fun _ _ _ _ _ _ _ _ _ => trivial) ?_ ?_
  · intro m meth c A a Y hp
    have hU : Z.Warmed39 A.U.vm := wtrans hZ Y.warmed
    refine ⟨?_, mv hU wc, mv hU wz, hp.2.2.2.1, hp.2.2.2.2⟩
    show (Jvm.Cond.and _ .tt).before a A.U = true
    rw [Cond.before_and, mv hU wc]
    rfl
  · intro m meth c A a g mk Y hp
    exact ⟨hp.1, wtrans hZ Y.warmed, hp.2.1, hp.2.2.1⟩
  · rintro _ _ _ _ ⟨v, L, h1, h2, h3⟩
    exact ⟨L, _, _, h3, rfl, rfl, v, h1, h2⟩
  · rintro m meth c A a g mk v t L k n Y hp _ _ ⟨e1, e2, v', e3, e4⟩
    cases e3
    subst e1 e2
    exact ⟨L, e4, rfl, rfl, rfl⟩
theorem own_n0 {Z : State} {n0 : Nat} {h : Heap} (X : Old Z n0 h) : n0 ≤ h.size := X.1 ▸ X.2.1
/-- the run comes from U to an end of which P says enough -/
def Go (p : Program) (e : Env) (below : List Frame) (P : Outcome → State → Prop) (U : State) : Prop := ∃ s₂ o, Steps p.tables e below U s₂ ∧ s₂.status = .running ∧ Ended s₂ below o ∧ P o s₂
theorem Go.st {p : Program} {e : Env} {below : List Frame} {P : Outcome → State → Prop} {U V : State} (k : ∀ t, Steps p.tables e below V t → Steps p.tables e below U t) (g : Go p e below P V) : Go p e below P U := by
  obtain ⟨a, b, h, r⟩ := g
  exact ⟨a, b, k _ h, r⟩
theorem Go.tr {p : Program} {e : Env} {below : List Frame} {P : Outcome → State → Prop} {U V : State} (k : Steps p.tables e below U V) (g : Go p e below P V) : Go p e below P U := by
  obtain ⟨a, b, h, r⟩ := g
  exact ⟨a, b, k.trans h, r⟩
theorem Go.start {p : Program} {e : Env} {below : List Frame} {P : Outcome → State → Prop} {U V : State} (k : ∀ {t}, Steps p.tables e below V t → Steps p.tables e below U t) (g : Go p e below P V) : ∃ s₂ o, Steps p.tables e below U s₂ ∧ s₂.status = .running ∧ Ended s₂ below o ∧ P o s₂ := by
  obtain ⟨a, b, h, r⟩ := g
  exact ⟨a, b, k h, r⟩
theorem own_valI {args : Array Value} {s : State} {t : Term} {k : Int32} (h : (Cond.eq t (.int k)).value args s none s [] = some true) : t.eval args s none [] s = some (.int k) := by
  obtain ⟨x, y, h1, h2, h3, -⟩ := cmp_v (Or.inl h)
  have e2 : y = .int k := (Option.some.inj h2).symm
  subst e2
  cases x <;> simp [Kin, Value.isRef] at h3
  simp only [Cond.value, h1, h2] at h
  simp at h
  rw [h1, h]
theorem own_valJ {args : Array Value} {s : State} {t : Term} {k : Int64} (h : (Cond.eq t (.long k)).value args s none s [] = some true) : t.eval args s none [] s = some (.long k) := by
  obtain ⟨x, y, h1, h2, h3, -⟩ := cmp_v (Or.inl h)
  have e2 : y = .long k := (Option.some.inj h2).symm
  subst e2
  cases x <;> simp [Kin, Value.isRef] at h3
  simp only [Cond.value, h1, h2] at h
  simp at h
  rw [h1, h]
theorem own_eqR {args : Array Value} {s : State} {t u : Term} {a : Addr} (ev : t.eval args s none [] s = some (.ref a)) (h : (Cond.eq t u).value args s none s [] = some true) : u.eval args s none [] s = some (.ref a) := by
  obtain ⟨x, y, h1, h2, h3, -⟩ := cmp_v (Or.inl h)
  cases h1.symm.trans ev
  have hy : y.isRef = true := h3.2
  have q := gotT (eq_R h1 h2 rfl hy) h
  rw [h2, ← q]
theorem own_eqL {args : Array Value} {s : State} {t u : Term} {a : Addr} (ev : u.eval args s none [] s = some (.ref a)) (h : (Cond.eq t u).value args s none s [] = some true) : t.eval args s none [] s = some (.ref a) := by
  obtain ⟨x, y, h1, h2, -, h4⟩ := cmp_v (Or.inl h)
  cases h2.symm.trans ev
  have hx : x.isRef = true := h4.2
  have q := gotT (eq_R h1 h2 hx rfl) h
  rw [h1, q]
theorem own_elI {Z : State} {args : Array Value} {t : Term} {a : Addr} {cl : Cell} {ty : FieldType} {i k : Int32} (A : Arr Z Z.heap a cl ty) (ev : t.eval args Z none [] Z = some (.ref a)) (h : (Cond.eq (.elem t (.int i)) (.int k)).value args Z none Z [] = some true) : cl.slots[i.toNatClampNeg]? = some (.int k) := (elem_in (own_valI h) ev rfl A.1).2
theorem own_elJ {Z : State} {args : Array Value} {t : Term} {a : Addr} {cl : Cell} {ty : FieldType} {i : Int32} {k : Int64} (A : Arr Z Z.heap a cl ty) (ev : t.eval args Z none [] Z = some (.ref a)) (h : (Cond.eq (.elem t (.int i)) (.long k)).value args Z none Z [] = some true) : cl.slots[i.toNatClampNeg]? = some (.long k) := (elem_in (own_valJ h) ev rfl A.1).2
theorem own_elR {Z : State} {args : Array Value} {t u : Term} {a b : Addr} {cl : Cell} {ty : FieldType} {i : Int32} (A : Arr Z Z.heap a cl ty) (ev : t.eval args Z none [] Z = some (.ref a)) (eu : u.eval args Z none [] Z = some (.ref b)) (h : (Cond.eq (.elem t (.int i)) u).value args Z none Z [] = some true) : cl.slots[i.toNatClampNeg]? = some (.ref b) := (elem_in (own_eqL eu h) ev rfl A.1).2
theorem own_arv {Z : State} {args : Array Value} {t : Term} {a : Addr} {cl : Cell} {ty : FieldType} {z : Int32} {vs : List Value} {dv : Value} (hf : Fit Z) (A : Arr Z Z.heap a cl ty) (ev : t.eval args Z none [] Z = some (.ref a)) (h : (Cond.eq (.length t) (.int z)).value args Z none Z [] = some true) (hz : ¬ z < 0) (hl : z.toNatClampNeg = vs.length) (H : HasL cl 0 vs) : Arv Z Z.heap a cl.cls ty z vs dv := by
  have hv := own_valI h
  have hA : Z.arrayAt? a = some cl := A.fin (Vm.Alike.refl _)
  have q : cl.slots.size < 2 ^ 31 := by
    simp only [Term.eval, ev, hA] at hv
    by_cases hq : cl.slots.size < 2 ^ 31
    · exact hq
    · simp [hA, hq] at hv
  have e : cl.slots.size.toInt32 = z := by
    have := len_f (args := args) (first := Z) (o := none) (idx := []) ev hA q
    rw [this] at hv
    exact Value.int.inj (Option.some.inj hv)
  exact Arv.start hf A q e hz hl H
theorem own_neI {args : Array Value} {s : State} {t : Term} {x k : Int32} (ev : t.eval args s none [] s = some (.int x)) (h : (Cond.not (Cond.eq t (.int k))).value args s none s [] = some true) : ¬ (x = k) := by
  have h' := not_v h
  intro e
  subst e
  simp [Cond.value, ev, Term.eval] at h'
theorem own_b32 (x : Int32) : -2147483648 ≤ x.toInt ∧ x.toInt < 2147483648 := ⟨Int32.le_toInt x, Int32.toInt_lt x⟩
theorem own_b64 (x : Int64) : -9223372036854775808 ≤ x.toInt ∧ x.toInt < 9223372036854775808 := ⟨Int64.le_toInt x, Int64.toInt_lt x⟩
theorem own_nlt32 {x y : Int32} (h : ¬ x < y) : ¬ x.toInt < y.toInt := fun q => h (Int32.lt_iff_toInt_lt.mpr q)
theorem own_nlt64 {x y : Int64} (h : ¬ x < y) : ¬ x.toInt < y.toInt := fun q => h (Int64.lt_iff_toInt_lt.mpr q)
theorem own_neq32 {x y : Int32} (h : ¬ x = y) : ¬ x.toInt = y.toInt := fun q => h (Int32.toInt_inj.mp q)
theorem own_neq64 {x y : Int64} (h : ¬ x = y) : ¬ x.toInt = y.toInt := fun q => h (Int64.toInt_inj.mp q)
theorem own_mask32 (x m : Int32) (k : Nat) (P : Int) (hk : k ≤ 31) (hm : m.toBitVec.toNat = 2 ^ k - 1) (hP : P = (2 ^ k : Nat)) : (x &&& m).toInt = x.toInt % P := by rw [hP]; exact c_mask x m k hk hm
theorem own_mask64 (x m : Int64) (k : Nat) (P : Int) (hk : k ≤ 63) (hm : m.toBitVec.toNat = 2 ^ k - 1) (hP : P = (2 ^ k : Nat)) : (x &&& m).toInt = x.toInt % P := by rw [hP]; exact c_maskL x m k hk hm
theorem own_rem32 (x y : Int32) (d : Int) (hy : y.toInt = d) : (0 ≤ x.toInt → (x % y).toInt = x.toInt % d) ∧ (x.toInt < 0 → (x % y).toInt = -((-x.toInt) % d)) := c_irem x y d hy
theorem own_rem64 (x y : Int64) (d : Int) (hy : y.toInt = d) : (0 ≤ x.toInt → (x % y).toInt = x.toInt % d) ∧ (x.toInt < 0 → (x % y).toInt = -((-x.toInt) % d)) := by rw [Int64.toInt_mod, hy]; exact tr _ _
theorem own_iushr0 (x q : Int32) (hk : q.toBitVec.toNat % 32 = 0) : ((x.toUInt32 >>> (q &&& 31).toUInt32).toInt32).toInt = x.toInt := by
  have e : q &&& 31 = 0 := by
    apply Int32.toBitVec_inj.mp
    apply BitVec.eq_of_toNat_eq
    rw [Int32.toBitVec_and, BitVec.toNat_and]
    show q.toBitVec.toNat &&& 31 = 0
    rw [show (31 : Nat) = 2 ^ 5 - 1 from rfl, Nat.and_two_pow_sub_one_eq_mod]
    exact hk
  rw [e, show (0 : Int32).toUInt32 = 0 from by decide]
  simp
theorem own_lushr0 (x : Int64) (q : Int32) (hk : q.toBitVec.toNat % 64 = 0) : ((x.toUInt64 >>> (q &&& 0x3f).toInt64.toUInt64).toInt64).toInt = x.toInt := by
  have e : q &&& 0x3f = 0 := by
    apply Int32.toBitVec_inj.mp
    apply BitVec.eq_of_toNat_eq
    rw [Int32.toBitVec_and, BitVec.toNat_and]
    show q.toBitVec.toNat &&& 63 = 0
    rw [show (63 : Nat) = 2 ^ 6 - 1 from rfl, Nat.and_two_pow_sub_one_eq_mod]
    exact hk
  rw [e, show (0 : Int32).toInt64.toUInt64 = 0 from by decide]
  simp
theorem own_ishr (x q : Int32) (k : Nat) (P : Int) (hk : q.toBitVec.toNat % 32 = k) (hP : P = (2 ^ k : Nat)) : (x >>> (q &&& 31)).toInt = x.toInt / P := by rw [hP]; exact c_ishr x q k hk
theorem own_ishl (x q : Int32) (k : Nat) (P : Int) (hk : q.toBitVec.toNat % 32 = k) (hP : P = (2 ^ k : Nat)) : ((x <<< (q &&& 31)).toInt - x.toInt * P) % 4294967296 = 0 := by rw [hP]; exact c_ishl x q k hk
theorem own_iushr (x q : Int32) (k : Nat) (P : Int) (hk : q.toBitVec.toNat % 32 = k) (hP : P = (2 ^ k : Nat)) (h0 : 0 < k) : ((x.toUInt32 >>> (q &&& 31).toUInt32).toInt32).toInt = (x.toInt % 4294967296) / P := by rw [hP]; exact c_iushr x q k hk h0
theorem own_lshr (x : Int64) (q : Int32) (k : Nat) (P : Int) (hk : q.toBitVec.toNat % 64 = k) (hP : P = (2 ^ k : Nat)) : (x >>> (q &&& 0x3f).toInt64).toInt = x.toInt / P := by rw [hP]; exact c_lshr x q k hk
theorem own_lshl (x : Int64) (q : Int32) (k : Nat) (P : Int) (hk : q.toBitVec.toNat % 64 = k) (hP : P = (2 ^ k : Nat)) : ((x <<< (q &&& 0x3f).toInt64).toInt - x.toInt * P) % 18446744073709551616 = 0 := by rw [hP]; exact c_lshl x q k hk
theorem own_lushr (x : Int64) (q : Int32) (k : Nat) (P : Int) (hk : q.toBitVec.toNat % 64 = k) (hP : P = (2 ^ k : Nat)) (h0 : 0 < k) : ((x.toUInt64 >>> (q &&& 0x3f).toInt64.toUInt64).toInt64).toInt = (x.toInt % 18446744073709551616) / P := by rw [hP]; exact c_lushr x q k hk h0
theorem own_addOk64 {x y : Int64} (h : Jvm.Free.XT.fits64 (x.toInt + y.toInt)) : ¬ (((x + y) ^^^ x) &&& ((x + y) ^^^ y)) < 0 := by
  have q := Jvm.Free.XT.addOk64 h
  rw [Int64.xor_comm (x + y) x, Int64.xor_comm (x + y) y]
  exact q
theorem own_c32 (x : Int32) : (-2147483648 : Int) ≤ x.toInt ∧ x.toInt ≤ 2147483648 - 1 := by have := own_b32 x; omega
theorem own_ltT32 {x y : Int32} {a b c d : Int} (hx : a ≤ x.toInt ∧ x.toInt ≤ b) (hy : c ≤ y.toInt ∧ y.toInt ≤ d) (h : b < c) : x < y := by rw [Int32.lt_iff_toInt_lt]; omega
theorem own_ltF32 {x y : Int32} {a b c d : Int} (hx : a ≤ x.toInt ∧ x.toInt ≤ b) (hy : c ≤ y.toInt ∧ y.toInt ≤ d) (h : d ≤ a) : ¬ x < y := by rw [Int32.lt_iff_toInt_lt]; omega
theorem own_neT32 {x y : Int32} {a b c d : Int} (hx : a ≤ x.toInt ∧ x.toInt ≤ b) (hy : c ≤ y.toInt ∧ y.toInt ≤ d) (h : b < c ∨ d < a) : ¬ x = y := by rw [← Int32.toInt_inj]; omega
theorem own_addE32 {x y : Int32} {a b c d : Int} (hx : a ≤ x.toInt ∧ x.toInt ≤ b) (hy : c ≤ y.toInt ∧ y.toInt ≤ d) (h : -2147483648 ≤ a + c ∧ b + d < 2147483648) : (x + y).toInt = x.toInt + y.toInt ∧ a + c ≤ (x + y).toInt ∧ (x + y).toInt ≤ b + d := by
  have h1 := c_iadd x y
  have h2 := own_b32 (x + y)
  have h3 : (x + y).toInt = x.toInt + y.toInt := by omega
  omega
theorem own_subE32 {x y : Int32} {a b c d : Int} (hx : a ≤ x.toInt ∧ x.toInt ≤ b) (hy : c ≤ y.toInt ∧ y.toInt ≤ d) (h : -2147483648 ≤ a - d ∧ b - c < 2147483648) : (x - y).toInt = x.toInt - y.toInt ∧ a - d ≤ (x - y).toInt ∧ (x - y).toInt ≤ b - c := by
  have h1 := c_isub x y
  have h2 := own_b32 (x - y)
  have h3 : (x - y).toInt = x.toInt - y.toInt := by omega
  omega
theorem own_mulE32 {x y : Int32} {a b k : Int} (hx : a ≤ x.toInt ∧ x.toInt ≤ b) (hy : y.toInt = k) (hk : 0 ≤ k) (h : -2147483648 ≤ a * k ∧ b * k < 2147483648) : (x * y).toInt = x.toInt * k ∧ a * k ≤ (x * y).toInt ∧ (x * y).toInt ≤ b * k := by
  have h1 := c_imul x y
  have h2 := own_b32 (x * y)
  have h4 : a * k ≤ x.toInt * k := Int.mul_le_mul_of_nonneg_right hx.1 hk
  have h5 : x.toInt * k ≤ b * k := Int.mul_le_mul_of_nonneg_right hx.2 hk
  rw [hy] at h1
  generalize x.toInt * k = m at h1 h4 h5 ⊢
  generalize a * k = u at h h4 ⊢
  generalize b * k = v at h h5 ⊢
  have h3 : (x * y).toInt = m := by omega
  omega
theorem own_mulE'32 {x y : Int32} {a b k : Int} (hx : a ≤ x.toInt ∧ x.toInt ≤ b) (hy : y.toInt = k) (hk : 0 ≤ k) (h : -2147483648 ≤ a * k ∧ b * k < 2147483648) : (y * x).toInt = x.toInt * k ∧ a * k ≤ (y * x).toInt ∧ (y * x).toInt ≤ b * k := by
  rw [Int32.mul_comm]
  exact own_mulE32 hx hy hk h
theorem own_negE32 {x : Int32} {a b : Int} (hx : a ≤ x.toInt ∧ x.toInt ≤ b) (h : -2147483648 < a) : (-x).toInt = -x.toInt ∧ -b ≤ (-x).toInt ∧ (-x).toInt ≤ -a := by
  have h1 := c_ineg x
  have h2 := own_b32 (-x)
  have h4 := own_b32 x
  have h3 : (-x).toInt = -x.toInt := by omega
  omega
theorem own_maskE32 (x m : Int32) (k : Nat) (P : Int) (hk : k ≤ 31) (hm : m.toBitVec.toNat = 2 ^ k - 1) (hP : P = (2 ^ k : Nat)) (h0 : 0 < P) : (x &&& m).toInt = x.toInt % P ∧ 0 ≤ (x &&& m).toInt ∧ (x &&& m).toInt ≤ P - 1 := by
  have h1 := own_mask32 x m k P hk hm hP
  have h2 := Int.emod_nonneg x.toInt (Int.ne_of_gt h0)
  have h3 := Int.emod_lt_of_pos x.toInt h0
  omega
theorem own_maskE'32 (m x : Int32) (k : Nat) (P : Int) (hk : k ≤ 31) (hm : m.toBitVec.toNat = 2 ^ k - 1) (hP : P = (2 ^ k : Nat)) (h0 : 0 < P) : (m &&& x).toInt = x.toInt % P ∧ 0 ≤ (m &&& x).toInt ∧ (m &&& x).toInt ≤ P - 1 := by
  rw [Int32.and_comm]
  exact own_maskE32 x m k P hk hm hP h0
theorem own_maskX32 {x m : Int32} (k : Nat) {P a b : Int} (hx : a ≤ x.toInt ∧ x.toInt ≤ b) (hk : k ≤ 31) (hm : m.toBitVec.toNat = 2 ^ k - 1) (hP : P = (2 ^ k : Nat)) (h : 0 ≤ a ∧ b < P) : (x &&& m).toInt = x.toInt ∧ a ≤ (x &&& m).toInt ∧ (x &&& m).toInt ≤ b := by
  have h1 := own_mask32 x m k P hk hm hP
  have h2 : x.toInt % P = x.toInt := Int.emod_eq_of_lt (by omega) (by omega)
  omega
theorem own_maskX'32 {m x : Int32} (k : Nat) {P a b : Int} (hx : a ≤ x.toInt ∧ x.toInt ≤ b) (hk : k ≤ 31) (hm : m.toBitVec.toNat = 2 ^ k - 1) (hP : P = (2 ^ k : Nat)) (h : 0 ≤ a ∧ b < P) : (m &&& x).toInt = x.toInt ∧ a ≤ (m &&& x).toInt ∧ (m &&& x).toInt ≤ b := by
  rw [Int32.and_comm]
  exact own_maskX32 k hx hk hm hP h
theorem own_remE32 {x y : Int32} {a b d : Int} (hx : a ≤ x.toInt ∧ x.toInt ≤ b) (hy : y.toInt = d) (hd : 0 < d) (h : 0 ≤ a) : (x % y).toInt = x.toInt % d ∧ 0 ≤ (x % y).toInt ∧ (x % y).toInt ≤ d - 1 := by
  have h1 := (own_rem32 x y d hy).1 (by omega)
  have h2 := Int.emod_nonneg x.toInt (Int.ne_of_gt hd)
  have h3 := Int.emod_lt_of_pos x.toInt hd
  omega
theorem own_c64 (x : Int64) : (-9223372036854775808 : Int) ≤ x.toInt ∧ x.toInt ≤ 9223372036854775808 - 1 := by have := own_b64 x; omega
theorem own_ltT64 {x y : Int64} {a b c d : Int} (hx : a ≤ x.toInt ∧ x.toInt ≤ b) (hy : c ≤ y.toInt ∧ y.toInt ≤ d) (h : b < c) : x < y := by rw [Int64.lt_iff_toInt_lt]; omega
theorem own_ltF64 {x y : Int64} {a b c d : Int} (hx : a ≤ x.toInt ∧ x.toInt ≤ b) (hy : c ≤ y.toInt ∧ y.toInt ≤ d) (h : d ≤ a) : ¬ x < y := by rw [Int64.lt_iff_toInt_lt]; omega
theorem own_neT64 {x y : Int64} {a b c d : Int} (hx : a ≤ x.toInt ∧ x.toInt ≤ b) (hy : c ≤ y.toInt ∧ y.toInt ≤ d) (h : b < c ∨ d < a) : ¬ x = y := by rw [← Int64.toInt_inj]; omega
theorem own_addE64 {x y : Int64} {a b c d : Int} (hx : a ≤ x.toInt ∧ x.toInt ≤ b) (hy : c ≤ y.toInt ∧ y.toInt ≤ d) (h : -9223372036854775808 ≤ a + c ∧ b + d < 9223372036854775808) : (x + y).toInt = x.toInt + y.toInt ∧ a + c ≤ (x + y).toInt ∧ (x + y).toInt ≤ b + d := by
  have h1 := c_ladd x y
  have h2 := own_b64 (x + y)
  have h3 : (x + y).toInt = x.toInt + y.toInt := by omega
  omega
theorem own_subE64 {x y : Int64} {a b c d : Int} (hx : a ≤ x.toInt ∧ x.toInt ≤ b) (hy : c ≤ y.toInt ∧ y.toInt ≤ d) (h : -9223372036854775808 ≤ a - d ∧ b - c < 9223372036854775808) : (x - y).toInt = x.toInt - y.toInt ∧ a - d ≤ (x - y).toInt ∧ (x - y).toInt ≤ b - c := by
  have h1 := c_lsub x y
  have h2 := own_b64 (x - y)
  have h3 : (x - y).toInt = x.toInt - y.toInt := by omega
  omega
theorem own_mulE64 {x y : Int64} {a b k : Int} (hx : a ≤ x.toInt ∧ x.toInt ≤ b) (hy : y.toInt = k) (hk : 0 ≤ k) (h : -9223372036854775808 ≤ a * k ∧ b * k < 9223372036854775808) : (x * y).toInt = x.toInt * k ∧ a * k ≤ (x * y).toInt ∧ (x * y).toInt ≤ b * k := by
  have h1 := c_lmul x y
  have h2 := own_b64 (x * y)
  have h4 : a * k ≤ x.toInt * k := Int.mul_le_mul_of_nonneg_right hx.1 hk
  have h5 : x.toInt * k ≤ b * k := Int.mul_le_mul_of_nonneg_right hx.2 hk
  rw [hy] at h1
  generalize x.toInt * k = m at h1 h4 h5 ⊢
  generalize a * k = u at h h4 ⊢
  generalize b * k = v at h h5 ⊢
  have h3 : (x * y).toInt = m := by omega
  omega
theorem own_mulE'64 {x y : Int64} {a b k : Int} (hx : a ≤ x.toInt ∧ x.toInt ≤ b) (hy : y.toInt = k) (hk : 0 ≤ k) (h : -9223372036854775808 ≤ a * k ∧ b * k < 9223372036854775808) : (y * x).toInt = x.toInt * k ∧ a * k ≤ (y * x).toInt ∧ (y * x).toInt ≤ b * k := by
  rw [Int64.mul_comm]
  exact own_mulE64 hx hy hk h
theorem own_negE64 {x : Int64} {a b : Int} (hx : a ≤ x.toInt ∧ x.toInt ≤ b) (h : -9223372036854775808 < a) : (-x).toInt = -x.toInt ∧ -b ≤ (-x).toInt ∧ (-x).toInt ≤ -a := by
  have h1 := c_lneg x
  have h2 := own_b64 (-x)
  have h4 := own_b64 x
  have h3 : (-x).toInt = -x.toInt := by omega
  omega
theorem own_maskE64 (x m : Int64) (k : Nat) (P : Int) (hk : k ≤ 63) (hm : m.toBitVec.toNat = 2 ^ k - 1) (hP : P = (2 ^ k : Nat)) (h0 : 0 < P) : (x &&& m).toInt = x.toInt % P ∧ 0 ≤ (x &&& m).toInt ∧ (x &&& m).toInt ≤ P - 1 := by
  have h1 := own_mask64 x m k P hk hm hP
  have h2 := Int.emod_nonneg x.toInt (Int.ne_of_gt h0)
  have h3 := Int.emod_lt_of_pos x.toInt h0
  omega
theorem own_maskE'64 (m x : Int64) (k : Nat) (P : Int) (hk : k ≤ 63) (hm : m.toBitVec.toNat = 2 ^ k - 1) (hP : P = (2 ^ k : Nat)) (h0 : 0 < P) : (m &&& x).toInt = x.toInt % P ∧ 0 ≤ (m &&& x).toInt ∧ (m &&& x).toInt ≤ P - 1 := by
  rw [Int64.and_comm]
  exact own_maskE64 x m k P hk hm hP h0
theorem own_maskX64 {x m : Int64} (k : Nat) {P a b : Int} (hx : a ≤ x.toInt ∧ x.toInt ≤ b) (hk : k ≤ 63) (hm : m.toBitVec.toNat = 2 ^ k - 1) (hP : P = (2 ^ k : Nat)) (h : 0 ≤ a ∧ b < P) : (x &&& m).toInt = x.toInt ∧ a ≤ (x &&& m).toInt ∧ (x &&& m).toInt ≤ b := by
  have h1 := own_mask64 x m k P hk hm hP
  have h2 : x.toInt % P = x.toInt := Int.emod_eq_of_lt (by omega) (by omega)
  omega
theorem own_maskX'64 {m x : Int64} (k : Nat) {P a b : Int} (hx : a ≤ x.toInt ∧ x.toInt ≤ b) (hk : k ≤ 63) (hm : m.toBitVec.toNat = 2 ^ k - 1) (hP : P = (2 ^ k : Nat)) (h : 0 ≤ a ∧ b < P) : (m &&& x).toInt = x.toInt ∧ a ≤ (m &&& x).toInt ∧ (m &&& x).toInt ≤ b := by
  rw [Int64.and_comm]
  exact own_maskX64 k hx hk hm hP h
theorem own_remE64 {x y : Int64} {a b d : Int} (hx : a ≤ x.toInt ∧ x.toInt ≤ b) (hy : y.toInt = d) (hd : 0 < d) (h : 0 ≤ a) : (x % y).toInt = x.toInt % d ∧ 0 ≤ (x % y).toInt ∧ (x % y).toInt ≤ d - 1 := by
  have h1 := (own_rem64 x y d hy).1 (by omega)
  have h2 := Int.emod_nonneg x.toInt (Int.ne_of_gt hd)
  have h3 := Int.emod_lt_of_pos x.toInt hd
  omega
theorem own_i2lE {x : Int32} {a b : Int} (hx : a ≤ x.toInt ∧ x.toInt ≤ b) : x.toInt64.toInt = x.toInt ∧ a ≤ x.toInt64.toInt ∧ x.toInt64.toInt ≤ b := by have := c_i2l x; omega
theorem own_l2iE {x : Int64} {a b : Int} (hx : a ≤ x.toInt ∧ x.toInt ≤ b) (h : -2147483648 ≤ a ∧ b < 2147483648) : x.toInt32.toInt = x.toInt ∧ a ≤ x.toInt32.toInt ∧ x.toInt32.toInt ≤ b := by
  have h1 := c_l2i x
  have h2 := own_b32 x.toInt32
  have h3 : x.toInt32.toInt = x.toInt := by omega
  omega
theorem own_i2cE {x : Int32} {a b : Int} (hx : a ≤ x.toInt ∧ x.toInt ≤ b) (h : 0 ≤ a ∧ b < 65536) : x.toUInt32.toUInt16.toUInt32.toInt32.toInt = x.toInt ∧ a ≤ x.toUInt32.toUInt16.toUInt32.toInt32.toInt ∧ x.toUInt32.toUInt16.toUInt32.toInt32.toInt ≤ b := by
  have h1 := c_i2c x
  have h3 : x.toUInt32.toUInt16.toUInt32.toInt32.toInt = x.toInt := by omega
  omega
theorem own_i2bE {x : Int32} {a b : Int} (hx : a ≤ x.toInt ∧ x.toInt ≤ b) (h : -128 ≤ a ∧ b < 128) : x.toInt8.toInt32.toInt = x.toInt ∧ a ≤ x.toInt8.toInt32.toInt ∧ x.toInt8.toInt32.toInt ≤ b := by
  have h1 := c_i2b x
  have h3 : x.toInt8.toInt32.toInt = x.toInt := by omega
  omega
theorem own_i2sE {x : Int32} {a b : Int} (hx : a ≤ x.toInt ∧ x.toInt ≤ b) (h : -32768 ≤ a ∧ b < 32768) : x.toInt16.toInt32.toInt = x.toInt ∧ a ≤ x.toInt16.toInt32.toInt ∧ x.toInt16.toInt32.toInt ≤ b := by
  have h1 := c_i2s x
  have h3 : x.toInt16.toInt32.toInt = x.toInt := by omega
  omega
def own_LT (Z : State) (h : Heap) (vm : Vm) : Prop := IB Z vm [] ∨ ∃ (a b : Addr) (k : ClassId), Lit (Z.setVm vm) "java/lang/String" 7 a ∧ Exa Z h a "java/lang/String" ∧ Fld Z h a "java/lang/String" "coder" "B" (.int (0 : Int32)) ∧ Fld Z h a "java/lang/String" "value" "[B" (.ref b) ∧ Arv Z h b k .byte (0 : Int32) [] (.int (0 : Int32))
theorem own_ltW {Z s : State} {h : Heap} {vm₁ : Vm} (L : own_LT Z h s.vm) (hw : s.WarmedH vm₁) : own_LT Z h vm₁ := by
  rcases L with I | ⟨a, b, k, l, r⟩
  · exact Or.inl (own_ibW I hw)
  · exact Or.inr ⟨a, b, k, own_litW (s := Z.setVm s.vm) l hw, r⟩
theorem own_ltK {Z s : State} {h h' : Heap} {vm₁ : Vm} (L : own_LT Z h s.vm) (hw : s.WarmedH vm₁) (K : Keep h h' []) : own_LT Z h' vm₁ := by
  rcases own_ltW L hw with I | ⟨a, b, k, l, r1, r2, r3, r4⟩
  · exact Or.inl I
  · exact Or.inr ⟨a, b, k, l, r1.keep K, r2.keep K nin0, r3.keep K nin0, r4.keep K nin0⟩

theorem w0 {Z : State} {a0 : Array Value} (hw : ∀ d ∈ tables_1, d.before a0 Z = true) : (Jvm.Cond.methodLink "com/example/cropmark/cropmark/RowProblemsPinLaw" (16 : Nat) ({ cls := "com/example/cropmark/cropmark/RowProblemsPinLaw", name := "reason", desc := "(I)Ljava/lang/String;" } : Jvm.MethodName)).before a0 Z = true := hw _ (List.mem_of_getElem? (i := 0) rfl)
theorem w1 {Z : State} {a0 : Array Value} (hw : ∀ d ∈ tables_1, d.before a0 Z = true) : (Jvm.Cond.static ({ cls := "com/example/cropmark/cropmark/RowProblemsPinLaw", name := "reason", desc := "(I)Ljava/lang/String;" } : Jvm.MethodName)).before a0 Z = true := hw _ (List.mem_of_getElem? (i := 1) rfl)
theorem w2 {Z : State} {a0 : Array Value} (hw : ∀ d ∈ tables_1, d.before a0 Z = true) : (Jvm.Cond.initialized "com/example/cropmark/cropmark/RowProblemsPinLaw").before a0 Z = true := hw _ (List.mem_of_getElem? (i := 2) rfl)
theorem w3 {Z : State} {a0 : Array Value} (hw : ∀ d ∈ tables_1, d.before a0 Z = true) : (Jvm.Cond.code ({ cls := "com/example/cropmark/cropmark/RowProblemsPinLaw", name := "reason", desc := "(I)Ljava/lang/String;" } : Jvm.MethodName) method_2_code (4 : Nat) (Option.some (Jvm.ClassFile.FieldType.object "java/lang/String"))).before a0 Z = true := hw _ (List.mem_of_getElem? (i := 3) rfl)
theorem w4 {Z : State} {a0 : Array Value} (hw : ∀ d ∈ tables_1, d.before a0 Z = true) : (Jvm.Cond.classLink "com/example/cropmark/cropmark/RowProblemsPinLaw" (7 : Nat) "java/lang/String").before a0 Z = true := hw _ (List.mem_of_getElem? (i := 4) rfl)
theorem w5 {Z : State} {a0 : Array Value} (hw : ∀ d ∈ tables_1, d.before a0 Z = true) : (Jvm.Cond.instantiable "java/lang/String" (4 : Nat)).before a0 Z = true := hw _ (List.mem_of_getElem? (i := 5) rfl)
theorem w6 {Z : State} {a0 : Array Value} (hw : ∀ d ∈ tables_1, d.before a0 Z = true) : (Jvm.Cond.initialized "java/lang/String").before a0 Z = true := hw _ (List.mem_of_getElem? (i := 6) rfl)
theorem w7 {Z : State} {a0 : Array Value} (hw : ∀ d ∈ tables_1, d.before a0 Z = true) : (Jvm.Cond.arrayClass Jvm.ClassFile.FieldType.char).before a0 Z = true := hw _ (List.mem_of_getElem? (i := 7) rfl)
theorem w8 {Z : State} {a0 : Array Value} (hw : ∀ d ∈ tables_1, d.before a0 Z = true) : (Jvm.Cond.methodLink "com/example/cropmark/cropmark/RowProblemsPinLaw" (9 : Nat) ({ cls := "java/lang/String", name := "<init>", desc := "([C)V" } : Jvm.MethodName)).before a0 Z = true := hw _ (List.mem_of_getElem? (i := 8) rfl)
theorem w9 {Z : State} {a0 : Array Value} (hw : ∀ d ∈ tables_1, d.before a0 Z = true) : (Jvm.Cond.instanceMethod ({ cls := "java/lang/String", name := "<init>", desc := "([C)V" } : Jvm.MethodName)).before a0 Z = true := hw _ (List.mem_of_getElem? (i := 9) rfl)
theorem w10 {Z : State} {a0 : Array Value} (hw : ∀ d ∈ tables_1, d.before a0 Z = true) : (Jvm.Cond.code ({ cls := "java/lang/String", name := "<init>", desc := "([C)V" } : Jvm.MethodName) jdk_42_method_3_code (2 : Nat) (Option.none : Option Jvm.ClassFile.FieldType)).before a0 Z = true := hw _ (List.mem_of_getElem? (i := 10) rfl)
theorem w11 {Z : State} {a0 : Array Value} (hw : ∀ d ∈ tables_1, d.before a0 Z = true) : (Jvm.Cond.methodLink "java/lang/String" (27 : Nat) ({ cls := "java/lang/String", name := "<init>", desc := "([CIILjava/lang/Void;)V" } : Jvm.MethodName)).before a0 Z = true := hw _ (List.mem_of_getElem? (i := 11) rfl)
theorem w12 {Z : State} {a0 : Array Value} (hw : ∀ d ∈ tables_1, d.before a0 Z = true) : (Jvm.Cond.instanceMethod ({ cls := "java/lang/String", name := "<init>", desc := "([CIILjava/lang/Void;)V" } : Jvm.MethodName)).before a0 Z = true := hw _ (List.mem_of_getElem? (i := 12) rfl)
theorem w14 {Z : State} {a0 : Array Value} (hw : ∀ d ∈ tables_1, d.before a0 Z = true) : (Jvm.Cond.code ({ cls := "java/lang/String", name := "<init>", desc := "([CIILjava/lang/Void;)V" } : Jvm.MethodName) jdk_42_method_149_code (6 : Nat) (Option.none : Option Jvm.ClassFile.FieldType)).before a0 Z = true := hw _ (List.mem_of_getElem? (i := 14) rfl)
theorem w15 {Z : State} {a0 : Array Value} (hw : ∀ d ∈ tables_1, d.before a0 Z = true) : (Jvm.Cond.methodLink "java/lang/String" (1 : Nat) ({ cls := "java/lang/Object", name := "<init>", desc := "()V" } : Jvm.MethodName)).before a0 Z = true := hw _ (List.mem_of_getElem? (i := 15) rfl)
theorem w16 {Z : State} {a0 : Array Value} (hw : ∀ d ∈ tables_1, d.before a0 Z = true) : (Jvm.Cond.instanceMethod ({ cls := "java/lang/Object", name := "<init>", desc := "()V" } : Jvm.MethodName)).before a0 Z = true := hw _ (List.mem_of_getElem? (i := 16) rfl)
theorem w17 {Z : State} {a0 : Array Value} (hw : ∀ d ∈ tables_1, d.before a0 Z = true) : (Jvm.Cond.code ({ cls := "java/lang/Object", name := "<init>", desc := "()V" } : Jvm.MethodName) object_method_1_code (1 : Nat) (Option.none : Option Jvm.ClassFile.FieldType)).before a0 Z = true := hw _ (List.mem_of_getElem? (i := 17) rfl)
theorem w18 {Z : State} {a0 : Array Value} (hw : ∀ d ∈ tables_1, d.before a0 Z = true) : (Jvm.Cond.stringLink "java/lang/String" (7 : Nat) "").before a0 Z = true := hw _ (List.mem_of_getElem? (i := 18) rfl)
theorem w19 {Z : State} {a0 : Array Value} (hw : ∀ d ∈ tables_1, d.before a0 Z = true) : (Jvm.Cond.arrayClass Jvm.ClassFile.FieldType.byte).before a0 Z = true := hw _ (List.mem_of_getElem? (i := 19) rfl)
theorem w20 {Z : State} {a0 : Array Value} (hw : ∀ d ∈ tables_1, d.before a0 Z = true) : (Jvm.Cond.laysFinal "java/lang/String" "java/lang/String" "value" "[B").before a0 Z = true := hw _ (List.mem_of_getElem? (i := 20) rfl)
theorem w21 {Z : State} {a0 : Array Value} (hw : ∀ d ∈ tables_1, d.before a0 Z = true) : (Jvm.Cond.laysFinal "java/lang/String" "java/lang/String" "coder" "B").before a0 Z = true := hw _ (List.mem_of_getElem? (i := 21) rfl)
theorem w22 {Z : State} {a0 : Array Value} (hw : ∀ d ∈ tables_1, d.before a0 Z = true) : (Jvm.Cond.soleField "java/lang/String" "value").before a0 Z = true := hw _ (List.mem_of_getElem? (i := 22) rfl)
theorem w23 {Z : State} {a0 : Array Value} (hw : ∀ d ∈ tables_1, d.before a0 Z = true) : (Jvm.Cond.soleField "java/lang/String" "coder").before a0 Z = true := hw _ (List.mem_of_getElem? (i := 23) rfl)
theorem w24 {Z : State} {a0 : Array Value} (hw : ∀ d ∈ tables_1, d.before a0 Z = true) : (Jvm.Cond.fieldLink "java/lang/String" (9 : Nat) "java/lang/String" "value" "[B").before a0 Z = true := hw _ (List.mem_of_getElem? (i := 24) rfl)
theorem w25 {Z : State} {a0 : Array Value} (hw : ∀ d ∈ tables_1, d.before a0 Z = true) : (Jvm.Cond.fieldLink "java/lang/String" (15 : Nat) "java/lang/String" "coder" "B").before a0 Z = true := hw _ (List.mem_of_getElem? (i := 25) rfl)
theorem w26 {Z : State} {a0 : Array Value} (hw : ∀ d ∈ tables_1, d.before a0 Z = true) : (Jvm.Cond.classLink "com/example/cropmark/cropmark/RowProblemsPinLaw" (22 : Nat) "com/example/cropmark/cropmark/Row").before a0 Z = true := hw _ (List.mem_of_getElem? (i := 26) rfl)
theorem w27 {Z : State} {a0 : Array Value} (hw : ∀ d ∈ tables_1, d.before a0 Z = true) : (Jvm.Cond.instantiable "com/example/cropmark/cropmark/Row" (6 : Nat)).before a0 Z = true := hw _ (List.mem_of_getElem? (i := 27) rfl)
theorem w28 {Z : State} {a0 : Array Value} (hw : ∀ d ∈ tables_1, d.before a0 Z = true) : (Jvm.Cond.initialized "com/example/cropmark/cropmark/Row").before a0 Z = true := hw _ (List.mem_of_getElem? (i := 28) rfl)
theorem w29 {Z : State} {a0 : Array Value} (hw : ∀ d ∈ tables_1, d.before a0 Z = true) : (Jvm.Cond.arrayClass Jvm.ClassFile.FieldType.int).before a0 Z = true := hw _ (List.mem_of_getElem? (i := 29) rfl)
theorem w30 {Z : State} {a0 : Array Value} (hw : ∀ d ∈ tables_1, d.before a0 Z = true) : (Jvm.Cond.methodLink "com/example/cropmark/cropmark/RowProblemsPinLaw" (24 : Nat) ({ cls := "com/example/cropmark/cropmark/Row", name := "<init>", desc := "(ILjava/util/Map;[B[I[I)V" } : Jvm.MethodName)).before a0 Z = true := hw _ (List.mem_of_getElem? (i := 30) rfl)
theorem w31 {Z : State} {a0 : Array Value} (hw : ∀ d ∈ tables_1, d.before a0 Z = true) : (Jvm.Cond.instanceMethod ({ cls := "com/example/cropmark/cropmark/Row", name := "<init>", desc := "(ILjava/util/Map;[B[I[I)V" } : Jvm.MethodName)).before a0 Z = true := hw _ (List.mem_of_getElem? (i := 31) rfl)
theorem w32 {Z : State} {a0 : Array Value} (hw : ∀ d ∈ tables_1, d.before a0 Z = true) : (Jvm.Cond.code ({ cls := "com/example/cropmark/cropmark/Row", name := "<init>", desc := "(ILjava/util/Map;[B[I[I)V" } : Jvm.MethodName) prog_67_method_2_code (6 : Nat) (Option.none : Option Jvm.ClassFile.FieldType)).before a0 Z = true := hw _ (List.mem_of_getElem? (i := 32) rfl)
theorem w33 {Z : State} {a0 : Array Value} (hw : ∀ d ∈ tables_1, d.before a0 Z = true) : (Jvm.Cond.methodLink "com/example/cropmark/cropmark/Row" (1 : Nat) ({ cls := "java/lang/Object", name := "<init>", desc := "()V" } : Jvm.MethodName)).before a0 Z = true := hw _ (List.mem_of_getElem? (i := 33) rfl)
theorem w34 {Z : State} {a0 : Array Value} (hw : ∀ d ∈ tables_1, d.before a0 Z = true) : (Jvm.Cond.fieldLink "com/example/cropmark/cropmark/Row" (7 : Nat) "com/example/cropmark/cropmark/Row" "line" "I").before a0 Z = true := hw _ (List.mem_of_getElem? (i := 34) rfl)
theorem w35 {Z : State} {a0 : Array Value} (hw : ∀ d ∈ tables_1, d.before a0 Z = true) : (Jvm.Cond.laysFinal "com/example/cropmark/cropmark/Row" "com/example/cropmark/cropmark/Row" "line" "I").before a0 Z = true := hw _ (List.mem_of_getElem? (i := 35) rfl)
theorem w36 {Z : State} {a0 : Array Value} (hw : ∀ d ∈ tables_1, d.before a0 Z = true) : (Jvm.Cond.fieldLink "com/example/cropmark/cropmark/Row" (13 : Nat) "com/example/cropmark/cropmark/Row" "columns" "Ljava/util/Map;").before a0 Z = true := hw _ (List.mem_of_getElem? (i := 36) rfl)
theorem w37 {Z : State} {a0 : Array Value} (hw : ∀ d ∈ tables_1, d.before a0 Z = true) : (Jvm.Cond.laysFinal "com/example/cropmark/cropmark/Row" "com/example/cropmark/cropmark/Row" "columns" "Ljava/util/Map;").before a0 Z = true := hw _ (List.mem_of_getElem? (i := 37) rfl)
theorem w38 {Z : State} {a0 : Array Value} (hw : ∀ d ∈ tables_1, d.before a0 Z = true) : (Jvm.Cond.fieldLink "com/example/cropmark/cropmark/Row" (51 : Nat) "com/example/cropmark/cropmark/Row" "bytes" "[B").before a0 Z = true := hw _ (List.mem_of_getElem? (i := 38) rfl)
theorem w39 {Z : State} {a0 : Array Value} (hw : ∀ d ∈ tables_1, d.before a0 Z = true) : (Jvm.Cond.laysFinal "com/example/cropmark/cropmark/Row" "com/example/cropmark/cropmark/Row" "bytes" "[B").before a0 Z = true := hw _ (List.mem_of_getElem? (i := 39) rfl)
theorem w40 {Z : State} {a0 : Array Value} (hw : ∀ d ∈ tables_1, d.before a0 Z = true) : (Jvm.Cond.fieldLink "com/example/cropmark/cropmark/Row" (17 : Nat) "com/example/cropmark/cropmark/Row" "starts" "[I").before a0 Z = true := hw _ (List.mem_of_getElem? (i := 40) rfl)
theorem w41 {Z : State} {a0 : Array Value} (hw : ∀ d ∈ tables_1, d.before a0 Z = true) : (Jvm.Cond.laysFinal "com/example/cropmark/cropmark/Row" "com/example/cropmark/cropmark/Row" "starts" "[I").before a0 Z = true := hw _ (List.mem_of_getElem? (i := 41) rfl)
theorem w42 {Z : State} {a0 : Array Value} (hw : ∀ d ∈ tables_1, d.before a0 Z = true) : (Jvm.Cond.fieldLink "com/example/cropmark/cropmark/Row" (21 : Nat) "com/example/cropmark/cropmark/Row" "ends" "[I").before a0 Z = true := hw _ (List.mem_of_getElem? (i := 42) rfl)
theorem w43 {Z : State} {a0 : Array Value} (hw : ∀ d ∈ tables_1, d.before a0 Z = true) : (Jvm.Cond.laysFinal "com/example/cropmark/cropmark/Row" "com/example/cropmark/cropmark/Row" "ends" "[I").before a0 Z = true := hw _ (List.mem_of_getElem? (i := 43) rfl)
theorem w44 {Z : State} {a0 : Array Value} (hw : ∀ d ∈ tables_1, d.before a0 Z = true) : (Jvm.Cond.methodLink "com/example/cropmark/cropmark/RowProblemsPinLaw" (27 : Nat) ({ cls := "com/example/cropmark/cropmark/Row", name := "problems", desc := "()Ljava/util/List;" } : Jvm.MethodName)).before a0 Z = true := hw _ (List.mem_of_getElem? (i := 44) rfl)
theorem w45 {Z : State} {a0 : Array Value} (hw : ∀ d ∈ tables_1, d.before a0 Z = true) : (Jvm.Cond.declares ({ cls := "com/example/cropmark/cropmark/Row", name := "problems", desc := "()Ljava/util/List;" } : Jvm.MethodName)).before a0 Z = true := hw _ (List.mem_of_getElem? (i := 45) rfl)
theorem w46 {Z : State} {a0 : Array Value} (hw : ∀ d ∈ tables_1, d.before a0 Z = true) : (Jvm.Cond.instanceMethod ({ cls := "com/example/cropmark/cropmark/Row", name := "problems", desc := "()Ljava/util/List;" } : Jvm.MethodName)).before a0 Z = true := hw _ (List.mem_of_getElem? (i := 46) rfl)
theorem w47 {Z : State} {a0 : Array Value} (hw : ∀ d ∈ tables_1, d.before a0 Z = true) : (Jvm.Cond.selects "com/example/cropmark/cropmark/Row" ({ cls := "com/example/cropmark/cropmark/Row", name := "problems", desc := "()Ljava/util/List;" } : Jvm.MethodName) ({ cls := "com/example/cropmark/cropmark/Row", name := "problems", desc := "()Ljava/util/List;" } : Jvm.MethodName)).before a0 Z = true := hw _ (List.mem_of_getElem? (i := 47) rfl)
theorem w48 {Z : State} {a0 : Array Value} (hw : ∀ d ∈ tables_1, d.before a0 Z = true) : (Jvm.Cond.code ({ cls := "com/example/cropmark/cropmark/Row", name := "problems", desc := "()Ljava/util/List;" } : Jvm.MethodName) prog_67_method_19_code (1 : Nat) (Option.some (Jvm.ClassFile.FieldType.object "java/util/List"))).before a0 Z = true := hw _ (List.mem_of_getElem? (i := 48) rfl)
theorem w49 {Z : State} {a0 : Array Value} (hw : ∀ d ∈ tables_1, d.before a0 Z = true) : (Jvm.Cond.fieldLink "com/example/cropmark/cropmark/Row" (259 : Nat) "com/example/cropmark/cropmark/Row" "problems" "Ljava/util/List;").before a0 Z = true := hw _ (List.mem_of_getElem? (i := 49) rfl)
theorem w50 {Z : State} {a0 : Array Value} (hw : ∀ d ∈ tables_1, d.before a0 Z = true) : (Jvm.Cond.lays "com/example/cropmark/cropmark/Row" "com/example/cropmark/cropmark/Row" "problems" "Ljava/util/List;").before a0 Z = true := hw _ (List.mem_of_getElem? (i := 50) rfl)
theorem w51 {Z : State} {a0 : Array Value} (hw : ∀ d ∈ tables_1, d.before a0 Z = true) : (Jvm.Cond.methodLink "com/example/cropmark/cropmark/Row" (270 : Nat) ({ cls := "java/util/List", name := "of", desc := "()Ljava/util/List;" } : Jvm.MethodName)).before a0 Z = true := hw _ (List.mem_of_getElem? (i := 51) rfl)
theorem w52 {Z : State} {a0 : Array Value} (hw : ∀ d ∈ tables_1, d.before a0 Z = true) : (Jvm.Cond.static ({ cls := "java/util/List", name := "of", desc := "()Ljava/util/List;" } : Jvm.MethodName)).before a0 Z = true := hw _ (List.mem_of_getElem? (i := 52) rfl)
theorem w53 {Z : State} {a0 : Array Value} (hw : ∀ d ∈ tables_1, d.before a0 Z = true) : (Jvm.Cond.initialized "java/util/List").before a0 Z = true := hw _ (List.mem_of_getElem? (i := 53) rfl)
theorem w54 {Z : State} {a0 : Array Value} (hw : ∀ d ∈ tables_1, d.before a0 Z = true) : (Jvm.Cond.code ({ cls := "java/util/List", name := "of", desc := "()Ljava/util/List;" } : Jvm.MethodName) jdk_40_method_36_code (0 : Nat) (Option.some (Jvm.ClassFile.FieldType.object "java/util/List"))).before a0 Z = true := hw _ (List.mem_of_getElem? (i := 54) rfl)
theorem w55 {Z : State} {a0 : Array Value} (hw : ∀ d ∈ tables_1, d.before a0 Z = true) : (Jvm.Cond.fieldLink "java/util/List" (90 : Nat) "java/util/ImmutableCollections" "EMPTY_LIST" "Ljava/util/ImmutableCollections$ListN;").before a0 Z = true := hw _ (List.mem_of_getElem? (i := 55) rfl)
theorem w56 {Z : State} {a0 : Array Value} (hw : ∀ d ∈ tables_1, d.before a0 Z = true) : (Jvm.Cond.initialized "java/util/ImmutableCollections").before a0 Z = true := hw _ (List.mem_of_getElem? (i := 56) rfl)
theorem w57 {Z : State} {a0 : Array Value} (hw : ∀ d ∈ tables_1, d.before a0 Z = true) : (Jvm.Cond.methodLink "com/example/cropmark/cropmark/RowProblemsPinLaw" (31 : Nat) ({ cls := "java/util/List", name := "size", desc := "()I" } : Jvm.MethodName)).before a0 Z = true := hw _ (List.mem_of_getElem? (i := 57) rfl)
theorem w58 {Z : State} {a0 : Array Value} (hw : ∀ d ∈ tables_1, d.before a0 Z = true) : (Jvm.Cond.declares ({ cls := "java/util/List", name := "size", desc := "()I" } : Jvm.MethodName)).before a0 Z = true := hw _ (List.mem_of_getElem? (i := 58) rfl)
theorem w59 {Z : State} {a0 : Array Value} (hw : ∀ d ∈ tables_1, d.before a0 Z = true) : (Jvm.Cond.interfaceMethod "java/util/List" "java/util/List" "size" "()I").before a0 Z = true := hw _ (List.mem_of_getElem? (i := 59) rfl)
theorem w60 {Z : State} {a0 : Array Value} (hw : ∀ d ∈ tables_1, d.before a0 Z = true) : (Jvm.Cond.selects "java/util/ImmutableCollections$ListN" ({ cls := "java/util/List", name := "size", desc := "()I" } : Jvm.MethodName) ({ cls := "java/util/ImmutableCollections$ListN", name := "size", desc := "()I" } : Jvm.MethodName)).before a0 Z = true := hw _ (List.mem_of_getElem? (i := 60) rfl)
theorem w61 {Z : State} {a0 : Array Value} (hw : ∀ d ∈ tables_1, d.before a0 Z = true) : (Jvm.Cond.instanceMethod ({ cls := "java/util/ImmutableCollections$ListN", name := "size", desc := "()I" } : Jvm.MethodName)).before a0 Z = true := hw _ (List.mem_of_getElem? (i := 61) rfl)
theorem w62 {Z : State} {a0 : Array Value} (hw : ∀ d ∈ tables_1, d.before a0 Z = true) : (Jvm.Cond.publicMethod ({ cls := "java/util/ImmutableCollections$ListN", name := "size", desc := "()I" } : Jvm.MethodName)).before a0 Z = true := hw _ (List.mem_of_getElem? (i := 62) rfl)
theorem w63 {Z : State} {a0 : Array Value} (hw : ∀ d ∈ tables_1, d.before a0 Z = true) : (Jvm.Cond.unhidden "java/util/ImmutableCollections$ListN" "size" "()I").before a0 Z = true := hw _ (List.mem_of_getElem? (i := 63) rfl)
theorem w64 {Z : State} {a0 : Array Value} (hw : ∀ d ∈ tables_1, d.before a0 Z = true) : (Jvm.Cond.castable "java/util/ImmutableCollections$ListN" "java/util/List").before a0 Z = true := hw _ (List.mem_of_getElem? (i := 64) rfl)
theorem w65 {Z : State} {a0 : Array Value} (hw : ∀ d ∈ tables_1, d.before a0 Z = true) : (Jvm.Cond.initialized "java/util/ImmutableCollections$ListN").before a0 Z = true := hw _ (List.mem_of_getElem? (i := 65) rfl)
theorem w66 {Z : State} {a0 : Array Value} (hw : ∀ d ∈ tables_1, d.before a0 Z = true) : (Jvm.Cond.code ({ cls := "java/util/ImmutableCollections$ListN", name := "size", desc := "()I" } : Jvm.MethodName) jdk_45_method_3_code (1 : Nat) (Option.some Jvm.ClassFile.FieldType.int)).before a0 Z = true := hw _ (List.mem_of_getElem? (i := 66) rfl)
theorem w67 {Z : State} {a0 : Array Value} (hw : ∀ d ∈ tables_1, d.before a0 Z = true) : (Jvm.Cond.fieldLink "java/util/ImmutableCollections$ListN" (7 : Nat) "java/util/ImmutableCollections$ListN" "elements" "[Ljava/lang/Object;").before a0 Z = true := hw _ (List.mem_of_getElem? (i := 67) rfl)
theorem w69 {Z : State} {a0 : Array Value} (hw : ∀ d ∈ tables_1, d.before a0 Z = true) : (Jvm.Cond.methodLink "com/example/cropmark/cropmark/RowProblemsPinLaw" (37 : Nat) ({ cls := "com/example/cropmark/cropmark/Row", name := "problem", desc := "(Ljava/lang/String;)V" } : Jvm.MethodName)).before a0 Z = true := hw _ (List.mem_of_getElem? (i := 69) rfl)
theorem w70 {Z : State} {a0 : Array Value} (hw : ∀ d ∈ tables_1, d.before a0 Z = true) : (Jvm.Cond.declares ({ cls := "com/example/cropmark/cropmark/Row", name := "problem", desc := "(Ljava/lang/String;)V" } : Jvm.MethodName)).before a0 Z = true := hw _ (List.mem_of_getElem? (i := 70) rfl)
theorem w71 {Z : State} {a0 : Array Value} (hw : ∀ d ∈ tables_1, d.before a0 Z = true) : (Jvm.Cond.instanceMethod ({ cls := "com/example/cropmark/cropmark/Row", name := "problem", desc := "(Ljava/lang/String;)V" } : Jvm.MethodName)).before a0 Z = true := hw _ (List.mem_of_getElem? (i := 71) rfl)
theorem w72 {Z : State} {a0 : Array Value} (hw : ∀ d ∈ tables_1, d.before a0 Z = true) : (Jvm.Cond.selects "com/example/cropmark/cropmark/Row" ({ cls := "com/example/cropmark/cropmark/Row", name := "problem", desc := "(Ljava/lang/String;)V" } : Jvm.MethodName) ({ cls := "com/example/cropmark/cropmark/Row", name := "problem", desc := "(Ljava/lang/String;)V" } : Jvm.MethodName)).before a0 Z = true := hw _ (List.mem_of_getElem? (i := 72) rfl)
theorem w73 {Z : State} {a0 : Array Value} (hw : ∀ d ∈ tables_1, d.before a0 Z = true) : (Jvm.Cond.code ({ cls := "com/example/cropmark/cropmark/Row", name := "problem", desc := "(Ljava/lang/String;)V" } : Jvm.MethodName) prog_67_method_18_code (2 : Nat) (Option.none : Option Jvm.ClassFile.FieldType)).before a0 Z = true := hw _ (List.mem_of_getElem? (i := 73) rfl)
theorem w74 {Z : State} {a0 : Array Value} (hw : ∀ d ∈ tables_1, d.before a0 Z = true) : (Jvm.Cond.classLink "com/example/cropmark/cropmark/Row" (263 : Nat) "java/util/ArrayList").before a0 Z = true := hw _ (List.mem_of_getElem? (i := 74) rfl)
theorem w75 {Z : State} {a0 : Array Value} (hw : ∀ d ∈ tables_1, d.before a0 Z = true) : (Jvm.Cond.instantiable "java/util/ArrayList" (3 : Nat)).before a0 Z = true := hw _ (List.mem_of_getElem? (i := 75) rfl)
theorem w76 {Z : State} {a0 : Array Value} (hw : ∀ d ∈ tables_1, d.before a0 Z = true) : (Jvm.Cond.initialized "java/util/ArrayList").before a0 Z = true := hw _ (List.mem_of_getElem? (i := 76) rfl)
theorem w77 {Z : State} {a0 : Array Value} (hw : ∀ d ∈ tables_1, d.before a0 Z = true) : (Jvm.Cond.methodLink "com/example/cropmark/cropmark/Row" (265 : Nat) ({ cls := "java/util/ArrayList", name := "<init>", desc := "()V" } : Jvm.MethodName)).before a0 Z = true := hw _ (List.mem_of_getElem? (i := 77) rfl)
theorem w78 {Z : State} {a0 : Array Value} (hw : ∀ d ∈ tables_1, d.before a0 Z = true) : (Jvm.Cond.instanceMethod ({ cls := "java/util/ArrayList", name := "<init>", desc := "()V" } : Jvm.MethodName)).before a0 Z = true := hw _ (List.mem_of_getElem? (i := 78) rfl)
theorem w79 {Z : State} {a0 : Array Value} (hw : ∀ d ∈ tables_1, d.before a0 Z = true) : (Jvm.Cond.code ({ cls := "java/util/ArrayList", name := "<init>", desc := "()V" } : Jvm.MethodName) jdk_38_method_2_code (1 : Nat) (Option.none : Option Jvm.ClassFile.FieldType)).before a0 Z = true := hw _ (List.mem_of_getElem? (i := 79) rfl)
theorem w80 {Z : State} {a0 : Array Value} (hw : ∀ d ∈ tables_1, d.before a0 Z = true) : (Jvm.Cond.methodLink "java/util/ArrayList" (1 : Nat) ({ cls := "java/util/AbstractList", name := "<init>", desc := "()V" } : Jvm.MethodName)).before a0 Z = true := hw _ (List.mem_of_getElem? (i := 80) rfl)
theorem w81 {Z : State} {a0 : Array Value} (hw : ∀ d ∈ tables_1, d.before a0 Z = true) : (Jvm.Cond.instanceMethod ({ cls := "java/util/AbstractList", name := "<init>", desc := "()V" } : Jvm.MethodName)).before a0 Z = true := hw _ (List.mem_of_getElem? (i := 81) rfl)
theorem w84 {Z : State} {a0 : Array Value} (hw : ∀ d ∈ tables_1, d.before a0 Z = true) : (Jvm.Cond.initialized "java/util/AbstractList").before a0 Z = true := hw _ (List.mem_of_getElem? (i := 84) rfl)
theorem w85 {Z : State} {a0 : Array Value} (hw : ∀ d ∈ tables_1, d.before a0 Z = true) : (Jvm.Cond.code ({ cls := "java/util/AbstractList", name := "<init>", desc := "()V" } : Jvm.MethodName) jdk_39_method_1_code (1 : Nat) (Option.none : Option Jvm.ClassFile.FieldType)).before a0 Z = true := hw _ (List.mem_of_getElem? (i := 85) rfl)
theorem w86 {Z : State} {a0 : Array Value} (hw : ∀ d ∈ tables_1, d.before a0 Z = true) : (Jvm.Cond.methodLink "java/util/AbstractList" (1 : Nat) ({ cls := "java/util/AbstractCollection", name := "<init>", desc := "()V" } : Jvm.MethodName)).before a0 Z = true := hw _ (List.mem_of_getElem? (i := 86) rfl)
theorem w87 {Z : State} {a0 : Array Value} (hw : ∀ d ∈ tables_1, d.before a0 Z = true) : (Jvm.Cond.instanceMethod ({ cls := "java/util/AbstractCollection", name := "<init>", desc := "()V" } : Jvm.MethodName)).before a0 Z = true := hw _ (List.mem_of_getElem? (i := 87) rfl)
theorem w90 {Z : State} {a0 : Array Value} (hw : ∀ d ∈ tables_1, d.before a0 Z = true) : (Jvm.Cond.initialized "java/util/AbstractCollection").before a0 Z = true := hw _ (List.mem_of_getElem? (i := 90) rfl)
theorem w91 {Z : State} {a0 : Array Value} (hw : ∀ d ∈ tables_1, d.before a0 Z = true) : (Jvm.Cond.code ({ cls := "java/util/AbstractCollection", name := "<init>", desc := "()V" } : Jvm.MethodName) jdk_22_method_1_code (1 : Nat) (Option.none : Option Jvm.ClassFile.FieldType)).before a0 Z = true := hw _ (List.mem_of_getElem? (i := 91) rfl)
theorem w92 {Z : State} {a0 : Array Value} (hw : ∀ d ∈ tables_1, d.before a0 Z = true) : (Jvm.Cond.methodLink "java/util/AbstractCollection" (1 : Nat) ({ cls := "java/lang/Object", name := "<init>", desc := "()V" } : Jvm.MethodName)).before a0 Z = true := hw _ (List.mem_of_getElem? (i := 92) rfl)
theorem w93 {Z : State} {a0 : Array Value} (hw : ∀ d ∈ tables_1, d.before a0 Z = true) : (Jvm.Cond.fieldLink "java/util/AbstractList" (7 : Nat) "java/util/AbstractList" "modCount" "I").before a0 Z = true := hw _ (List.mem_of_getElem? (i := 93) rfl)
theorem w94 {Z : State} {a0 : Array Value} (hw : ∀ d ∈ tables_1, d.before a0 Z = true) : (Jvm.Cond.lays "java/util/ArrayList" "java/util/AbstractList" "modCount" "I").before a0 Z = true := hw _ (List.mem_of_getElem? (i := 94) rfl)
theorem w95 {Z : State} {a0 : Array Value} (hw : ∀ d ∈ tables_1, d.before a0 Z = true) : (Jvm.Cond.fieldLink "java/util/ArrayList" (39 : Nat) "java/util/ArrayList" "DEFAULTCAPACITY_EMPTY_ELEMENTDATA" "[Ljava/lang/Object;").before a0 Z = true := hw _ (List.mem_of_getElem? (i := 95) rfl)
theorem w96 {Z : State} {a0 : Array Value} (hw : ∀ d ∈ tables_1, d.before a0 Z = true) : (Jvm.Cond.fieldLink "java/util/ArrayList" (9 : Nat) "java/util/ArrayList" "elementData" "[Ljava/lang/Object;").before a0 Z = true := hw _ (List.mem_of_getElem? (i := 96) rfl)
theorem w97 {Z : State} {a0 : Array Value} (hw : ∀ d ∈ tables_1, d.before a0 Z = true) : (Jvm.Cond.lays "java/util/ArrayList" "java/util/ArrayList" "elementData" "[Ljava/lang/Object;").before a0 Z = true := hw _ (List.mem_of_getElem? (i := 97) rfl)
theorem w98 {Z : State} {a0 : Array Value} (hw : ∀ d ∈ tables_1, d.before a0 Z = true) : (Jvm.Cond.methodLink "com/example/cropmark/cropmark/Row" (266 : Nat) ({ cls := "java/util/List", name := "add", desc := "(Ljava/lang/Object;)Z" } : Jvm.MethodName)).before a0 Z = true := hw _ (List.mem_of_getElem? (i := 98) rfl)
theorem w99 {Z : State} {a0 : Array Value} (hw : ∀ d ∈ tables_1, d.before a0 Z = true) : (Jvm.Cond.declares ({ cls := "java/util/List", name := "add", desc := "(Ljava/lang/Object;)Z" } : Jvm.MethodName)).before a0 Z = true := hw _ (List.mem_of_getElem? (i := 99) rfl)
theorem w100 {Z : State} {a0 : Array Value} (hw : ∀ d ∈ tables_1, d.before a0 Z = true) : (Jvm.Cond.interfaceMethod "java/util/List" "java/util/List" "add" "(Ljava/lang/Object;)Z").before a0 Z = true := hw _ (List.mem_of_getElem? (i := 100) rfl)
theorem w101 {Z : State} {a0 : Array Value} (hw : ∀ d ∈ tables_1, d.before a0 Z = true) : (Jvm.Cond.selects "java/util/ArrayList" ({ cls := "java/util/List", name := "add", desc := "(Ljava/lang/Object;)Z" } : Jvm.MethodName) ({ cls := "java/util/ArrayList", name := "add", desc := "(Ljava/lang/Object;)Z" } : Jvm.MethodName)).before a0 Z = true := hw _ (List.mem_of_getElem? (i := 101) rfl)
theorem w102 {Z : State} {a0 : Array Value} (hw : ∀ d ∈ tables_1, d.before a0 Z = true) : (Jvm.Cond.instanceMethod ({ cls := "java/util/ArrayList", name := "add", desc := "(Ljava/lang/Object;)Z" } : Jvm.MethodName)).before a0 Z = true := hw _ (List.mem_of_getElem? (i := 102) rfl)
theorem w103 {Z : State} {a0 : Array Value} (hw : ∀ d ∈ tables_1, d.before a0 Z = true) : (Jvm.Cond.publicMethod ({ cls := "java/util/ArrayList", name := "add", desc := "(Ljava/lang/Object;)Z" } : Jvm.MethodName)).before a0 Z = true := hw _ (List.mem_of_getElem? (i := 103) rfl)
theorem w104 {Z : State} {a0 : Array Value} (hw : ∀ d ∈ tables_1, d.before a0 Z = true) : (Jvm.Cond.unhidden "java/util/ArrayList" "add" "(Ljava/lang/Object;)Z").before a0 Z = true := hw _ (List.mem_of_getElem? (i := 104) rfl)
theorem w105 {Z : State} {a0 : Array Value} (hw : ∀ d ∈ tables_1, d.before a0 Z = true) : (Jvm.Cond.castable "java/util/ArrayList" "java/util/List").before a0 Z = true := hw _ (List.mem_of_getElem? (i := 105) rfl)
theorem w106 {Z : State} {a0 : Array Value} (hw : ∀ d ∈ tables_1, d.before a0 Z = true) : (Jvm.Cond.code ({ cls := "java/util/ArrayList", name := "add", desc := "(Ljava/lang/Object;)Z" } : Jvm.MethodName) jdk_38_method_25_code (2 : Nat) (Option.some Jvm.ClassFile.FieldType.boolean)).before a0 Z = true := hw _ (List.mem_of_getElem? (i := 106) rfl)
theorem w107 {Z : State} {a0 : Array Value} (hw : ∀ d ∈ tables_1, d.before a0 Z = true) : (Jvm.Cond.fieldLink "java/util/ArrayList" (63 : Nat) "java/util/ArrayList" "modCount" "I").before a0 Z = true := hw _ (List.mem_of_getElem? (i := 107) rfl)
theorem w108 {Z : State} {a0 : Array Value} (hw : ∀ d ∈ tables_1, d.before a0 Z = true) : (Jvm.Cond.sameField "java/util/ArrayList" "java/util/AbstractList" "modCount" "I").before a0 Z = true := hw _ (List.mem_of_getElem? (i := 108) rfl)
theorem w109 {Z : State} {a0 : Array Value} (hw : ∀ d ∈ tables_1, d.before a0 Z = true) : (Jvm.Cond.fieldLink "java/util/ArrayList" (48 : Nat) "java/util/ArrayList" "size" "I").before a0 Z = true := hw _ (List.mem_of_getElem? (i := 109) rfl)
theorem w110 {Z : State} {a0 : Array Value} (hw : ∀ d ∈ tables_1, d.before a0 Z = true) : (Jvm.Cond.lays "java/util/ArrayList" "java/util/ArrayList" "size" "I").before a0 Z = true := hw _ (List.mem_of_getElem? (i := 110) rfl)
theorem w111 {Z : State} {a0 : Array Value} (hw : ∀ d ∈ tables_1, d.before a0 Z = true) : (Jvm.Cond.methodLink "java/util/ArrayList" (131 : Nat) ({ cls := "java/util/ArrayList", name := "add", desc := "(Ljava/lang/Object;[Ljava/lang/Object;I)V" } : Jvm.MethodName)).before a0 Z = true := hw _ (List.mem_of_getElem? (i := 111) rfl)
theorem w112 {Z : State} {a0 : Array Value} (hw : ∀ d ∈ tables_1, d.before a0 Z = true) : (Jvm.Cond.instanceMethod ({ cls := "java/util/ArrayList", name := "add", desc := "(Ljava/lang/Object;[Ljava/lang/Object;I)V" } : Jvm.MethodName)).before a0 Z = true := hw _ (List.mem_of_getElem? (i := 112) rfl)
theorem w113 {Z : State} {a0 : Array Value} (hw : ∀ d ∈ tables_1, d.before a0 Z = true) : (Jvm.Cond.privateMethod ({ cls := "java/util/ArrayList", name := "add", desc := "(Ljava/lang/Object;[Ljava/lang/Object;I)V" } : Jvm.MethodName)).before a0 Z = true := hw _ (List.mem_of_getElem? (i := 113) rfl)
theorem w114 {Z : State} {a0 : Array Value} (hw : ∀ d ∈ tables_1, d.before a0 Z = true) : (Jvm.Cond.selects "java/util/ArrayList" ({ cls := "java/util/ArrayList", name := "add", desc := "(Ljava/lang/Object;[Ljava/lang/Object;I)V" } : Jvm.MethodName) ({ cls := "java/util/ArrayList", name := "add", desc := "(Ljava/lang/Object;[Ljava/lang/Object;I)V" } : Jvm.MethodName)).before a0 Z = true := hw _ (List.mem_of_getElem? (i := 114) rfl)
theorem w115 {Z : State} {a0 : Array Value} (hw : ∀ d ∈ tables_1, d.before a0 Z = true) : (Jvm.Cond.code ({ cls := "java/util/ArrayList", name := "add", desc := "(Ljava/lang/Object;[Ljava/lang/Object;I)V" } : Jvm.MethodName) jdk_38_method_24_code (4 : Nat) (Option.none : Option Jvm.ClassFile.FieldType)).before a0 Z = true := hw _ (List.mem_of_getElem? (i := 115) rfl)
theorem w116 {Z : State} {a0 : Array Value} (hw : ∀ d ∈ tables_1, d.before a0 Z = true) : (Jvm.Cond.methodLink "java/util/ArrayList" (129 : Nat) ({ cls := "java/util/ArrayList", name := "grow", desc := "()[Ljava/lang/Object;" } : Jvm.MethodName)).before a0 Z = true := hw _ (List.mem_of_getElem? (i := 116) rfl)
theorem w117 {Z : State} {a0 : Array Value} (hw : ∀ d ∈ tables_1, d.before a0 Z = true) : (Jvm.Cond.instanceMethod ({ cls := "java/util/ArrayList", name := "grow", desc := "()[Ljava/lang/Object;" } : Jvm.MethodName)).before a0 Z = true := hw _ (List.mem_of_getElem? (i := 117) rfl)
theorem w118 {Z : State} {a0 : Array Value} (hw : ∀ d ∈ tables_1, d.before a0 Z = true) : (Jvm.Cond.privateMethod ({ cls := "java/util/ArrayList", name := "grow", desc := "()[Ljava/lang/Object;" } : Jvm.MethodName)).before a0 Z = true := hw _ (List.mem_of_getElem? (i := 118) rfl)
theorem w119 {Z : State} {a0 : Array Value} (hw : ∀ d ∈ tables_1, d.before a0 Z = true) : (Jvm.Cond.selects "java/util/ArrayList" ({ cls := "java/util/ArrayList", name := "grow", desc := "()[Ljava/lang/Object;" } : Jvm.MethodName) ({ cls := "java/util/ArrayList", name := "grow", desc := "()[Ljava/lang/Object;" } : Jvm.MethodName)).before a0 Z = true := hw _ (List.mem_of_getElem? (i := 119) rfl)
theorem w120 {Z : State} {a0 : Array Value} (hw : ∀ d ∈ tables_1, d.before a0 Z = true) : (Jvm.Cond.code ({ cls := "java/util/ArrayList", name := "grow", desc := "()[Ljava/lang/Object;" } : Jvm.MethodName) jdk_38_method_7_code (1 : Nat) (Option.some (Jvm.ClassFile.FieldType.array (Jvm.ClassFile.FieldType.object "java/lang/Object")))).before a0 Z = true := hw _ (List.mem_of_getElem? (i := 120) rfl)
theorem w121 {Z : State} {a0 : Array Value} (hw : ∀ d ∈ tables_1, d.before a0 Z = true) : (Jvm.Cond.methodLink "java/util/ArrayList" (69 : Nat) ({ cls := "java/util/ArrayList", name := "grow", desc := "(I)[Ljava/lang/Object;" } : Jvm.MethodName)).before a0 Z = true := hw _ (List.mem_of_getElem? (i := 121) rfl)
theorem w122 {Z : State} {a0 : Array Value} (hw : ∀ d ∈ tables_1, d.before a0 Z = true) : (Jvm.Cond.instanceMethod ({ cls := "java/util/ArrayList", name := "grow", desc := "(I)[Ljava/lang/Object;" } : Jvm.MethodName)).before a0 Z = true := hw _ (List.mem_of_getElem? (i := 122) rfl)
theorem w123 {Z : State} {a0 : Array Value} (hw : ∀ d ∈ tables_1, d.before a0 Z = true) : (Jvm.Cond.privateMethod ({ cls := "java/util/ArrayList", name := "grow", desc := "(I)[Ljava/lang/Object;" } : Jvm.MethodName)).before a0 Z = true := hw _ (List.mem_of_getElem? (i := 123) rfl)
theorem w124 {Z : State} {a0 : Array Value} (hw : ∀ d ∈ tables_1, d.before a0 Z = true) : (Jvm.Cond.selects "java/util/ArrayList" ({ cls := "java/util/ArrayList", name := "grow", desc := "(I)[Ljava/lang/Object;" } : Jvm.MethodName) ({ cls := "java/util/ArrayList", name := "grow", desc := "(I)[Ljava/lang/Object;" } : Jvm.MethodName)).before a0 Z = true := hw _ (List.mem_of_getElem? (i := 124) rfl)
theorem w125 {Z : State} {a0 : Array Value} (hw : ∀ d ∈ tables_1, d.before a0 Z = true) : (Jvm.Cond.code ({ cls := "java/util/ArrayList", name := "grow", desc := "(I)[Ljava/lang/Object;" } : Jvm.MethodName) jdk_38_method_6_code (4 : Nat) (Option.some (Jvm.ClassFile.FieldType.array (Jvm.ClassFile.FieldType.object "java/lang/Object")))).before a0 Z = true := hw _ (List.mem_of_getElem? (i := 125) rfl)
theorem w126 {Z : State} {a0 : Array Value} (hw : ∀ d ∈ tables_1, d.before a0 Z = true) : (Jvm.Cond.methodLink "java/util/ArrayList" (79 : Nat) ({ cls := "java/lang/Math", name := "max", desc := "(II)I" } : Jvm.MethodName)).before a0 Z = true := hw _ (List.mem_of_getElem? (i := 126) rfl)
theorem w127 {Z : State} {a0 : Array Value} (hw : ∀ d ∈ tables_1, d.before a0 Z = true) : (Jvm.Cond.static ({ cls := "java/lang/Math", name := "max", desc := "(II)I" } : Jvm.MethodName)).before a0 Z = true := hw _ (List.mem_of_getElem? (i := 127) rfl)
theorem w128 {Z : State} {a0 : Array Value} (hw : ∀ d ∈ tables_1, d.before a0 Z = true) : (Jvm.Cond.initialized "java/lang/Math").before a0 Z = true := hw _ (List.mem_of_getElem? (i := 128) rfl)
theorem w129 {Z : State} {a0 : Array Value} (hw : ∀ d ∈ tables_1, d.before a0 Z = true) : (Jvm.Cond.code ({ cls := "java/lang/Math", name := "max", desc := "(II)I" } : Jvm.MethodName) jdk_29_method_65_code (2 : Nat) (Option.some Jvm.ClassFile.FieldType.int)).before a0 Z = true := hw _ (List.mem_of_getElem? (i := 129) rfl)
theorem w130 {Z : State} {a0 : Array Value} (hw : ∀ d ∈ tables_1, d.before a0 Z = true) : (Jvm.Cond.classLink "java/util/ArrayList" (7 : Nat) "java/lang/Object").before a0 Z = true := hw _ (List.mem_of_getElem? (i := 130) rfl)
theorem w131 {Z : State} {a0 : Array Value} (hw : ∀ d ∈ tables_1, d.before a0 Z = true) : (Jvm.Cond.arrayOver (Jvm.ClassFile.FieldType.object "java/lang/Object")).before a0 Z = true := hw _ (List.mem_of_getElem? (i := 131) rfl)
theorem w132 {Z : State} {a0 : Array Value} (hw : ∀ d ∈ tables_1, d.before a0 Z = true) : (Jvm.Cond.castable "java/lang/String" "java/lang/Object").before a0 Z = true := hw _ (List.mem_of_getElem? (i := 132) rfl)
theorem w133 {Z : State} {a0 : Array Value} (hw : ∀ d ∈ tables_1, d.before a0 Z = true) : (Jvm.Cond.selects "java/util/ArrayList" ({ cls := "java/util/List", name := "size", desc := "()I" } : Jvm.MethodName) ({ cls := "java/util/ArrayList", name := "size", desc := "()I" } : Jvm.MethodName)).before a0 Z = true := hw _ (List.mem_of_getElem? (i := 133) rfl)
theorem w134 {Z : State} {a0 : Array Value} (hw : ∀ d ∈ tables_1, d.before a0 Z = true) : (Jvm.Cond.instanceMethod ({ cls := "java/util/ArrayList", name := "size", desc := "()I" } : Jvm.MethodName)).before a0 Z = true := hw _ (List.mem_of_getElem? (i := 134) rfl)
theorem w135 {Z : State} {a0 : Array Value} (hw : ∀ d ∈ tables_1, d.before a0 Z = true) : (Jvm.Cond.publicMethod ({ cls := "java/util/ArrayList", name := "size", desc := "()I" } : Jvm.MethodName)).before a0 Z = true := hw _ (List.mem_of_getElem? (i := 135) rfl)
theorem w136 {Z : State} {a0 : Array Value} (hw : ∀ d ∈ tables_1, d.before a0 Z = true) : (Jvm.Cond.unhidden "java/util/ArrayList" "size" "()I").before a0 Z = true := hw _ (List.mem_of_getElem? (i := 136) rfl)
theorem w137 {Z : State} {a0 : Array Value} (hw : ∀ d ∈ tables_1, d.before a0 Z = true) : (Jvm.Cond.code ({ cls := "java/util/ArrayList", name := "size", desc := "()I" } : Jvm.MethodName) jdk_38_method_8_code (1 : Nat) (Option.some Jvm.ClassFile.FieldType.int)).before a0 Z = true := hw _ (List.mem_of_getElem? (i := 137) rfl)
theorem w138 {Z : State} {a0 : Array Value} (hw : ∀ d ∈ tables_1, d.before a0 Z = true) : (Jvm.Cond.methodLink "com/example/cropmark/cropmark/RowProblemsPinLaw" (41 : Nat) ({ cls := "java/util/List", name := "get", desc := "(I)Ljava/lang/Object;" } : Jvm.MethodName)).before a0 Z = true := hw _ (List.mem_of_getElem? (i := 138) rfl)
theorem w139 {Z : State} {a0 : Array Value} (hw : ∀ d ∈ tables_1, d.before a0 Z = true) : (Jvm.Cond.declares ({ cls := "java/util/List", name := "get", desc := "(I)Ljava/lang/Object;" } : Jvm.MethodName)).before a0 Z = true := hw _ (List.mem_of_getElem? (i := 139) rfl)
theorem w140 {Z : State} {a0 : Array Value} (hw : ∀ d ∈ tables_1, d.before a0 Z = true) : (Jvm.Cond.interfaceMethod "java/util/List" "java/util/List" "get" "(I)Ljava/lang/Object;").before a0 Z = true := hw _ (List.mem_of_getElem? (i := 140) rfl)
theorem w141 {Z : State} {a0 : Array Value} (hw : ∀ d ∈ tables_1, d.before a0 Z = true) : (Jvm.Cond.selects "java/util/ArrayList" ({ cls := "java/util/List", name := "get", desc := "(I)Ljava/lang/Object;" } : Jvm.MethodName) ({ cls := "java/util/ArrayList", name := "get", desc := "(I)Ljava/lang/Object;" } : Jvm.MethodName)).before a0 Z = true := hw _ (List.mem_of_getElem? (i := 141) rfl)
theorem w142 {Z : State} {a0 : Array Value} (hw : ∀ d ∈ tables_1, d.before a0 Z = true) : (Jvm.Cond.instanceMethod ({ cls := "java/util/ArrayList", name := "get", desc := "(I)Ljava/lang/Object;" } : Jvm.MethodName)).before a0 Z = true := hw _ (List.mem_of_getElem? (i := 142) rfl)
theorem w143 {Z : State} {a0 : Array Value} (hw : ∀ d ∈ tables_1, d.before a0 Z = true) : (Jvm.Cond.publicMethod ({ cls := "java/util/ArrayList", name := "get", desc := "(I)Ljava/lang/Object;" } : Jvm.MethodName)).before a0 Z = true := hw _ (List.mem_of_getElem? (i := 143) rfl)
theorem w144 {Z : State} {a0 : Array Value} (hw : ∀ d ∈ tables_1, d.before a0 Z = true) : (Jvm.Cond.unhidden "java/util/ArrayList" "get" "(I)Ljava/lang/Object;").before a0 Z = true := hw _ (List.mem_of_getElem? (i := 144) rfl)
theorem w145 {Z : State} {a0 : Array Value} (hw : ∀ d ∈ tables_1, d.before a0 Z = true) : (Jvm.Cond.code ({ cls := "java/util/ArrayList", name := "get", desc := "(I)Ljava/lang/Object;" } : Jvm.MethodName) jdk_38_method_20_code (2 : Nat) (Option.some (Jvm.ClassFile.FieldType.object "java/lang/Object"))).before a0 Z = true := hw _ (List.mem_of_getElem? (i := 145) rfl)
theorem w146 {Z : State} {a0 : Array Value} (hw : ∀ d ∈ tables_1, d.before a0 Z = true) : (Jvm.Cond.methodLink "java/util/ArrayList" (118 : Nat) ({ cls := "java/util/Objects", name := "checkIndex", desc := "(II)I" } : Jvm.MethodName)).before a0 Z = true := hw _ (List.mem_of_getElem? (i := 146) rfl)
theorem w147 {Z : State} {a0 : Array Value} (hw : ∀ d ∈ tables_1, d.before a0 Z = true) : (Jvm.Cond.static ({ cls := "java/util/Objects", name := "checkIndex", desc := "(II)I" } : Jvm.MethodName)).before a0 Z = true := hw _ (List.mem_of_getElem? (i := 147) rfl)
theorem w148 {Z : State} {a0 : Array Value} (hw : ∀ d ∈ tables_1, d.before a0 Z = true) : (Jvm.Cond.initialized "java/util/Objects").before a0 Z = true := hw _ (List.mem_of_getElem? (i := 148) rfl)
theorem w149 {Z : State} {a0 : Array Value} (hw : ∀ d ∈ tables_1, d.before a0 Z = true) : (Jvm.Cond.code ({ cls := "java/util/Objects", name := "checkIndex", desc := "(II)I" } : Jvm.MethodName) jdk_31_method_17_code (2 : Nat) (Option.some Jvm.ClassFile.FieldType.int)).before a0 Z = true := hw _ (List.mem_of_getElem? (i := 149) rfl)
theorem w150 {Z : State} {a0 : Array Value} (hw : ∀ d ∈ tables_1, d.before a0 Z = true) : (Jvm.Cond.methodLink "java/util/Objects" (105 : Nat) ({ cls := "jdk/internal/util/Preconditions", name := "checkIndex", desc := "(IILjava/util/function/BiFunction;)I" } : Jvm.MethodName)).before a0 Z = true := hw _ (List.mem_of_getElem? (i := 150) rfl)
theorem w151 {Z : State} {a0 : Array Value} (hw : ∀ d ∈ tables_1, d.before a0 Z = true) : (Jvm.Cond.static ({ cls := "jdk/internal/util/Preconditions", name := "checkIndex", desc := "(IILjava/util/function/BiFunction;)I" } : Jvm.MethodName)).before a0 Z = true := hw _ (List.mem_of_getElem? (i := 151) rfl)
theorem w152 {Z : State} {a0 : Array Value} (hw : ∀ d ∈ tables_1, d.before a0 Z = true) : (Jvm.Cond.initialized "jdk/internal/util/Preconditions").before a0 Z = true := hw _ (List.mem_of_getElem? (i := 152) rfl)
theorem w153 {Z : State} {a0 : Array Value} (hw : ∀ d ∈ tables_1, d.before a0 Z = true) : (Jvm.Cond.code ({ cls := "jdk/internal/util/Preconditions", name := "checkIndex", desc := "(IILjava/util/function/BiFunction;)I" } : Jvm.MethodName) jdk_41_method_11_code (3 : Nat) (Option.some Jvm.ClassFile.FieldType.int)).before a0 Z = true := hw _ (List.mem_of_getElem? (i := 153) rfl)
theorem w154 {Z : State} {a0 : Array Value} (hw : ∀ d ∈ tables_1, d.before a0 Z = true) : (Jvm.Cond.methodLink "java/util/ArrayList" (123 : Nat) ({ cls := "java/util/ArrayList", name := "elementData", desc := "(I)Ljava/lang/Object;" } : Jvm.MethodName)).before a0 Z = true := hw _ (List.mem_of_getElem? (i := 154) rfl)
theorem w155 {Z : State} {a0 : Array Value} (hw : ∀ d ∈ tables_1, d.before a0 Z = true) : (Jvm.Cond.declares ({ cls := "java/util/ArrayList", name := "elementData", desc := "(I)Ljava/lang/Object;" } : Jvm.MethodName)).before a0 Z = true := hw _ (List.mem_of_getElem? (i := 155) rfl)
theorem w156 {Z : State} {a0 : Array Value} (hw : ∀ d ∈ tables_1, d.before a0 Z = true) : (Jvm.Cond.instanceMethod ({ cls := "java/util/ArrayList", name := "elementData", desc := "(I)Ljava/lang/Object;" } : Jvm.MethodName)).before a0 Z = true := hw _ (List.mem_of_getElem? (i := 156) rfl)
theorem w157 {Z : State} {a0 : Array Value} (hw : ∀ d ∈ tables_1, d.before a0 Z = true) : (Jvm.Cond.selects "java/util/ArrayList" ({ cls := "java/util/ArrayList", name := "elementData", desc := "(I)Ljava/lang/Object;" } : Jvm.MethodName) ({ cls := "java/util/ArrayList", name := "elementData", desc := "(I)Ljava/lang/Object;" } : Jvm.MethodName)).before a0 Z = true := hw _ (List.mem_of_getElem? (i := 157) rfl)
theorem w158 {Z : State} {a0 : Array Value} (hw : ∀ d ∈ tables_1, d.before a0 Z = true) : (Jvm.Cond.code ({ cls := "java/util/ArrayList", name := "elementData", desc := "(I)Ljava/lang/Object;" } : Jvm.MethodName) jdk_38_method_18_code (2 : Nat) (Option.some (Jvm.ClassFile.FieldType.object "java/lang/Object"))).before a0 Z = true := hw _ (List.mem_of_getElem? (i := 158) rfl)
theorem w159 {Z : State} {a0 : Array Value} (hw : ∀ d ∈ tables_1, d.before a0 Z = true) : (Jvm.Cond.methodLink "com/example/cropmark/cropmark/RowProblemsPinLaw" (45 : Nat) ({ cls := "java/lang/String", name := "equals", desc := "(Ljava/lang/Object;)Z" } : Jvm.MethodName)).before a0 Z = true := hw _ (List.mem_of_getElem? (i := 159) rfl)
theorem w160 {Z : State} {a0 : Array Value} (hw : ∀ d ∈ tables_1, d.before a0 Z = true) : (Jvm.Cond.declares ({ cls := "java/lang/String", name := "equals", desc := "(Ljava/lang/Object;)Z" } : Jvm.MethodName)).before a0 Z = true := hw _ (List.mem_of_getElem? (i := 160) rfl)
theorem w161 {Z : State} {a0 : Array Value} (hw : ∀ d ∈ tables_1, d.before a0 Z = true) : (Jvm.Cond.instanceMethod ({ cls := "java/lang/String", name := "equals", desc := "(Ljava/lang/Object;)Z" } : Jvm.MethodName)).before a0 Z = true := hw _ (List.mem_of_getElem? (i := 161) rfl)
theorem w162 {Z : State} {a0 : Array Value} (hw : ∀ d ∈ tables_1, d.before a0 Z = true) : (Jvm.Cond.selects "java/lang/String" ({ cls := "java/lang/String", name := "equals", desc := "(Ljava/lang/Object;)Z" } : Jvm.MethodName) ({ cls := "java/lang/String", name := "equals", desc := "(Ljava/lang/Object;)Z" } : Jvm.MethodName)).before a0 Z = true := hw _ (List.mem_of_getElem? (i := 162) rfl)
theorem w163 {Z : State} {a0 : Array Value} (hw : ∀ d ∈ tables_1, d.before a0 Z = true) : (Jvm.Cond.code ({ cls := "java/lang/String", name := "equals", desc := "(Ljava/lang/Object;)Z" } : Jvm.MethodName) jdk_42_method_66_code (3 : Nat) (Option.some Jvm.ClassFile.FieldType.boolean)).before a0 Z = true := hw _ (List.mem_of_getElem? (i := 163) rfl)
theorem w164 {Z : State} {a0 : Array Value} (hw : ∀ d ∈ tables_1, d.before a0 Z = true) : (Jvm.Cond.fieldLink "java/lang/String" (38 : Nat) "java/lang/String" "COMPACT_STRINGS" "Z").before a0 Z = true := hw _ (List.mem_of_getElem? (i := 164) rfl)
theorem w165 {Z : State} {a0 : Array Value} (hw : ∀ d ∈ tables_1, d.before a0 Z = true) : (Jvm.Cond.methodLink "java/lang/String" (177 : Nat) ({ cls := "java/lang/StringUTF16", name := "compress", desc := "([CII)[B" } : Jvm.MethodName)).before a0 Z = true := hw _ (List.mem_of_getElem? (i := 165) rfl)
theorem w166 {Z : State} {a0 : Array Value} (hw : ∀ d ∈ tables_1, d.before a0 Z = true) : (Jvm.Cond.static ({ cls := "java/lang/StringUTF16", name := "compress", desc := "([CII)[B" } : Jvm.MethodName)).before a0 Z = true := hw _ (List.mem_of_getElem? (i := 166) rfl)
theorem w167 {Z : State} {a0 : Array Value} (hw : ∀ d ∈ tables_1, d.before a0 Z = true) : (Jvm.Cond.initialized "java/lang/StringUTF16").before a0 Z = true := hw _ (List.mem_of_getElem? (i := 167) rfl)
theorem w168 {Z : State} {a0 : Array Value} (hw : ∀ d ∈ tables_1, d.before a0 Z = true) : (Jvm.Cond.code ({ cls := "java/lang/StringUTF16", name := "compress", desc := "([CII)[B" } : Jvm.MethodName) jdk_52_method_16_code (6 : Nat) (Option.some (Jvm.ClassFile.FieldType.array Jvm.ClassFile.FieldType.byte))).before a0 Z = true := hw _ (List.mem_of_getElem? (i := 168) rfl)
theorem w169 {Z : State} {a0 : Array Value} (hw : ∀ d ∈ tables_1, d.before a0 Z = true) : (Jvm.Cond.methodLink "java/lang/StringUTF16" (115 : Nat) ({ cls := "java/lang/StringUTF16", name := "compress", desc := "([CI[BII)I" } : Jvm.MethodName)).before a0 Z = true := hw _ (List.mem_of_getElem? (i := 169) rfl)
theorem w170 {Z : State} {a0 : Array Value} (hw : ∀ d ∈ tables_1, d.before a0 Z = true) : (Jvm.Cond.static ({ cls := "java/lang/StringUTF16", name := "compress", desc := "([CI[BII)I" } : Jvm.MethodName)).before a0 Z = true := hw _ (List.mem_of_getElem? (i := 170) rfl)
theorem w171 {Z : State} {a0 : Array Value} (hw : ∀ d ∈ tables_1, d.before a0 Z = true) : (Jvm.Cond.code ({ cls := "java/lang/StringUTF16", name := "compress", desc := "([CI[BII)I" } : Jvm.MethodName) jdk_52_method_21_code (7 : Nat) (Option.some Jvm.ClassFile.FieldType.int)).before a0 Z = true := hw _ (List.mem_of_getElem? (i := 171) rfl)
theorem w172 {Z : State} {a0 : Array Value} (hw : ∀ d ∈ tables_1, d.before a0 Z = true) : (Jvm.Cond.methodLink "java/lang/String" (47 : Nat) ({ cls := "java/lang/StringUTF16", name := "coderFromArrayLen", desc := "([BI)B" } : Jvm.MethodName)).before a0 Z = true := hw _ (List.mem_of_getElem? (i := 172) rfl)
theorem w173 {Z : State} {a0 : Array Value} (hw : ∀ d ∈ tables_1, d.before a0 Z = true) : (Jvm.Cond.static ({ cls := "java/lang/StringUTF16", name := "coderFromArrayLen", desc := "([BI)B" } : Jvm.MethodName)).before a0 Z = true := hw _ (List.mem_of_getElem? (i := 173) rfl)
theorem w174 {Z : State} {a0 : Array Value} (hw : ∀ d ∈ tables_1, d.before a0 Z = true) : (Jvm.Cond.code ({ cls := "java/lang/StringUTF16", name := "coderFromArrayLen", desc := "([BI)B" } : Jvm.MethodName) jdk_52_method_15_code (2 : Nat) (Option.some Jvm.ClassFile.FieldType.byte)).before a0 Z = true := hw _ (List.mem_of_getElem? (i := 174) rfl)
theorem w175 {Z : State} {a0 : Array Value} (hw : ∀ d ∈ tables_1, d.before a0 Z = true) : (Jvm.Cond.methodLink "com/example/cropmark/cropmark/RowProblemsPinLaw" (12 : Nat) ({ cls := "java/lang/String", name := "valueOf", desc := "(C)Ljava/lang/String;" } : Jvm.MethodName)).before a0 Z = true := hw _ (List.mem_of_getElem? (i := 175) rfl)
theorem w176 {Z : State} {a0 : Array Value} (hw : ∀ d ∈ tables_1, d.before a0 Z = true) : (Jvm.Cond.static ({ cls := "java/lang/String", name := "valueOf", desc := "(C)Ljava/lang/String;" } : Jvm.MethodName)).before a0 Z = true := hw _ (List.mem_of_getElem? (i := 176) rfl)
theorem w177 {Z : State} {a0 : Array Value} (hw : ∀ d ∈ tables_1, d.before a0 Z = true) : (Jvm.Cond.code ({ cls := "java/lang/String", name := "valueOf", desc := "(C)Ljava/lang/String;" } : Jvm.MethodName) jdk_42_method_139_code (1 : Nat) (Option.some (Jvm.ClassFile.FieldType.object "java/lang/String"))).before a0 Z = true := hw _ (List.mem_of_getElem? (i := 177) rfl)
theorem w178 {Z : State} {a0 : Array Value} (hw : ∀ d ∈ tables_1, d.before a0 Z = true) : (Jvm.Cond.methodLink "java/lang/String" (1015 : Nat) ({ cls := "java/lang/StringLatin1", name := "canEncode", desc := "(C)Z" } : Jvm.MethodName)).before a0 Z = true := hw _ (List.mem_of_getElem? (i := 178) rfl)
theorem w179 {Z : State} {a0 : Array Value} (hw : ∀ d ∈ tables_1, d.before a0 Z = true) : (Jvm.Cond.static ({ cls := "java/lang/StringLatin1", name := "canEncode", desc := "(C)Z" } : Jvm.MethodName)).before a0 Z = true := hw _ (List.mem_of_getElem? (i := 179) rfl)
theorem w180 {Z : State} {a0 : Array Value} (hw : ∀ d ∈ tables_1, d.before a0 Z = true) : (Jvm.Cond.initialized "java/lang/StringLatin1").before a0 Z = true := hw _ (List.mem_of_getElem? (i := 180) rfl)
theorem w181 {Z : State} {a0 : Array Value} (hw : ∀ d ∈ tables_1, d.before a0 Z = true) : (Jvm.Cond.code ({ cls := "java/lang/StringLatin1", name := "canEncode", desc := "(C)Z" } : Jvm.MethodName) jdk_43_method_3_code (1 : Nat) (Option.some Jvm.ClassFile.FieldType.boolean)).before a0 Z = true := hw _ (List.mem_of_getElem? (i := 181) rfl)
theorem w182 {Z : State} {a0 : Array Value} (hw : ∀ d ∈ tables_1, d.before a0 Z = true) : (Jvm.Cond.classLink "java/lang/String" (10 : Nat) "java/lang/String").before a0 Z = true := hw _ (List.mem_of_getElem? (i := 182) rfl)
theorem w183 {Z : State} {a0 : Array Value} (hw : ∀ d ∈ tables_1, d.before a0 Z = true) : (Jvm.Cond.methodLink "java/lang/String" (1018 : Nat) ({ cls := "java/lang/StringLatin1", name := "toBytes", desc := "(C)[B" } : Jvm.MethodName)).before a0 Z = true := hw _ (List.mem_of_getElem? (i := 183) rfl)
theorem w184 {Z : State} {a0 : Array Value} (hw : ∀ d ∈ tables_1, d.before a0 Z = true) : (Jvm.Cond.static ({ cls := "java/lang/StringLatin1", name := "toBytes", desc := "(C)[B" } : Jvm.MethodName)).before a0 Z = true := hw _ (List.mem_of_getElem? (i := 184) rfl)
theorem w185 {Z : State} {a0 : Array Value} (hw : ∀ d ∈ tables_1, d.before a0 Z = true) : (Jvm.Cond.code ({ cls := "java/lang/StringLatin1", name := "toBytes", desc := "(C)[B" } : Jvm.MethodName) jdk_43_method_46_code (1 : Nat) (Option.some (Jvm.ClassFile.FieldType.array Jvm.ClassFile.FieldType.byte))).before a0 Z = true := hw _ (List.mem_of_getElem? (i := 185) rfl)
theorem w186 {Z : State} {a0 : Array Value} (hw : ∀ d ∈ tables_1, d.before a0 Z = true) : (Jvm.Cond.methodLink "java/lang/String" (209 : Nat) ({ cls := "java/lang/String", name := "<init>", desc := "([BB)V" } : Jvm.MethodName)).before a0 Z = true := hw _ (List.mem_of_getElem? (i := 186) rfl)
theorem w187 {Z : State} {a0 : Array Value} (hw : ∀ d ∈ tables_1, d.before a0 Z = true) : (Jvm.Cond.instanceMethod ({ cls := "java/lang/String", name := "<init>", desc := "([BB)V" } : Jvm.MethodName)).before a0 Z = true := hw _ (List.mem_of_getElem? (i := 187) rfl)
theorem w188 {Z : State} {a0 : Array Value} (hw : ∀ d ∈ tables_1, d.before a0 Z = true) : (Jvm.Cond.code ({ cls := "java/lang/String", name := "<init>", desc := "([BB)V" } : Jvm.MethodName) jdk_42_method_151_code (3 : Nat) (Option.none : Option Jvm.ClassFile.FieldType)).before a0 Z = true := hw _ (List.mem_of_getElem? (i := 188) rfl)
theorem own_wS {Z : State} {a0 : Array Value} (hw : ∀ d ∈ tables_1, d.before a0 Z = true) : ∀ d ∈ Bundle.stringAtoms, d.before a0 Z = true := by
  intro d hd
  simp only [Bundle.stringAtoms, List.mem_cons, List.not_mem_nil, or_false] at hd
  rcases hd with rfl | rfl | rfl | rfl | rfl | rfl | rfl
  · exact (w6 hw)
  · exact (w5 hw)
  · exact (w19 hw)
  · exact (w20 hw)
  · exact (w21 hw)
  · exact (w22 hw)
  · exact (w23 hw)
theorem d1_0 : decode method_2_code 0 = .ok (.iload_n 0, 1) := by decide +kernel
theorem d1_1 : decode method_2_code 1 = .ok (.bipush 16, 2) := by decide +kernel
theorem d1_3 : decode method_2_code 3 = .ok (.iushr, 1) := by decide +kernel
theorem d1_4 : decode method_2_code 4 = .ok (.sipush 32767, 3) := by decide +kernel
theorem d1_7 : decode method_2_code 7 = .ok (.iand, 1) := by decide +kernel
theorem d1_8 : decode method_2_code 8 = .ok (.iconst 3, 1) := by decide +kernel
theorem d1_9 : decode method_2_code 9 = .ok (.irem, 1) := by decide +kernel
theorem d1_10 : decode method_2_code 10 = .ok (.istore_n 1, 1) := by decide +kernel
theorem d1_11 : decode method_2_code 11 = .ok (.iload_n 0, 1) := by decide +kernel
theorem d1_12 : decode method_2_code 12 = .ok (.sipush 255, 3) := by decide +kernel
theorem d1_15 : decode method_2_code 15 = .ok (.iand, 1) := by decide +kernel
theorem d1_16 : decode method_2_code 16 = .ok (.i2c, 1) := by decide +kernel
theorem d1_17 : decode method_2_code 17 = .ok (.istore_n 2, 1) := by decide +kernel
theorem d1_18 : decode method_2_code 18 = .ok (.iload_n 0, 1) := by decide +kernel
theorem d1_19 : decode method_2_code 19 = .ok (.bipush 8, 2) := by decide +kernel
theorem d1_21 : decode method_2_code 21 = .ok (.iushr, 1) := by decide +kernel
theorem d1_22 : decode method_2_code 22 = .ok (.sipush 255, 3) := by decide +kernel
theorem d1_25 : decode method_2_code 25 = .ok (.iand, 1) := by decide +kernel
theorem d1_26 : decode method_2_code 26 = .ok (.i2c, 1) := by decide +kernel
theorem d1_27 : decode method_2_code 27 = .ok (.istore_n 3, 1) := by decide +kernel
theorem d1_28 : decode method_2_code 28 = .ok (.iload_n 1, 1) := by decide +kernel
theorem d1_29 : decode method_2_code 29 = .ok (.ifCond .ne 14, 3) := by decide +kernel
theorem d1_32 : decode method_2_code 32 = .ok (.new 7, 3) := by decide +kernel
theorem d1_35 : decode method_2_code 35 = .ok (.dup, 1) := by decide +kernel
theorem d1_36 : decode method_2_code 36 = .ok (.iconst 0, 1) := by decide +kernel
theorem d1_37 : decode method_2_code 37 = .ok (.newarray .char, 2) := by decide +kernel
theorem d1_39 : decode method_2_code 39 = .ok (.invokespecial 9, 3) := by decide +kernel
theorem d1_42 : decode method_2_code 42 = .ok (.areturn, 1) := by decide +kernel
theorem d1_43 : decode method_2_code 43 = .ok (.iload_n 1, 1) := by decide +kernel
theorem d1_44 : decode method_2_code 44 = .ok (.iconst 1, 1) := by decide +kernel
theorem d1_45 : decode method_2_code 45 = .ok (.if_icmp .ne 8, 3) := by decide +kernel
theorem d1_48 : decode method_2_code 48 = .ok (.iload_n 2, 1) := by decide +kernel
theorem d1_49 : decode method_2_code 49 = .ok (.invokestatic 12, 3) := by decide +kernel
theorem d1_52 : decode method_2_code 52 = .ok (.areturn, 1) := by decide +kernel
theorem d1_53 : decode method_2_code 53 = .ok (.new 7, 3) := by decide +kernel
theorem d1_56 : decode method_2_code 56 = .ok (.dup, 1) := by decide +kernel
theorem d1_57 : decode method_2_code 57 = .ok (.iconst 2, 1) := by decide +kernel
theorem d1_58 : decode method_2_code 58 = .ok (.newarray .char, 2) := by decide +kernel
theorem d1_60 : decode method_2_code 60 = .ok (.dup, 1) := by decide +kernel
theorem d1_61 : decode method_2_code 61 = .ok (.iconst 0, 1) := by decide +kernel
theorem d1_62 : decode method_2_code 62 = .ok (.iload_n 2, 1) := by decide +kernel
theorem d1_63 : decode method_2_code 63 = .ok (.castore, 1) := by decide +kernel
theorem d1_64 : decode method_2_code 64 = .ok (.dup, 1) := by decide +kernel
theorem d1_65 : decode method_2_code 65 = .ok (.iconst 1, 1) := by decide +kernel
theorem d1_66 : decode method_2_code 66 = .ok (.iload_n 3, 1) := by decide +kernel
theorem d1_67 : decode method_2_code 67 = .ok (.castore, 1) := by decide +kernel
theorem d1_68 : decode method_2_code 68 = .ok (.invokespecial 9, 3) := by decide +kernel
theorem d1_71 : decode method_2_code 71 = .ok (.areturn, 1) := by decide +kernel
theorem d2_0 : decode jdk_42_method_3_code 0 = .ok (.aload_n 0, 1) := by decide +kernel
theorem d2_1 : decode jdk_42_method_3_code 1 = .ok (.aload_n 1, 1) := by decide +kernel
theorem d2_2 : decode jdk_42_method_3_code 2 = .ok (.iconst 0, 1) := by decide +kernel
theorem d2_3 : decode jdk_42_method_3_code 3 = .ok (.aload_n 1, 1) := by decide +kernel
theorem d2_4 : decode jdk_42_method_3_code 4 = .ok (.arraylength, 1) := by decide +kernel
theorem d2_5 : decode jdk_42_method_3_code 5 = .ok (.aconst_null, 1) := by decide +kernel
theorem d2_6 : decode jdk_42_method_3_code 6 = .ok (.invokespecial 27, 3) := by decide +kernel
theorem d2_9 : decode jdk_42_method_3_code 9 = .ok (.return_, 1) := by decide +kernel
theorem d3_0 : decode jdk_42_method_149_code 0 = .ok (.aload_n 0, 1) := by decide +kernel
theorem d3_1 : decode jdk_42_method_149_code 1 = .ok (.invokespecial 1, 3) := by decide +kernel
theorem d3_4 : decode jdk_42_method_149_code 4 = .ok (.iload_n 3, 1) := by decide +kernel
theorem d3_5 : decode jdk_42_method_149_code 5 = .ok (.ifCond .ne 22, 3) := by decide +kernel
theorem d3_8 : decode jdk_42_method_149_code 8 = .ok (.aload_n 0, 1) := by decide +kernel
theorem d3_9 : decode jdk_42_method_149_code 9 = .ok (.ldc 7, 2) := by decide +kernel
theorem d3_11 : decode jdk_42_method_149_code 11 = .ok (.getfield 9, 3) := by decide +kernel
theorem d3_14 : decode jdk_42_method_149_code 14 = .ok (.putfield 9, 3) := by decide +kernel
theorem d3_17 : decode jdk_42_method_149_code 17 = .ok (.aload_n 0, 1) := by decide +kernel
theorem d3_18 : decode jdk_42_method_149_code 18 = .ok (.ldc 7, 2) := by decide +kernel
theorem d3_20 : decode jdk_42_method_149_code 20 = .ok (.getfield 15, 3) := by decide +kernel
theorem d3_23 : decode jdk_42_method_149_code 23 = .ok (.putfield 15, 3) := by decide +kernel
theorem d3_26 : decode jdk_42_method_149_code 26 = .ok (.return_, 1) := by decide +kernel
theorem d3_27 : decode jdk_42_method_149_code 27 = .ok (.getstatic 38, 3) := by decide +kernel
theorem d3_30 : decode jdk_42_method_149_code 30 = .ok (.ifCond .eq 28, 3) := by decide +kernel
theorem d3_33 : decode jdk_42_method_149_code 33 = .ok (.aload_n 1, 1) := by decide +kernel
theorem d3_34 : decode jdk_42_method_149_code 34 = .ok (.iload_n 2, 1) := by decide +kernel
theorem d3_35 : decode jdk_42_method_149_code 35 = .ok (.iload_n 3, 1) := by decide +kernel
theorem d3_36 : decode jdk_42_method_149_code 36 = .ok (.invokestatic 177, 3) := by decide +kernel
theorem d3_39 : decode jdk_42_method_149_code 39 = .ok (.astore 5, 2) := by decide +kernel
theorem d3_41 : decode jdk_42_method_149_code 41 = .ok (.aload_n 0, 1) := by decide +kernel
theorem d3_42 : decode jdk_42_method_149_code 42 = .ok (.aload 5, 2) := by decide +kernel
theorem d3_44 : decode jdk_42_method_149_code 44 = .ok (.iload_n 3, 1) := by decide +kernel
theorem d3_45 : decode jdk_42_method_149_code 45 = .ok (.invokestatic 47, 3) := by decide +kernel
theorem d3_48 : decode jdk_42_method_149_code 48 = .ok (.putfield 15, 3) := by decide +kernel
theorem d3_51 : decode jdk_42_method_149_code 51 = .ok (.aload_n 0, 1) := by decide +kernel
theorem d3_52 : decode jdk_42_method_149_code 52 = .ok (.aload 5, 2) := by decide +kernel
theorem d3_54 : decode jdk_42_method_149_code 54 = .ok (.putfield 9, 3) := by decide +kernel
theorem d3_57 : decode jdk_42_method_149_code 57 = .ok (.return_, 1) := by decide +kernel
theorem d5_0 : decode prog_67_method_2_code 0 = .ok (.aload_n 0, 1) := by decide +kernel
theorem d5_1 : decode prog_67_method_2_code 1 = .ok (.invokespecial 1, 3) := by decide +kernel
theorem d5_4 : decode prog_67_method_2_code 4 = .ok (.aload_n 0, 1) := by decide +kernel
theorem d5_5 : decode prog_67_method_2_code 5 = .ok (.iload_n 1, 1) := by decide +kernel
theorem d5_6 : decode prog_67_method_2_code 6 = .ok (.putfield 7, 3) := by decide +kernel
theorem d5_9 : decode prog_67_method_2_code 9 = .ok (.aload_n 0, 1) := by decide +kernel
theorem d5_10 : decode prog_67_method_2_code 10 = .ok (.aload_n 2, 1) := by decide +kernel
theorem d5_11 : decode prog_67_method_2_code 11 = .ok (.putfield 13, 3) := by decide +kernel
theorem d5_14 : decode prog_67_method_2_code 14 = .ok (.aload_n 0, 1) := by decide +kernel
theorem d5_15 : decode prog_67_method_2_code 15 = .ok (.aload_n 3, 1) := by decide +kernel
theorem d5_16 : decode prog_67_method_2_code 16 = .ok (.putfield 51, 3) := by decide +kernel
theorem d5_19 : decode prog_67_method_2_code 19 = .ok (.aload_n 0, 1) := by decide +kernel
theorem d5_20 : decode prog_67_method_2_code 20 = .ok (.aload 4, 2) := by decide +kernel
theorem d5_22 : decode prog_67_method_2_code 22 = .ok (.putfield 17, 3) := by decide +kernel
theorem d5_25 : decode prog_67_method_2_code 25 = .ok (.aload_n 0, 1) := by decide +kernel
theorem d5_26 : decode prog_67_method_2_code 26 = .ok (.aload 5, 2) := by decide +kernel
theorem d5_28 : decode prog_67_method_2_code 28 = .ok (.putfield 21, 3) := by decide +kernel
theorem d5_31 : decode prog_67_method_2_code 31 = .ok (.return_, 1) := by decide +kernel
theorem d6_0 : decode prog_67_method_19_code 0 = .ok (.aload_n 0, 1) := by decide +kernel
theorem d6_1 : decode prog_67_method_19_code 1 = .ok (.getfield 259, 3) := by decide +kernel
theorem d6_4 : decode prog_67_method_19_code 4 = .ok (.ifnonnull 9, 3) := by decide +kernel
theorem d6_7 : decode prog_67_method_19_code 7 = .ok (.invokestatic 270, 3) := by decide +kernel
theorem d6_10 : decode prog_67_method_19_code 10 = .ok (.goto 7, 3) := by decide +kernel
theorem d6_13 : decode prog_67_method_19_code 13 = .ok (.aload_n 0, 1) := by decide +kernel
theorem d6_14 : decode prog_67_method_19_code 14 = .ok (.getfield 259, 3) := by decide +kernel
theorem d6_17 : decode prog_67_method_19_code 17 = .ok (.areturn, 1) := by decide +kernel
theorem d7_0 : decode jdk_40_method_36_code 0 = .ok (.getstatic 90, 3) := by decide +kernel
theorem d7_3 : decode jdk_40_method_36_code 3 = .ok (.areturn, 1) := by decide +kernel
theorem d8_0 : decode jdk_45_method_3_code 0 = .ok (.aload_n 0, 1) := by decide +kernel
theorem d8_1 : decode jdk_45_method_3_code 1 = .ok (.getfield 7, 3) := by decide +kernel
theorem d8_4 : decode jdk_45_method_3_code 4 = .ok (.arraylength, 1) := by decide +kernel
theorem d8_5 : decode jdk_45_method_3_code 5 = .ok (.ireturn, 1) := by decide +kernel
theorem d9_0 : decode prog_67_method_18_code 0 = .ok (.aload_n 0, 1) := by decide +kernel
theorem d9_1 : decode prog_67_method_18_code 1 = .ok (.getfield 259, 3) := by decide +kernel
theorem d9_4 : decode prog_67_method_18_code 4 = .ok (.ifnonnull 14, 3) := by decide +kernel
theorem d9_7 : decode prog_67_method_18_code 7 = .ok (.aload_n 0, 1) := by decide +kernel
theorem d9_8 : decode prog_67_method_18_code 8 = .ok (.new 263, 3) := by decide +kernel
theorem d9_11 : decode prog_67_method_18_code 11 = .ok (.dup, 1) := by decide +kernel
theorem d9_12 : decode prog_67_method_18_code 12 = .ok (.invokespecial 265, 3) := by decide +kernel
theorem d9_15 : decode prog_67_method_18_code 15 = .ok (.putfield 259, 3) := by decide +kernel
theorem d9_18 : decode prog_67_method_18_code 18 = .ok (.aload_n 0, 1) := by decide +kernel
theorem d9_19 : decode prog_67_method_18_code 19 = .ok (.getfield 259, 3) := by decide +kernel
theorem d9_22 : decode prog_67_method_18_code 22 = .ok (.aload_n 1, 1) := by decide +kernel
theorem d9_23 : decode prog_67_method_18_code 23 = .ok (.invokeinterface 266 2, 5) := by decide +kernel
theorem d9_28 : decode prog_67_method_18_code 28 = .ok (.pop, 1) := by decide +kernel
theorem d9_29 : decode prog_67_method_18_code 29 = .ok (.return_, 1) := by decide +kernel
theorem d10_0 : decode jdk_38_method_2_code 0 = .ok (.aload_n 0, 1) := by decide +kernel
theorem d10_1 : decode jdk_38_method_2_code 1 = .ok (.invokespecial 1, 3) := by decide +kernel
theorem d10_4 : decode jdk_38_method_2_code 4 = .ok (.aload_n 0, 1) := by decide +kernel
theorem d10_5 : decode jdk_38_method_2_code 5 = .ok (.getstatic 39, 3) := by decide +kernel
theorem d10_8 : decode jdk_38_method_2_code 8 = .ok (.putfield 9, 3) := by decide +kernel
theorem d10_11 : decode jdk_38_method_2_code 11 = .ok (.return_, 1) := by decide +kernel
theorem d11_0 : decode jdk_39_method_1_code 0 = .ok (.aload_n 0, 1) := by decide +kernel
theorem d11_1 : decode jdk_39_method_1_code 1 = .ok (.invokespecial 1, 3) := by decide +kernel
theorem d11_4 : decode jdk_39_method_1_code 4 = .ok (.aload_n 0, 1) := by decide +kernel
theorem d11_5 : decode jdk_39_method_1_code 5 = .ok (.iconst 0, 1) := by decide +kernel
theorem d11_6 : decode jdk_39_method_1_code 6 = .ok (.putfield 7, 3) := by decide +kernel
theorem d11_9 : decode jdk_39_method_1_code 9 = .ok (.return_, 1) := by decide +kernel
theorem d12_0 : decode jdk_22_method_1_code 0 = .ok (.aload_n 0, 1) := by decide +kernel
theorem d12_1 : decode jdk_22_method_1_code 1 = .ok (.invokespecial 1, 3) := by decide +kernel
theorem d12_4 : decode jdk_22_method_1_code 4 = .ok (.return_, 1) := by decide +kernel
theorem d13_0 : decode jdk_38_method_25_code 0 = .ok (.aload_n 0, 1) := by decide +kernel
theorem d13_1 : decode jdk_38_method_25_code 1 = .ok (.dup, 1) := by decide +kernel
theorem d13_2 : decode jdk_38_method_25_code 2 = .ok (.getfield 63, 3) := by decide +kernel
theorem d13_5 : decode jdk_38_method_25_code 5 = .ok (.iconst 1, 1) := by decide +kernel
theorem d13_6 : decode jdk_38_method_25_code 6 = .ok (.iadd, 1) := by decide +kernel
theorem d13_7 : decode jdk_38_method_25_code 7 = .ok (.putfield 63, 3) := by decide +kernel
theorem d13_10 : decode jdk_38_method_25_code 10 = .ok (.aload_n 0, 1) := by decide +kernel
theorem d13_11 : decode jdk_38_method_25_code 11 = .ok (.aload_n 1, 1) := by decide +kernel
theorem d13_12 : decode jdk_38_method_25_code 12 = .ok (.aload_n 0, 1) := by decide +kernel
theorem d13_13 : decode jdk_38_method_25_code 13 = .ok (.getfield 9, 3) := by decide +kernel
theorem d13_16 : decode jdk_38_method_25_code 16 = .ok (.aload_n 0, 1) := by decide +kernel
theorem d13_17 : decode jdk_38_method_25_code 17 = .ok (.getfield 48, 3) := by decide +kernel
theorem d13_20 : decode jdk_38_method_25_code 20 = .ok (.invokevirtual 131, 3) := by decide +kernel
theorem d13_23 : decode jdk_38_method_25_code 23 = .ok (.iconst 1, 1) := by decide +kernel
theorem d13_24 : decode jdk_38_method_25_code 24 = .ok (.ireturn, 1) := by decide +kernel
theorem d14_0 : decode jdk_38_method_24_code 0 = .ok (.iload_n 3, 1) := by decide +kernel
theorem d14_1 : decode jdk_38_method_24_code 1 = .ok (.aload_n 2, 1) := by decide +kernel
theorem d14_2 : decode jdk_38_method_24_code 2 = .ok (.arraylength, 1) := by decide +kernel
theorem d14_3 : decode jdk_38_method_24_code 3 = .ok (.if_icmp .ne 8, 3) := by decide +kernel
theorem d14_6 : decode jdk_38_method_24_code 6 = .ok (.aload_n 0, 1) := by decide +kernel
theorem d14_7 : decode jdk_38_method_24_code 7 = .ok (.invokevirtual 129, 3) := by decide +kernel
theorem d14_10 : decode jdk_38_method_24_code 10 = .ok (.astore_n 2, 1) := by decide +kernel
theorem d14_11 : decode jdk_38_method_24_code 11 = .ok (.aload_n 2, 1) := by decide +kernel
theorem d14_12 : decode jdk_38_method_24_code 12 = .ok (.iload_n 3, 1) := by decide +kernel
theorem d14_13 : decode jdk_38_method_24_code 13 = .ok (.aload_n 1, 1) := by decide +kernel
theorem d14_14 : decode jdk_38_method_24_code 14 = .ok (.aastore, 1) := by decide +kernel
theorem d14_15 : decode jdk_38_method_24_code 15 = .ok (.aload_n 0, 1) := by decide +kernel
theorem d14_16 : decode jdk_38_method_24_code 16 = .ok (.iload_n 3, 1) := by decide +kernel
theorem d14_17 : decode jdk_38_method_24_code 17 = .ok (.iconst 1, 1) := by decide +kernel
theorem d14_18 : decode jdk_38_method_24_code 18 = .ok (.iadd, 1) := by decide +kernel
theorem d14_19 : decode jdk_38_method_24_code 19 = .ok (.putfield 48, 3) := by decide +kernel
theorem d14_22 : decode jdk_38_method_24_code 22 = .ok (.return_, 1) := by decide +kernel
theorem d15_0 : decode jdk_38_method_7_code 0 = .ok (.aload_n 0, 1) := by decide +kernel
theorem d15_1 : decode jdk_38_method_7_code 1 = .ok (.aload_n 0, 1) := by decide +kernel
theorem d15_2 : decode jdk_38_method_7_code 2 = .ok (.getfield 48, 3) := by decide +kernel
theorem d15_5 : decode jdk_38_method_7_code 5 = .ok (.iconst 1, 1) := by decide +kernel
theorem d15_6 : decode jdk_38_method_7_code 6 = .ok (.iadd, 1) := by decide +kernel
theorem d15_7 : decode jdk_38_method_7_code 7 = .ok (.invokevirtual 69, 3) := by decide +kernel
theorem d15_10 : decode jdk_38_method_7_code 10 = .ok (.areturn, 1) := by decide +kernel
theorem d16_0 : decode jdk_38_method_6_code 0 = .ok (.aload_n 0, 1) := by decide +kernel
theorem d16_1 : decode jdk_38_method_6_code 1 = .ok (.getfield 9, 3) := by decide +kernel
theorem d16_4 : decode jdk_38_method_6_code 4 = .ok (.arraylength, 1) := by decide +kernel
theorem d16_5 : decode jdk_38_method_6_code 5 = .ok (.istore_n 2, 1) := by decide +kernel
theorem d16_6 : decode jdk_38_method_6_code 6 = .ok (.iload_n 2, 1) := by decide +kernel
theorem d16_7 : decode jdk_38_method_6_code 7 = .ok (.ifCond .gt 13, 3) := by decide +kernel
theorem d16_10 : decode jdk_38_method_6_code 10 = .ok (.aload_n 0, 1) := by decide +kernel
theorem d16_11 : decode jdk_38_method_6_code 11 = .ok (.getfield 9, 3) := by decide +kernel
theorem d16_14 : decode jdk_38_method_6_code 14 = .ok (.getstatic 39, 3) := by decide +kernel
theorem d16_17 : decode jdk_38_method_6_code 17 = .ok (.if_acmp .eq 28, 3) := by decide +kernel
theorem d16_45 : decode jdk_38_method_6_code 45 = .ok (.aload_n 0, 1) := by decide +kernel
theorem d16_46 : decode jdk_38_method_6_code 46 = .ok (.bipush 10, 2) := by decide +kernel
theorem d16_48 : decode jdk_38_method_6_code 48 = .ok (.iload_n 1, 1) := by decide +kernel
theorem d16_49 : decode jdk_38_method_6_code 49 = .ok (.invokestatic 79, 3) := by decide +kernel
theorem d16_52 : decode jdk_38_method_6_code 52 = .ok (.anewarray 7, 3) := by decide +kernel
theorem d16_55 : decode jdk_38_method_6_code 55 = .ok (.dup_x1, 1) := by decide +kernel
theorem d16_56 : decode jdk_38_method_6_code 56 = .ok (.putfield 9, 3) := by decide +kernel
theorem d16_59 : decode jdk_38_method_6_code 59 = .ok (.areturn, 1) := by decide +kernel
theorem d17_0 : decode jdk_29_method_65_code 0 = .ok (.iload_n 0, 1) := by decide +kernel
theorem d17_1 : decode jdk_29_method_65_code 1 = .ok (.iload_n 1, 1) := by decide +kernel
theorem d17_2 : decode jdk_29_method_65_code 2 = .ok (.if_icmp .lt 7, 3) := by decide +kernel
theorem d17_5 : decode jdk_29_method_65_code 5 = .ok (.iload_n 0, 1) := by decide +kernel
theorem d17_6 : decode jdk_29_method_65_code 6 = .ok (.goto 4, 3) := by decide +kernel
theorem d17_10 : decode jdk_29_method_65_code 10 = .ok (.ireturn, 1) := by decide +kernel
theorem d18_0 : decode jdk_38_method_8_code 0 = .ok (.aload_n 0, 1) := by decide +kernel
theorem d18_1 : decode jdk_38_method_8_code 1 = .ok (.getfield 48, 3) := by decide +kernel
theorem d18_4 : decode jdk_38_method_8_code 4 = .ok (.ireturn, 1) := by decide +kernel
theorem d19_0 : decode jdk_38_method_20_code 0 = .ok (.iload_n 1, 1) := by decide +kernel
theorem d19_1 : decode jdk_38_method_20_code 1 = .ok (.aload_n 0, 1) := by decide +kernel
theorem d19_2 : decode jdk_38_method_20_code 2 = .ok (.getfield 48, 3) := by decide +kernel
theorem d19_5 : decode jdk_38_method_20_code 5 = .ok (.invokestatic 118, 3) := by decide +kernel
theorem d19_8 : decode jdk_38_method_20_code 8 = .ok (.pop, 1) := by decide +kernel
theorem d19_9 : decode jdk_38_method_20_code 9 = .ok (.aload_n 0, 1) := by decide +kernel
theorem d19_10 : decode jdk_38_method_20_code 10 = .ok (.iload_n 1, 1) := by decide +kernel
theorem d19_11 : decode jdk_38_method_20_code 11 = .ok (.invokevirtual 123, 3) := by decide +kernel
theorem d19_14 : decode jdk_38_method_20_code 14 = .ok (.areturn, 1) := by decide +kernel
theorem d20_0 : decode jdk_31_method_17_code 0 = .ok (.iload_n 0, 1) := by decide +kernel
theorem d20_1 : decode jdk_31_method_17_code 1 = .ok (.iload_n 1, 1) := by decide +kernel
theorem d20_2 : decode jdk_31_method_17_code 2 = .ok (.aconst_null, 1) := by decide +kernel
theorem d20_3 : decode jdk_31_method_17_code 3 = .ok (.invokestatic 105, 3) := by decide +kernel
theorem d20_6 : decode jdk_31_method_17_code 6 = .ok (.ireturn, 1) := by decide +kernel
theorem d21_0 : decode jdk_41_method_11_code 0 = .ok (.iload_n 0, 1) := by decide +kernel
theorem d21_1 : decode jdk_41_method_11_code 1 = .ok (.ifCond .lt 8, 3) := by decide +kernel
theorem d21_4 : decode jdk_41_method_11_code 4 = .ok (.iload_n 0, 1) := by decide +kernel
theorem d21_5 : decode jdk_41_method_11_code 5 = .ok (.iload_n 1, 1) := by decide +kernel
theorem d21_6 : decode jdk_41_method_11_code 6 = .ok (.if_icmp .lt 10, 3) := by decide +kernel
theorem d21_16 : decode jdk_41_method_11_code 16 = .ok (.iload_n 0, 1) := by decide +kernel
theorem d21_17 : decode jdk_41_method_11_code 17 = .ok (.ireturn, 1) := by decide +kernel
theorem d22_0 : decode jdk_38_method_18_code 0 = .ok (.aload_n 0, 1) := by decide +kernel
theorem d22_1 : decode jdk_38_method_18_code 1 = .ok (.getfield 9, 3) := by decide +kernel
theorem d22_4 : decode jdk_38_method_18_code 4 = .ok (.iload_n 1, 1) := by decide +kernel
theorem d22_5 : decode jdk_38_method_18_code 5 = .ok (.aaload, 1) := by decide +kernel
theorem d22_6 : decode jdk_38_method_18_code 6 = .ok (.areturn, 1) := by decide +kernel
theorem d23_0 : decode jdk_42_method_66_code 0 = .ok (.aload_n 0, 1) := by decide +kernel
theorem d23_1 : decode jdk_42_method_66_code 1 = .ok (.aload_n 1, 1) := by decide +kernel
theorem d23_2 : decode jdk_42_method_66_code 2 = .ok (.if_acmp .ne 5, 3) := by decide +kernel
theorem d23_5 : decode jdk_42_method_66_code 5 = .ok (.iconst 1, 1) := by decide +kernel
theorem d23_6 : decode jdk_42_method_66_code 6 = .ok (.ireturn, 1) := by decide +kernel
theorem d24_0 : decode jdk_52_method_16_code 0 = .ok (.iload_n 2, 1) := by decide +kernel
theorem d24_1 : decode jdk_52_method_16_code 1 = .ok (.newarray .byte, 2) := by decide +kernel
theorem d24_3 : decode jdk_52_method_16_code 3 = .ok (.astore_n 3, 1) := by decide +kernel
theorem d24_4 : decode jdk_52_method_16_code 4 = .ok (.aload_n 0, 1) := by decide +kernel
theorem d24_5 : decode jdk_52_method_16_code 5 = .ok (.iload_n 1, 1) := by decide +kernel
theorem d24_6 : decode jdk_52_method_16_code 6 = .ok (.aload_n 3, 1) := by decide +kernel
theorem d24_7 : decode jdk_52_method_16_code 7 = .ok (.iconst 0, 1) := by decide +kernel
theorem d24_8 : decode jdk_52_method_16_code 8 = .ok (.iload_n 2, 1) := by decide +kernel
theorem d24_9 : decode jdk_52_method_16_code 9 = .ok (.invokestatic 115, 3) := by decide +kernel
theorem d24_12 : decode jdk_52_method_16_code 12 = .ok (.istore 4, 2) := by decide +kernel
theorem d24_14 : decode jdk_52_method_16_code 14 = .ok (.iload 4, 2) := by decide +kernel
theorem d24_16 : decode jdk_52_method_16_code 16 = .ok (.iload_n 2, 1) := by decide +kernel
theorem d24_17 : decode jdk_52_method_16_code 17 = .ok (.if_icmp .eq 40, 3) := by decide +kernel
theorem d24_57 : decode jdk_52_method_16_code 57 = .ok (.aload_n 3, 1) := by decide +kernel
theorem d24_58 : decode jdk_52_method_16_code 58 = .ok (.areturn, 1) := by decide +kernel
theorem d25_0 : decode jdk_52_method_21_code 0 = .ok (.iconst 0, 1) := by decide +kernel
theorem d25_1 : decode jdk_52_method_21_code 1 = .ok (.istore 5, 2) := by decide +kernel
theorem d25_3 : decode jdk_52_method_21_code 3 = .ok (.iload 5, 2) := by decide +kernel
theorem d25_5 : decode jdk_52_method_21_code 5 = .ok (.iload 4, 2) := by decide +kernel
theorem d25_7 : decode jdk_52_method_21_code 7 = .ok (.if_icmp .ge 37, 3) := by decide +kernel
theorem d25_10 : decode jdk_52_method_21_code 10 = .ok (.aload_n 0, 1) := by decide +kernel
theorem d25_11 : decode jdk_52_method_21_code 11 = .ok (.iload_n 1, 1) := by decide +kernel
theorem d25_12 : decode jdk_52_method_21_code 12 = .ok (.caload, 1) := by decide +kernel
theorem d25_13 : decode jdk_52_method_21_code 13 = .ok (.istore 6, 2) := by decide +kernel
theorem d25_15 : decode jdk_52_method_21_code 15 = .ok (.iload 6, 2) := by decide +kernel
theorem d25_17 : decode jdk_52_method_21_code 17 = .ok (.sipush 255, 3) := by decide +kernel
theorem d25_20 : decode jdk_52_method_21_code 20 = .ok (.if_icmp .le 6, 3) := by decide +kernel
theorem d25_26 : decode jdk_52_method_21_code 26 = .ok (.aload_n 2, 1) := by decide +kernel
theorem d25_27 : decode jdk_52_method_21_code 27 = .ok (.iload_n 3, 1) := by decide +kernel
theorem d25_28 : decode jdk_52_method_21_code 28 = .ok (.iload 6, 2) := by decide +kernel
theorem d25_30 : decode jdk_52_method_21_code 30 = .ok (.i2b, 1) := by decide +kernel
theorem d25_31 : decode jdk_52_method_21_code 31 = .ok (.bastore, 1) := by decide +kernel
theorem d25_32 : decode jdk_52_method_21_code 32 = .ok (.iinc 1 1, 3) := by decide +kernel
theorem d25_35 : decode jdk_52_method_21_code 35 = .ok (.iinc 3 1, 3) := by decide +kernel
theorem d25_38 : decode jdk_52_method_21_code 38 = .ok (.iinc 5 1, 3) := by decide +kernel
theorem d25_41 : decode jdk_52_method_21_code 41 = .ok (.goto (-38), 3) := by decide +kernel
theorem d25_44 : decode jdk_52_method_21_code 44 = .ok (.iload 4, 2) := by decide +kernel
theorem d25_46 : decode jdk_52_method_21_code 46 = .ok (.ireturn, 1) := by decide +kernel
theorem d26_0 : decode jdk_52_method_15_code 0 = .ok (.iload_n 1, 1) := by decide +kernel
theorem d26_1 : decode jdk_52_method_15_code 1 = .ok (.aload_n 0, 1) := by decide +kernel
theorem d26_2 : decode jdk_52_method_15_code 2 = .ok (.arraylength, 1) := by decide +kernel
theorem d26_3 : decode jdk_52_method_15_code 3 = .ok (.isub, 1) := by decide +kernel
theorem d26_4 : decode jdk_52_method_15_code 4 = .ok (.bipush 31, 2) := by decide +kernel
theorem d26_6 : decode jdk_52_method_15_code 6 = .ok (.iushr, 1) := by decide +kernel
theorem d26_7 : decode jdk_52_method_15_code 7 = .ok (.i2b, 1) := by decide +kernel
theorem d26_8 : decode jdk_52_method_15_code 8 = .ok (.ireturn, 1) := by decide +kernel
theorem d27_0 : decode jdk_42_method_139_code 0 = .ok (.getstatic 38, 3) := by decide +kernel
theorem d27_3 : decode jdk_42_method_139_code 3 = .ok (.ifCond .eq 23, 3) := by decide +kernel
theorem d27_6 : decode jdk_42_method_139_code 6 = .ok (.iload_n 0, 1) := by decide +kernel
theorem d27_7 : decode jdk_42_method_139_code 7 = .ok (.invokestatic 1015, 3) := by decide +kernel
theorem d27_10 : decode jdk_42_method_139_code 10 = .ok (.ifCond .eq 16, 3) := by decide +kernel
theorem d27_13 : decode jdk_42_method_139_code 13 = .ok (.new 10, 3) := by decide +kernel
theorem d27_16 : decode jdk_42_method_139_code 16 = .ok (.dup, 1) := by decide +kernel
theorem d27_17 : decode jdk_42_method_139_code 17 = .ok (.iload_n 0, 1) := by decide +kernel
theorem d27_18 : decode jdk_42_method_139_code 18 = .ok (.invokestatic 1018, 3) := by decide +kernel
theorem d27_21 : decode jdk_42_method_139_code 21 = .ok (.iconst 0, 1) := by decide +kernel
theorem d27_22 : decode jdk_42_method_139_code 22 = .ok (.invokespecial 209, 3) := by decide +kernel
theorem d27_25 : decode jdk_42_method_139_code 25 = .ok (.areturn, 1) := by decide +kernel
theorem d28_0 : decode jdk_43_method_3_code 0 = .ok (.iload_n 0, 1) := by decide +kernel
theorem d28_1 : decode jdk_43_method_3_code 1 = .ok (.sipush 255, 3) := by decide +kernel
theorem d28_4 : decode jdk_43_method_3_code 4 = .ok (.if_icmp .gt 7, 3) := by decide +kernel
theorem d28_7 : decode jdk_43_method_3_code 7 = .ok (.iconst 1, 1) := by decide +kernel
theorem d28_8 : decode jdk_43_method_3_code 8 = .ok (.goto 4, 3) := by decide +kernel
theorem d28_12 : decode jdk_43_method_3_code 12 = .ok (.ireturn, 1) := by decide +kernel
theorem d29_0 : decode jdk_43_method_46_code 0 = .ok (.iconst 1, 1) := by decide +kernel
theorem d29_1 : decode jdk_43_method_46_code 1 = .ok (.newarray .byte, 2) := by decide +kernel
theorem d29_3 : decode jdk_43_method_46_code 3 = .ok (.dup, 1) := by decide +kernel
theorem d29_4 : decode jdk_43_method_46_code 4 = .ok (.iconst 0, 1) := by decide +kernel
theorem d29_5 : decode jdk_43_method_46_code 5 = .ok (.iload_n 0, 1) := by decide +kernel
theorem d29_6 : decode jdk_43_method_46_code 6 = .ok (.i2b, 1) := by decide +kernel
theorem d29_7 : decode jdk_43_method_46_code 7 = .ok (.bastore, 1) := by decide +kernel
theorem d29_8 : decode jdk_43_method_46_code 8 = .ok (.areturn, 1) := by decide +kernel
theorem d30_0 : decode jdk_42_method_151_code 0 = .ok (.aload_n 0, 1) := by decide +kernel
theorem d30_1 : decode jdk_42_method_151_code 1 = .ok (.invokespecial 1, 3) := by decide +kernel
theorem d30_4 : decode jdk_42_method_151_code 4 = .ok (.aload_n 0, 1) := by decide +kernel
theorem d30_5 : decode jdk_42_method_151_code 5 = .ok (.aload_n 1, 1) := by decide +kernel
theorem d30_6 : decode jdk_42_method_151_code 6 = .ok (.putfield 9, 3) := by decide +kernel
theorem d30_9 : decode jdk_42_method_151_code 9 = .ok (.aload_n 0, 1) := by decide +kernel
theorem d30_10 : decode jdk_42_method_151_code 10 = .ok (.iload_n 2, 1) := by decide +kernel
theorem d30_11 : decode jdk_42_method_151_code 11 = .ok (.putfield 15, 3) := by decide +kernel
theorem d30_14 : decode jdk_42_method_151_code 14 = .ok (.return_, 1) := by decide +kernel
theorem pd_0 : parseMethodDescriptor "([CIILjava/lang/Void;)V" = some ⟨[(.array .char), .int, .int, (.object "java/lang/Void")], none⟩ := by decide +kernel
theorem pd_1 : parseMethodDescriptor "([C)V" = some ⟨[(.array .char)], none⟩ := by decide +kernel
theorem pd_2 : parseMethodDescriptor "(C)Z" = some ⟨[.char], some .boolean⟩ := by decide +kernel
theorem pd_3 : parseMethodDescriptor "(C)[B" = some ⟨[.char], some (.array .byte)⟩ := by decide +kernel
theorem pd_4 : parseMethodDescriptor "([BB)V" = some ⟨[(.array .byte), .byte], none⟩ := by decide +kernel
theorem pd_5 : parseMethodDescriptor "(C)Ljava/lang/String;" = some ⟨[.char], some (.object "java/lang/String")⟩ := by decide +kernel
theorem pd_6 : parseMethodDescriptor "([CI[BII)I" = some ⟨[(.array .char), .int, (.array .byte), .int, .int], some .int⟩ := by decide +kernel
theorem pd_7 : parseMethodDescriptor "([CII)[B" = some ⟨[(.array .char), .int, .int], some (.array .byte)⟩ := by decide +kernel
theorem pd_8 : parseMethodDescriptor "([BI)B" = some ⟨[(.array .byte), .int], some .byte⟩ := by decide +kernel
theorem pd_9 : parseMethodDescriptor "(I)Ljava/lang/String;" = some ⟨[.int], some (.object "java/lang/String")⟩ := by decide +kernel
theorem pd_10 : parseMethodDescriptor "(ILjava/util/Map;[B[I[I)V" = some ⟨[.int, (.object "java/util/Map"), (.array .byte), (.array .int), (.array .int)], none⟩ := by decide +kernel
theorem pd_11 : parseMethodDescriptor "()Ljava/util/List;" = some ⟨[], some (.object "java/util/List")⟩ := by decide +kernel
theorem pd_12 : parseMethodDescriptor "()I" = some ⟨[], some .int⟩ := by decide +kernel
theorem pd_13 : parseMethodDescriptor "()V" = some ⟨[], none⟩ := by decide +kernel
theorem pd_14 : parseMethodDescriptor "(II)I" = some ⟨[.int, .int], some .int⟩ := by decide +kernel
theorem pd_15 : parseMethodDescriptor "(I)[Ljava/lang/Object;" = some ⟨[.int], some (.array (.object "java/lang/Object"))⟩ := by decide +kernel
theorem pd_16 : parseMethodDescriptor "()[Ljava/lang/Object;" = some ⟨[], some (.array (.object "java/lang/Object"))⟩ := by decide +kernel
theorem pd_17 : parseMethodDescriptor "(Ljava/lang/Object;[Ljava/lang/Object;I)V" = some ⟨[(.object "java/lang/Object"), (.array (.object "java/lang/Object")), .int], none⟩ := by decide +kernel
theorem pd_18 : parseMethodDescriptor "(Ljava/lang/Object;)Z" = some ⟨[(.object "java/lang/Object")], some .boolean⟩ := by decide +kernel
theorem pd_19 : parseMethodDescriptor "(Ljava/lang/String;)V" = some ⟨[(.object "java/lang/String")], none⟩ := by decide +kernel
theorem pd_20 : parseMethodDescriptor "(IILjava/util/function/BiFunction;)I" = some ⟨[.int, .int, (.object "java/util/function/BiFunction")], some .int⟩ := by decide +kernel
theorem pd_21 : parseMethodDescriptor "(I)Ljava/lang/Object;" = some ⟨[.int], some (.object "java/lang/Object")⟩ := by decide +kernel
theorem pn_0 : plainName "java/lang/String" = true := by first | (simp [plainName, overriddenIn]; done) | decide +kernel
theorem pn_1 : plainName "java/lang/StringLatin1" = true := by first | (simp [plainName, overriddenIn]; done) | decide +kernel
theorem pn_2 : plainName "java/lang/StringUTF16" = true := by first | (simp [plainName, overriddenIn]; done) | decide +kernel
theorem pn_3 : plainName "com/example/cropmark/cropmark/RowProblemsPinLaw" = true := by first | (simp [plainName, overriddenIn]; done) | decide +kernel
theorem pn_4 : plainName "com/example/cropmark/cropmark/Row" = true := by first | (simp [plainName, overriddenIn]; done) | decide +kernel
theorem pn_5 : plainName "java/util/List" = true := by first | (simp [plainName, overriddenIn]; done) | decide +kernel
theorem pn_6 : plainName "java/util/ImmutableCollections$ListN" = true := by first | (simp [plainName, overriddenIn]; done) | decide +kernel
theorem pn_7 : plainName "java/util/AbstractCollection" = true := by first | (simp [plainName, overriddenIn]; done) | decide +kernel
theorem pn_8 : plainName "java/util/AbstractList" = true := by first | (simp [plainName, overriddenIn]; done) | decide +kernel
theorem pn_9 : plainName "java/util/ArrayList" = true := by first | (simp [plainName, overriddenIn]; done) | decide +kernel
theorem pn_10 : plainName "jdk/internal/util/Preconditions" = true := by first | (simp [plainName, overriddenIn]; done) | decide +kernel
theorem pn_11 : plainName "java/util/Objects" = true := by first | (simp [plainName, overriddenIn]; done) | decide +kernel
def Q_rm3_1 (Z : State) (a1 : Addr) (a2 : Addr) (h0 : Heap) (n0 : Nat) (v : Option Value) (h : Heap) (vm : Vm) (L : List Loc) : Prop := ∃ (b2 : Addr) (t2 : Addr) (kk2 : ClassId), v = none ∧ Fr n0 L ∧ Keep h0 h [a1] ∧ Fld Z h a1 "java/lang/String" "value" "[B" (.ref t2) ∧ Fld Z h a1 "java/lang/String" "coder" "B" (.int (0 : Int32)) ∧ Exa Z h b2 "java/lang/String" ∧ Fld Z h b2 "java/lang/String" "coder" "B" (.int (0 : Int32)) ∧ Fld Z h b2 "java/lang/String" "value" "[B" (.ref t2) ∧ Arv Z h t2 kk2 .byte (0 : Int32) [] (.int (0 : Int32)) ∧ IB Z vm [""] ∧ Lit (Z.setVm vm) "java/lang/String" 7 b2
set_option maxRecDepth 65536 in
set_option maxHeartbeats 40000000 in
theorem rm3_1 (l : Launch) (Z : State) (a0 : Array Value) (hw : ∀ d ∈ tables_1, d.before a0 Z = true) (ws : List Jvm.Cond) (a1 : Addr) (a2 : Addr) (h0 : Heap) (n0 : Nat) (O0 : Old Z n0 h0) (HH_0 : Jvm.Lit.constHeld Z "java/lang/String" 7) (HC : Jvm.Lit.compactW.before a0 Z = true) (P3 : Exa Z h0 a1 "java/lang/String") (P4 : Fld Z h0 a1 "java/lang/String" "value" "[B" .null) (P5 : n0 ≤ a1) (P6 : Fld Z h0 a1 "java/lang/String" "coder" "B" (.int (0 : Int32))) :
    MetFree l (⟨"java/lang/String", "<init>", "([CIILjava/lang/Void;)V"⟩ : MethodName) (head1 (Jvm.Cond.code (⟨"java/lang/String", "<init>", "([CIILjava/lang/Void;)V"⟩ : MethodName) jdk_42_method_149_code 6 none :: ws) ({ frames := 1, cells := 2, slots := 4, locals := 12 } : Room)) (fun a U => a = #[(.ref a1), (.ref a2), (.int (0 : Int32)), (.int (0 : Int32)), .null] ∧ Z.Warmed39 U.vm ∧ U.heap = h0 ∧ (IB Z U.vm [])) (fun _ _ _ _ _ => True) (fun _ U o U' => ∃ v L, o = .returned v ∧ Q_rm3_1 Z a1 a2 h0 n0 v U'.heap U'.vm L ∧ ReturnedEndW U o U' L ({ frames := 1, cells := 2, slots := 4, locals := 12 } : Room).cells ({ frames := 1, cells := 2, slots := 4, locals := 12 } : Room).slots) := by
  refine MetFree.of_bodySF (plainFor_of_name pn_0) hisR ?_
  intro p e s m args below meth c s₁ Bd hml0 hP hK
  obtain ⟨rfl, hZ, hh, VP1⟩ := hP
  have hx := Bd.exec
  have hby := Bd.bytes
  have hml : c.maxLocals = 6 := hml0
  have hown : s.vm.findClass "java/lang/String" = some m.cls := findClass_of_methodNamed Bd.named
  have hnm := (name_of_methodNamed Bd.named Bd.method).1
  have X0 : Stand p l e ({ frames := 1, cells := 2, slots := 4, locals := 12 } : Room) s m #[(.ref a1), (.ref a2), (.int (0 : Int32)), (.int (0 : Int32)), .null] below meth c s₁ [] 0 0 := Stand.of_body Bd
  have e0 : s₁.heap = h0 := by rw [← hh, Bd.state]; rfl
  have N0 := Fr.nil n0
  refine Go.start (P := (fun o U' => ∃ v L, o = .returned v ∧ Q_rm3_1 Z a1 a2 h0 n0 v U'.heap U'.vm L ∧ ReturnedEndW s o U' L ({ frames := 1, cells := 2, slots := 4, locals := 12 } : Room).cells ({ frames := 1, cells := 2, slots := 4, locals := 12 } : Room).slots)) (castTop (g' := (mkF m 0 #[.val (.ref a1), .val (.ref a2), .val (.int (0 : Int32)), .val (.int (0 : Int32)), .val .null, .unset] [])) (by first | rfl | simp [entryFrame, mkF, argsToLocals, Value.category]) (T := s₁)) ?_
  refine Go.st (fun t k => XS.aloadN X0.here hx rfl (hb hby d3_0) rfl rfl k) ?_
  show Go p e below _ (s₁.setTop (mkF m 1 #[.val (.ref a1), .val (.ref a2), .val (.int (0 : Int32)), .val (.int (0 : Int32)), .val .null, .unset] [(.ref a1)]))
  obtain ⟨T1, X1, e1, st1⟩ := initO X0 hx hZ hown (w15 hw) (w16 hw) (w17 hw) e0 (g := (mkF m 1 #[.val (.ref a1), .val (.ref a2), .val (.int (0 : Int32)), .val (.int (0 : Int32)), .val .null, .unset] [(.ref a1)])) rfl (by rw [hml]; rfl) rfl (hb hby d3_1) (by decide) (W := 0) (by show 2 * 0 + _ ≤ _; exact Nat.le_of_eq rfl) (by decide)
  refine Go.st st1 ?_
  show Go p e below _ (T1.setTop (mkF m 4 #[.val (.ref a1), .val (.ref a2), .val (.int (0 : Int32)), .val (.int (0 : Int32)), .val .null, .unset] []))
  refine Go.st (fun t k => XS.iloadN X1.here hx rfl (hb hby d3_4) rfl k) ?_
  show Go p e below _ (T1.setTop (mkF m 5 #[.val (.ref a1), .val (.ref a2), .val (.int (0 : Int32)), .val (.int (0 : Int32)), .val .null, .unset] [(.int (0 : Int32))]))
  refine Go.st (fun t k => XS.ifNo X1.here hx rfl (hb hby d3_5) rfl (Jvm.Free.XT.i0_ne_f (by decide : (0 : Int32) = (0 : Int32))) k) ?_
  show Go p e below _ (T1.setTop (mkF m 8 #[.val (.ref a1), .val (.ref a2), .val (.int (0 : Int32)), .val (.int (0 : Int32)), .val .null, .unset] []))
  refine Go.st (fun t k => XS.aloadN X1.here hx rfl (hb hby d3_8) rfl rfl k) ?_
  show Go p e below _ (T1.setTop (mkF m 9 #[.val (.ref a1), .val (.ref a2), .val (.int (0 : Int32)), .val (.int (0 : Int32)), .val .null, .unset] [(.ref a1)]))
  obtain ⟨b2, T2, h2, k2, t2, kk2, X2, e2, E2, hS2, hk2, hZ2, hown2, A2, Fc2, Fv2, V2, -, -, I2, L2, st2⟩ := ldcSVL (s := s) (vm0 := s.vm) X1 hx hZ hown (w18 hw) (own_wS hw) e1 (State.WarmedH.since (State.WarmedH.refl s) 0) (Nat.zero_le _) (Fr.nil _) (fun b cl q => by rw [hh]; exact O0.2.2 b cl q) VP1 (by decide) HH_0 HC (vs := []) (z := (0 : Int32)) ⟨by decide, rfl⟩ (by decide) (by decide) (g := (mkF m 9 #[.val (.ref a1), .val (.ref a2), .val (.int (0 : Int32)), .val (.int (0 : Int32)), .val .null, .unset] [(.ref a1)])) rfl (hb hby d3_9) (n := 0) (by decide) (by decide) (by decide) (by decide)
  have hZ := hZ2
  have hown := hown2
  have O2 : Old Z n0 h2 := O0.ext E2
  have K2 : Keep h0 h2 [a1] := (Keep.refl h0 [a1]).ext E2
  have ne2_a1 : b2 ≠ a1 := Fld.ne Fv2 (P4.ext E2) nofun
  refine Go.st st2 ?_
  show Go p e below _ (T2.setTop (mkF m 11 #[.val (.ref a1), .val (.ref a2), .val (.int (0 : Int32)), .val (.int (0 : Int32)), .val .null, .unset] [(.ref b2), (.ref a1)]))
  obtain ⟨T3, X3, e3, st3⟩ := getF X2 hx hZ hown (host := "") (Or.inl (w24 hw)) Via.refl e2 Fv2 (g := (mkF m 11 #[.val (.ref a1), .val (.ref a2), .val (.int (0 : Int32)), .val (.int (0 : Int32)), .val .null, .unset] [(.ref b2), (.ref a1)])) rfl rfl (hb hby d3_11)
  refine Go.st st3 ?_
  show Go p e below _ (T3.setTop (mkF m 14 #[.val (.ref a1), .val (.ref a2), .val (.int (0 : Int32)), .val (.int (0 : Int32)), .val .null, .unset] [(.ref t2), (.ref a1)]))
  obtain ⟨T4, h4, X4, e4, W4, st4⟩ := putF X3 hx hZ hown (host := "") (Or.inl (w24 hw)) Via.refl e3 (P4.ext E2) (P3.ext E2) (Or.inr ⟨(w20 hw), rfl, hnm⟩) (w5 hw) (ty := (.array .byte)) (by decide) rfl rfl (g := (mkF m 14 #[.val (.ref a1), .val (.ref a2), .val (.int (0 : Int32)), .val (.int (0 : Int32)), .val .null, .unset] [(.ref t2), (.ref a1)])) rfl rfl (hb hby d3_14)
  have F4 : Fld Z h4 a1 "java/lang/String" "value" "[B" (.ref t2) := (P4.ext E2).same W4
  have N4 := Fr.snoc X4 N0 P5
  have O4 : Old Z n0 h4 := O2.wr W4 P5
  have K4 : Keep h0 h4 [a1] := K2.wr W4 (Or.inl (List.mem_of_getElem? (i := 0) rfl))
  refine Go.st st4 ?_
  show Go p e below _ (T4.setTop (mkF m 17 #[.val (.ref a1), .val (.ref a2), .val (.int (0 : Int32)), .val (.int (0 : Int32)), .val .null, .unset] []))
  refine Go.st (fun t k => XS.aloadN X4.here hx rfl (hb hby d3_17) rfl rfl k) ?_
  show Go p e below _ (T4.setTop (mkF m 18 #[.val (.ref a1), .val (.ref a2), .val (.int (0 : Int32)), .val (.int (0 : Int32)), .val .null, .unset] [(.ref a1)]))
  refine Go.st (fun t k => ldcAgain (s := s) (vm0 := T2.vm) X4 hx hZ hown (w18 hw) L2 (g := (mkF m 18 #[.val (.ref a1), .val (.ref a2), .val (.int (0 : Int32)), .val (.int (0 : Int32)), .val .null, .unset] [(.ref a1)])) rfl (hb hby d3_18) t k) ?_
  show Go p e below _ (T4.setTop (mkF m 20 #[.val (.ref a1), .val (.ref a2), .val (.int (0 : Int32)), .val (.int (0 : Int32)), .val .null, .unset] [(.ref b2), (.ref a1)]))
  obtain ⟨T6, X6, e6, st6⟩ := getF X4 hx hZ hown (host := "") (Or.inl (w25 hw)) Via.refl e4 (Fc2.other W4 (Or.inl ne2_a1)) (g := (mkF m 20 #[.val (.ref a1), .val (.ref a2), .val (.int (0 : Int32)), .val (.int (0 : Int32)), .val .null, .unset] [(.ref b2), (.ref a1)])) rfl rfl (hb hby d3_20)
  refine Go.st st6 ?_
  show Go p e below _ (T6.setTop (mkF m 23 #[.val (.ref a1), .val (.ref a2), .val (.int (0 : Int32)), .val (.int (0 : Int32)), .val .null, .unset] [(.int (0 : Int32)), (.ref a1)]))
  have c7 := ((P6.ext E2).other W4 (Or.inr (slot_ne (Or.inr (w21 hw)) (Or.inr (w20 hw)) (by decide) (t := .byte) (t' := (.array .byte)) (by decide) (by decide))))
  obtain ⟨T8, h8, X8, e8, W8, st8⟩ := putFN X6 hx hZ hown (w25 hw) Via.refl e6 c7 ((P3.ext E2).wr W4) (Or.inr ⟨(w21 hw), rfl, hnm⟩) (w5 hw) (ty := .byte) (v' := (.int (0 : Int32))) (by decide) rfl (by decide) (g := (mkF m 23 #[.val (.ref a1), .val (.ref a2), .val (.int (0 : Int32)), .val (.int (0 : Int32)), .val .null, .unset] [(.int (0 : Int32)), (.ref a1)])) rfl rfl (hb hby d3_23)
  have F8 : Fld Z h8 a1 "java/lang/String" "coder" "B" (.int (0 : Int32)) := c7.same W8
  have N8 := Fr.snoc X8 N4 P5
  have O8 : Old Z n0 h8 := O4.wr W8 P5
  have K8 : Keep h0 h8 [a1] := K4.wr W8 (Or.inl (List.mem_of_getElem? (i := 0) rfl))
  refine Go.st st8 ?_
  show Go p e below _ (T8.setTop (mkF m 26 #[.val (.ref a1), .val (.ref a2), .val (.int (0 : Int32)), .val (.int (0 : Int32)), .val .null, .unset] []))
  obtain ⟨fs, hr, hrun, hended, hEnd⟩ := X8.leaveW hS2 (by rw [e8]; exact (Nat.le_trans (Nat.le_trans hk2 (Nat.le_of_eq W4.size.symm)) (Nat.le_of_eq W8.size.symm))) (v := none) (fun _ => rfl)
  have c9 := (F4.other W8 (Or.inr (slot_ne (Or.inr (w20 hw)) (Or.inr (w21 hw)) (by decide) (t := (.array .byte)) (t' := .byte) (by decide) (by decide))))
  have c10 := ((Fc2.other W4 (Or.inl ne2_a1)).other W8 (Or.inl ne2_a1))
  have c11 := ((Fv2.other W4 (Or.inl ne2_a1)).other W8 (Or.inl ne2_a1))
  have c12 := ((V2.other W4 (Ne.symm (Exa.neArv (P3.ext E2) V2 (w5 hw)))).other W8 (Ne.symm (Exa.neArv (P3.ext E2) V2 (w5 hw))))
  refine ⟨_, _, ?_, hrun, hended, _, _, rfl, ?_, ⟨hEnd.1, hEnd.2.1, hEnd.2.2.1, hEnd.2.2.2.mono (by decide) (by decide)⟩⟩
  · exact X8.returnOut hx Bd.returns (hb hby d3_26) hr
  · show Q_rm3_1 Z a1 a2 h0 n0 _ T8.heap T8.vm _
    rw [e8]
    exact ⟨b2, t2, kk2, rfl, N8, K8, c9, F8, ((A2.wr W4).wr W8), c10, c11, c12, (own_ibW I2 X8.warmed), (own_litW L2 X8.warmed)⟩
def Q_rm2_1 (Z : State) (a1 : Addr) (a2 : Addr) (kz3 : ClassId) (h0 : Heap) (n0 : Nat) (v : Option Value) (h : Heap) (vm : Vm) (L : List Loc) : Prop := ∃ (b2_2 : Addr) (t2_2 : Addr) (kk2_2 : ClassId), v = none ∧ Fr n0 L ∧ Keep h0 h [a1] ∧ Fld Z h a1 "java/lang/String" "value" "[B" (.ref t2_2) ∧ Fld Z h a1 "java/lang/String" "coder" "B" (.int (0 : Int32)) ∧ Exa Z h b2_2 "java/lang/String" ∧ Fld Z h b2_2 "java/lang/String" "coder" "B" (.int (0 : Int32)) ∧ Fld Z h b2_2 "java/lang/String" "value" "[B" (.ref t2_2) ∧ Arv Z h t2_2 kk2_2 .byte (0 : Int32) [] (.int (0 : Int32)) ∧ IB Z vm [""] ∧ Lit (Z.setVm vm) "java/lang/String" 7 b2_2
set_option maxRecDepth 65536 in
set_option maxHeartbeats 40000000 in
theorem rm2_1 (l : Launch) (Z : State) (a0 : Array Value) (hw : ∀ d ∈ tables_1, d.before a0 Z = true) (ws : List Jvm.Cond) (a1 : Addr) (a2 : Addr) (kz3 : ClassId) (h0 : Heap) (n0 : Nat) (O0 : Old Z n0 h0) (P1 : Arv Z h0 a2 kz3 .char (0 : Int32) [] (.int (0 : Int32))) (HH_0 : Jvm.Lit.constHeld Z "java/lang/String" 7) (HC : Jvm.Lit.compactW.before a0 Z = true) (P4 : Exa Z h0 a1 "java/lang/String") (P5 : Fld Z h0 a1 "java/lang/String" "value" "[B" .null) (P6 : n0 ≤ a1) (P7 : Fld Z h0 a1 "java/lang/String" "coder" "B" (.int (0 : Int32))) :
    MetFree l (⟨"java/lang/String", "<init>", "([C)V"⟩ : MethodName) (head1 (Jvm.Cond.code (⟨"java/lang/String", "<init>", "([C)V"⟩ : MethodName) jdk_42_method_3_code 2 none :: ws) ({ frames := 2, cells := 2, slots := 4, locals := 29 } : Room)) (fun a U => a = #[(.ref a1), (.ref a2)] ∧ Z.Warmed39 U.vm ∧ U.heap = h0 ∧ (IB Z U.vm [])) (fun _ _ _ _ _ => True) (fun _ U o U' => ∃ v L, o = .returned v ∧ Q_rm2_1 Z a1 a2 kz3 h0 n0 v U'.heap U'.vm L ∧ ReturnedEndW U o U' L ({ frames := 2, cells := 2, slots := 4, locals := 29 } : Room).cells ({ frames := 2, cells := 2, slots := 4, locals := 29 } : Room).slots) := by
  refine MetFree.of_bodySF (plainFor_of_name pn_0) hisR ?_
  intro p e s m args below meth c s₁ Bd hml0 hP hK
  obtain ⟨rfl, hZ, hh, VP1⟩ := hP
  have hx := Bd.exec
  have hby := Bd.bytes
  have hml : c.maxLocals = 2 := hml0
  have hown : s.vm.findClass "java/lang/String" = some m.cls := findClass_of_methodNamed Bd.named
  have hnm := (name_of_methodNamed Bd.named Bd.method).1
  have X0 : Stand p l e ({ frames := 2, cells := 2, slots := 4, locals := 29 } : Room) s m #[(.ref a1), (.ref a2)] below meth c s₁ [] 0 0 := Stand.of_body Bd
  have e0 : s₁.heap = h0 := by rw [← hh, Bd.state]; rfl
  have N0 := Fr.nil n0
  refine Go.start (P := (fun o U' => ∃ v L, o = .returned v ∧ Q_rm2_1 Z a1 a2 kz3 h0 n0 v U'.heap U'.vm L ∧ ReturnedEndW s o U' L ({ frames := 2, cells := 2, slots := 4, locals := 29 } : Room).cells ({ frames := 2, cells := 2, slots := 4, locals := 29 } : Room).slots)) (castTop (g' := (mkF m 0 #[.val (.ref a1), .val (.ref a2)] [])) (by first | rfl | simp [entryFrame, mkF, argsToLocals, Value.category]) (T := s₁)) ?_
  refine Go.st (fun t k => XS.aloadN X0.here hx rfl (hb hby d2_0) rfl rfl k) ?_
  show Go p e below _ (s₁.setTop (mkF m 1 #[.val (.ref a1), .val (.ref a2)] [(.ref a1)]))
  refine Go.st (fun t k => XS.aloadN X0.here hx rfl (hb hby d2_1) rfl rfl k) ?_
  show Go p e below _ (s₁.setTop (mkF m 2 #[.val (.ref a1), .val (.ref a2)] [(.ref a2), (.ref a1)]))
  refine Go.st (fun t k => XS.iconst X0.here hx rfl (hb hby d2_2) k) ?_
  show Go p e below _ (s₁.setTop (mkF m 3 #[.val (.ref a1), .val (.ref a2)] [(.int (0 : Int32)), (.ref a2), (.ref a1)]))
  refine Go.st (fun t k => XS.aloadN X0.here hx rfl (hb hby d2_3) rfl rfl k) ?_
  show Go p e below _ (s₁.setTop (mkF m 4 #[.val (.ref a1), .val (.ref a2)] [(.ref a2), (.int (0 : Int32)), (.ref a2), (.ref a1)]))
  obtain ⟨cl1, Ar1, -, S1, M1, -, -⟩ := id P1
  refine Go.st (fun t k => X0.arraylength hx (by rw [e0]; exact Ar1.1) (State.isArrayOf_alike hZ.alike Ar1.2.1) (g := (mkF m 4 #[.val (.ref a1), .val (.ref a2)] [(.ref a2), (.int (0 : Int32)), (.ref a2), (.ref a1)])) rfl rfl (hb hby d2_4) t k) ?_
  rw [len_of S1 M1]
  show Go p e below _ (s₁.setTop (mkF m 5 #[.val (.ref a1), .val (.ref a2)] [(.int (0 : Int32)), (.int (0 : Int32)), (.ref a2), (.ref a1)]))
  refine Go.st (fun t k => XS.aconstNull X0.here hx rfl (hb hby d2_5) k) ?_
  show Go p e below _ (s₁.setTop (mkF m 6 #[.val (.ref a1), .val (.ref a2)] [.null, (.int (0 : Int32)), (.int (0 : Int32)), (.ref a2), (.ref a1)]))
  obtain ⟨_, _, ⟨T2, L2, k2, n2⟩, -, X2, hS2, hg2, ⟨Lc2, hQ2, l2, y2, z2⟩, st2⟩ := X0.specialBackS hx (y := (⟨"java/lang/String", "<init>", "([CIILjava/lang/Void;)V"⟩ : MethodName)) rfl hown (mvT hZ (w11 hw)) (mvT hZ (w12 hw)) (mvT hZ (w14 hw)) (by decide) (own_backOfV (VP := fun vm => IB Z vm []) (Q := Q_rm3_1 Z a1 a2 h0 n0) (rm := ({ frames := 1, cells := 2, slots := 4, locals := 12 } : Room)) (W := 0) (rm3_1 l Z a0 hw [] a1 a2 h0 n0 O0 HH_0 HC P4 P5 P6 P7) hZ (w14 hw) (w6 hw) (by decide) (by decide)) (g := (mkF m 6 #[.val (.ref a1), .val (.ref a2)] [.null, (.int (0 : Int32)), (.int (0 : Int32)), (.ref a2), (.ref a1)])) rfl (by rw [hml]; rfl) (Steps.refl _) (a := a1) (argsL := [(.ref a2), (.int (0 : Int32)), (.int (0 : Int32)), .null]) (rest := []) (lenOf pd_0 rfl) rfl (by show 2 * 0 + _ ≤ _; exact Nat.le_of_eq rfl) (hb hby d2_6) (fun vm₁ hw₁ => ⟨rfl, e0, (own_ibW VP1 hw₁), (by decide : 0 + 2 ≤ _), (by decide : 0 + 4 ≤ _)⟩)
  dsimp only [Pt.U, Pt.locs, Pt.cells, Pt.slots] at X2 l2 y2 z2 st2 hQ2 hS2 hg2
  subst l2 y2 z2
  have hZ : Z.Warmed39 (s.setVm T2.vm).vm := State.Warmed39.trans (t := s) hZ hS2.1
  have hown : (s.setVm T2.vm).vm.findClass "java/lang/String" = some m.cls := by rw [show (s.setVm T2.vm).vm = T2.vm from rfl, hS2.1.alike.findClass]; exact hown
  have hS20 := hS2.1
  obtain ⟨b2_2, t2_2, kk2_2, rfl, M2, K2c, r2_0, r2_1, r2_2, r2_3, r2_4, r2_5, vq2_0, vq2_1⟩ := hQ2
  have N2 := Fr.app N0 M2
  have O2 : Old Z n0 T2.heap := O0.keep K2c (allS P6 all0)
  have K2 : Keep h0 T2.heap [a1] := (Keep.refl h0 [a1]).trans K2c (allS (Or.inl (List.mem_of_getElem? (i := 0) rfl)) all0)
  refine Go.tr st2 ?_
  show Go p e below _ (T2.setTop (mkF m 9 #[.val (.ref a1), .val (.ref a2)] []))
  obtain ⟨fs, hr, hrun, hended, hEnd⟩ := X2.leaveW hS2 (Nat.le_refl _) (v := none) (fun _ => rfl)
  refine ⟨_, _, ?_, hrun, hended, _, _, rfl, ?_, ⟨hEnd.1, hEnd.2.1, hEnd.2.2.1, hEnd.2.2.2.mono (by decide) (by decide)⟩⟩
  · exact X2.returnOut hx Bd.returns (hb hby d2_9) hr
  · show Q_rm2_1 Z a1 a2 kz3 h0 n0 _ T2.heap T2.vm _
    exact ⟨b2_2, t2_2, kk2_2, rfl, N2, K2, r2_0, r2_1, r2_2, r2_3, r2_4, r2_5, (own_ibW vq2_0 X2.warmed), (own_litW vq2_1 X2.warmed)⟩
def Q_rm3_2 (Z : State) (a1 : Addr) (a2 : Addr) (a3 : Addr) (a4 : Addr) (h0 : Heap) (n0 : Nat) (v : Option Value) (h : Heap) (vm : Vm) (L : List Loc) : Prop := v = none ∧ Fr n0 L ∧ Keep h0 h [a1] ∧ Fld Z h a1 "java/lang/String" "value" "[B" (.ref a4) ∧ Fld Z h a1 "java/lang/String" "coder" "B" (.int (0 : Int32)) ∧ Lit (Z.setVm vm) "java/lang/String" 7 a3
set_option maxRecDepth 65536 in
set_option maxHeartbeats 40000000 in
theorem rm3_2 (l : Launch) (Z : State) (a0 : Array Value) (hw : ∀ d ∈ tables_1, d.before a0 Z = true) (ws : List Jvm.Cond) (a1 : Addr) (a2 : Addr) (a3 : Addr) (a4 : Addr) (h0 : Heap) (n0 : Nat) (O0 : Old Z n0 h0) (P1 : Fld Z h0 a3 "java/lang/String" "value" "[B" (.ref a4)) (P2 : Exa Z h0 a1 "java/lang/String") (P3 : Fld Z h0 a1 "java/lang/String" "value" "[B" .null) (P4 : n0 ≤ a1) (P5 : Fld Z h0 a3 "java/lang/String" "coder" "B" (.int (0 : Int32))) (P6 : a3 ≠ a1) (P7 : Fld Z h0 a1 "java/lang/String" "coder" "B" (.int (0 : Int32))) :
    MetFree l (⟨"java/lang/String", "<init>", "([CIILjava/lang/Void;)V"⟩ : MethodName) (head1 (Jvm.Cond.code (⟨"java/lang/String", "<init>", "([CIILjava/lang/Void;)V"⟩ : MethodName) jdk_42_method_149_code 6 none :: ws) ({ frames := 1, cells := 0, slots := 0, locals := 12 } : Room)) (fun a U => a = #[(.ref a1), (.ref a2), (.int (0 : Int32)), (.int (0 : Int32)), .null] ∧ Z.Warmed39 U.vm ∧ U.heap = h0 ∧ (Lit (Z.setVm U.vm) "java/lang/String" 7 a3)) (fun _ _ _ _ _ => True) (fun _ U o U' => ∃ v L, o = .returned v ∧ Q_rm3_2 Z a1 a2 a3 a4 h0 n0 v U'.heap U'.vm L ∧ ReturnedEndW U o U' L ({ frames := 1, cells := 0, slots := 0, locals := 12 } : Room).cells ({ frames := 1, cells := 0, slots := 0, locals := 12 } : Room).slots) := by
  refine MetFree.of_bodySF (plainFor_of_name pn_0) hisR ?_
  intro p e s m args below meth c s₁ Bd hml0 hP hK
  obtain ⟨rfl, hZ, hh, VP1⟩ := hP
  have hx := Bd.exec
  have hby := Bd.bytes
  have hml : c.maxLocals = 6 := hml0
  have hown : s.vm.findClass "java/lang/String" = some m.cls := findClass_of_methodNamed Bd.named
  have hnm := (name_of_methodNamed Bd.named Bd.method).1
  have X0 : Stand p l e ({ frames := 1, cells := 0, slots := 0, locals := 12 } : Room) s m #[(.ref a1), (.ref a2), (.int (0 : Int32)), (.int (0 : Int32)), .null] below meth c s₁ [] 0 0 := Stand.of_body Bd
  have e0 : s₁.heap = h0 := by rw [← hh, Bd.state]; rfl
  have N0 := Fr.nil n0
  refine Go.start (P := (fun o U' => ∃ v L, o = .returned v ∧ Q_rm3_2 Z a1 a2 a3 a4 h0 n0 v U'.heap U'.vm L ∧ ReturnedEndW s o U' L ({ frames := 1, cells := 0, slots := 0, locals := 12 } : Room).cells ({ frames := 1, cells := 0, slots := 0, locals := 12 } : Room).slots)) (castTop (g' := (mkF m 0 #[.val (.ref a1), .val (.ref a2), .val (.int (0 : Int32)), .val (.int (0 : Int32)), .val .null, .unset] [])) (by first | rfl | simp [entryFrame, mkF, argsToLocals, Value.category]) (T := s₁)) ?_
  refine Go.st (fun t k => XS.aloadN X0.here hx rfl (hb hby d3_0) rfl rfl k) ?_
  show Go p e below _ (s₁.setTop (mkF m 1 #[.val (.ref a1), .val (.ref a2), .val (.int (0 : Int32)), .val (.int (0 : Int32)), .val .null, .unset] [(.ref a1)]))
  obtain ⟨T1, X1, e1, st1⟩ := initO X0 hx hZ hown (w15 hw) (w16 hw) (w17 hw) e0 (g := (mkF m 1 #[.val (.ref a1), .val (.ref a2), .val (.int (0 : Int32)), .val (.int (0 : Int32)), .val .null, .unset] [(.ref a1)])) rfl (by rw [hml]; rfl) rfl (hb hby d3_1) (by decide) (W := 0) (by show 2 * 0 + _ ≤ _; exact Nat.le_of_eq rfl) (by decide)
  refine Go.st st1 ?_
  show Go p e below _ (T1.setTop (mkF m 4 #[.val (.ref a1), .val (.ref a2), .val (.int (0 : Int32)), .val (.int (0 : Int32)), .val .null, .unset] []))
  refine Go.st (fun t k => XS.iloadN X1.here hx rfl (hb hby d3_4) rfl k) ?_
  show Go p e below _ (T1.setTop (mkF m 5 #[.val (.ref a1), .val (.ref a2), .val (.int (0 : Int32)), .val (.int (0 : Int32)), .val .null, .unset] [(.int (0 : Int32))]))
  refine Go.st (fun t k => XS.ifNo X1.here hx rfl (hb hby d3_5) rfl (Jvm.Free.XT.i0_ne_f (by decide : (0 : Int32) = (0 : Int32))) k) ?_
  show Go p e below _ (T1.setTop (mkF m 8 #[.val (.ref a1), .val (.ref a2), .val (.int (0 : Int32)), .val (.int (0 : Int32)), .val .null, .unset] []))
  refine Go.st (fun t k => XS.aloadN X1.here hx rfl (hb hby d3_8) rfl rfl k) ?_
  show Go p e below _ (T1.setTop (mkF m 9 #[.val (.ref a1), .val (.ref a2), .val (.int (0 : Int32)), .val (.int (0 : Int32)), .val .null, .unset] [(.ref a1)]))
  refine Go.st (fun t k => ldcAgain (s := s) (vm0 := s.vm) X1 hx hZ hown (w18 hw) VP1 (g := (mkF m 9 #[.val (.ref a1), .val (.ref a2), .val (.int (0 : Int32)), .val (.int (0 : Int32)), .val .null, .unset] [(.ref a1)])) rfl (hb hby d3_9) t k) ?_
  show Go p e below _ (T1.setTop (mkF m 11 #[.val (.ref a1), .val (.ref a2), .val (.int (0 : Int32)), .val (.int (0 : Int32)), .val .null, .unset] [(.ref a3), (.ref a1)]))
  obtain ⟨T3, X3, e3, st3⟩ := getF X1 hx hZ hown (host := "") (Or.inl (w24 hw)) Via.refl e1 P1 (g := (mkF m 11 #[.val (.ref a1), .val (.ref a2), .val (.int (0 : Int32)), .val (.int (0 : Int32)), .val .null, .unset] [(.ref a3), (.ref a1)])) rfl rfl (hb hby d3_11)
  refine Go.st st3 ?_
  show Go p e below _ (T3.setTop (mkF m 14 #[.val (.ref a1), .val (.ref a2), .val (.int (0 : Int32)), .val (.int (0 : Int32)), .val .null, .unset] [(.ref a4), (.ref a1)]))
  obtain ⟨T4, h4, X4, e4, W4, st4⟩ := putF X3 hx hZ hown (host := "") (Or.inl (w24 hw)) Via.refl e3 P3 P2 (Or.inr ⟨(w20 hw), rfl, hnm⟩) (w5 hw) (ty := (.array .byte)) (by decide) rfl rfl (g := (mkF m 14 #[.val (.ref a1), .val (.ref a2), .val (.int (0 : Int32)), .val (.int (0 : Int32)), .val .null, .unset] [(.ref a4), (.ref a1)])) rfl rfl (hb hby d3_14)
  have F4 : Fld Z h4 a1 "java/lang/String" "value" "[B" (.ref a4) := P3.same W4
  have N4 := Fr.snoc X4 N0 P4
  have O4 : Old Z n0 h4 := O0.wr W4 P4
  have K4 : Keep h0 h4 [a1] := (Keep.refl h0 [a1]).wr W4 (Or.inl (List.mem_of_getElem? (i := 0) rfl))
  refine Go.st st4 ?_
  show Go p e below _ (T4.setTop (mkF m 17 #[.val (.ref a1), .val (.ref a2), .val (.int (0 : Int32)), .val (.int (0 : Int32)), .val .null, .unset] []))
  refine Go.st (fun t k => XS.aloadN X4.here hx rfl (hb hby d3_17) rfl rfl k) ?_
  show Go p e below _ (T4.setTop (mkF m 18 #[.val (.ref a1), .val (.ref a2), .val (.int (0 : Int32)), .val (.int (0 : Int32)), .val .null, .unset] [(.ref a1)]))
  refine Go.st (fun t k => ldcAgain (s := s) (vm0 := s.vm) X4 hx hZ hown (w18 hw) VP1 (g := (mkF m 18 #[.val (.ref a1), .val (.ref a2), .val (.int (0 : Int32)), .val (.int (0 : Int32)), .val .null, .unset] [(.ref a1)])) rfl (hb hby d3_18) t k) ?_
  show Go p e below _ (T4.setTop (mkF m 20 #[.val (.ref a1), .val (.ref a2), .val (.int (0 : Int32)), .val (.int (0 : Int32)), .val .null, .unset] [(.ref a3), (.ref a1)]))
  obtain ⟨T6, X6, e6, st6⟩ := getF X4 hx hZ hown (host := "") (Or.inl (w25 hw)) Via.refl e4 (P5.other W4 (Or.inl P6)) (g := (mkF m 20 #[.val (.ref a1), .val (.ref a2), .val (.int (0 : Int32)), .val (.int (0 : Int32)), .val .null, .unset] [(.ref a3), (.ref a1)])) rfl rfl (hb hby d3_20)
  refine Go.st st6 ?_
  show Go p e below _ (T6.setTop (mkF m 23 #[.val (.ref a1), .val (.ref a2), .val (.int (0 : Int32)), .val (.int (0 : Int32)), .val .null, .unset] [(.int (0 : Int32)), (.ref a1)]))
  have c7 := (P7.other W4 (Or.inr (slot_ne (Or.inr (w21 hw)) (Or.inr (w20 hw)) (by decide) (t := .byte) (t' := (.array .byte)) (by decide) (by decide))))
  obtain ⟨T8, h8, X8, e8, W8, st8⟩ := putFN X6 hx hZ hown (w25 hw) Via.refl e6 c7 (P2.wr W4) (Or.inr ⟨(w21 hw), rfl, hnm⟩) (w5 hw) (ty := .byte) (v' := (.int (0 : Int32))) (by decide) rfl (by decide) (g := (mkF m 23 #[.val (.ref a1), .val (.ref a2), .val (.int (0 : Int32)), .val (.int (0 : Int32)), .val .null, .unset] [(.int (0 : Int32)), (.ref a1)])) rfl rfl (hb hby d3_23)
  have F8 : Fld Z h8 a1 "java/lang/String" "coder" "B" (.int (0 : Int32)) := c7.same W8
  have N8 := Fr.snoc X8 N4 P4
  have O8 : Old Z n0 h8 := O4.wr W8 P4
  have K8 : Keep h0 h8 [a1] := K4.wr W8 (Or.inl (List.mem_of_getElem? (i := 0) rfl))
  refine Go.st st8 ?_
  show Go p e below _ (T8.setTop (mkF m 26 #[.val (.ref a1), .val (.ref a2), .val (.int (0 : Int32)), .val (.int (0 : Int32)), .val .null, .unset] []))
  obtain ⟨fs, hr, hrun, hended, hWd, hsame⟩ := X8.leave (v := none) (fun _ => rfl)
  have c9 := (F4.other W8 (Or.inr (slot_ne (Or.inr (w20 hw)) (Or.inr (w21 hw)) (by decide) (t := (.array .byte)) (t' := .byte) (by decide) (by decide))))
  refine ⟨_, _, ?_, hrun, hended, _, _, rfl, ?_, (ReturnedEndW.of_narrow ⟨_, rfl⟩ hWd (hsame.mono (by decide) (by decide)))⟩
  · exact X8.returnOut hx Bd.returns (hb hby d3_26) hr
  · show Q_rm3_2 Z a1 a2 a3 a4 h0 n0 _ T8.heap T8.vm _
    rw [e8]
    exact ⟨rfl, N8, K8, c9, F8, (own_litW VP1 X8.warmed)⟩
def Q_rm2_2 (Z : State) (a1 : Addr) (a2 : Addr) (kz3 : ClassId) (a4 : Addr) (a5 : Addr) (h0 : Heap) (n0 : Nat) (v : Option Value) (h : Heap) (vm : Vm) (L : List Loc) : Prop := v = none ∧ Fr n0 L ∧ Keep h0 h [a1] ∧ Fld Z h a1 "java/lang/String" "value" "[B" (.ref a5) ∧ Fld Z h a1 "java/lang/String" "coder" "B" (.int (0 : Int32)) ∧ Lit (Z.setVm vm) "java/lang/String" 7 a4
set_option maxRecDepth 65536 in
set_option maxHeartbeats 40000000 in
theorem rm2_2 (l : Launch) (Z : State) (a0 : Array Value) (hw : ∀ d ∈ tables_1, d.before a0 Z = true) (ws : List Jvm.Cond) (a1 : Addr) (a2 : Addr) (kz3 : ClassId) (a4 : Addr) (a5 : Addr) (h0 : Heap) (n0 : Nat) (O0 : Old Z n0 h0) (P1 : Arv Z h0 a2 kz3 .char (0 : Int32) [] (.int (0 : Int32))) (P2 : Exa Z h0 a1 "java/lang/String") (P3 : Fld Z h0 a1 "java/lang/String" "value" "[B" .null) (P4 : n0 ≤ a1) (P5 : Fld Z h0 a1 "java/lang/String" "coder" "B" (.int (0 : Int32))) (P6 : Fld Z h0 a4 "java/lang/String" "value" "[B" (.ref a5)) (P7 : Fld Z h0 a4 "java/lang/String" "coder" "B" (.int (0 : Int32))) (P8 : a4 ≠ a1) :
    MetFree l (⟨"java/lang/String", "<init>", "([C)V"⟩ : MethodName) (head1 (Jvm.Cond.code (⟨"java/lang/String", "<init>", "([C)V"⟩ : MethodName) jdk_42_method_3_code 2 none :: ws) ({ frames := 2, cells := 0, slots := 0, locals := 29 } : Room)) (fun a U => a = #[(.ref a1), (.ref a2)] ∧ Z.Warmed39 U.vm ∧ U.heap = h0 ∧ (Lit (Z.setVm U.vm) "java/lang/String" 7 a4)) (fun _ _ _ _ _ => True) (fun _ U o U' => ∃ v L, o = .returned v ∧ Q_rm2_2 Z a1 a2 kz3 a4 a5 h0 n0 v U'.heap U'.vm L ∧ ReturnedEndW U o U' L ({ frames := 2, cells := 0, slots := 0, locals := 29 } : Room).cells ({ frames := 2, cells := 0, slots := 0, locals := 29 } : Room).slots) := by
  refine MetFree.of_bodySF (plainFor_of_name pn_0) hisR ?_
  intro p e s m args below meth c s₁ Bd hml0 hP hK
  obtain ⟨rfl, hZ, hh, VP1⟩ := hP
  have hx := Bd.exec
  have hby := Bd.bytes
  have hml : c.maxLocals = 2 := hml0
  have hown : s.vm.findClass "java/lang/String" = some m.cls := findClass_of_methodNamed Bd.named
  have hnm := (name_of_methodNamed Bd.named Bd.method).1
  have X0 : Stand p l e ({ frames := 2, cells := 0, slots := 0, locals := 29 } : Room) s m #[(.ref a1), (.ref a2)] below meth c s₁ [] 0 0 := Stand.of_body Bd
  have e0 : s₁.heap = h0 := by rw [← hh, Bd.state]; rfl
  have N0 := Fr.nil n0
  refine Go.start (P := (fun o U' => ∃ v L, o = .returned v ∧ Q_rm2_2 Z a1 a2 kz3 a4 a5 h0 n0 v U'.heap U'.vm L ∧ ReturnedEndW s o U' L ({ frames := 2, cells := 0, slots := 0, locals := 29 } : Room).cells ({ frames := 2, cells := 0, slots := 0, locals := 29 } : Room).slots)) (castTop (g' := (mkF m 0 #[.val (.ref a1), .val (.ref a2)] [])) (by first | rfl | simp [entryFrame, mkF, argsToLocals, Value.category]) (T := s₁)) ?_
  refine Go.st (fun t k => XS.aloadN X0.here hx rfl (hb hby d2_0) rfl rfl k) ?_
  show Go p e below _ (s₁.setTop (mkF m 1 #[.val (.ref a1), .val (.ref a2)] [(.ref a1)]))
  refine Go.st (fun t k => XS.aloadN X0.here hx rfl (hb hby d2_1) rfl rfl k) ?_
  show Go p e below _ (s₁.setTop (mkF m 2 #[.val (.ref a1), .val (.ref a2)] [(.ref a2), (.ref a1)]))
  refine Go.st (fun t k => XS.iconst X0.here hx rfl (hb hby d2_2) k) ?_
  show Go p e below _ (s₁.setTop (mkF m 3 #[.val (.ref a1), .val (.ref a2)] [(.int (0 : Int32)), (.ref a2), (.ref a1)]))
  refine Go.st (fun t k => XS.aloadN X0.here hx rfl (hb hby d2_3) rfl rfl k) ?_
  show Go p e below _ (s₁.setTop (mkF m 4 #[.val (.ref a1), .val (.ref a2)] [(.ref a2), (.int (0 : Int32)), (.ref a2), (.ref a1)]))
  obtain ⟨cl1, Ar1, -, S1, M1, -, -⟩ := id P1
  refine Go.st (fun t k => X0.arraylength hx (by rw [e0]; exact Ar1.1) (State.isArrayOf_alike hZ.alike Ar1.2.1) (g := (mkF m 4 #[.val (.ref a1), .val (.ref a2)] [(.ref a2), (.int (0 : Int32)), (.ref a2), (.ref a1)])) rfl rfl (hb hby d2_4) t k) ?_
  rw [len_of S1 M1]
  show Go p e below _ (s₁.setTop (mkF m 5 #[.val (.ref a1), .val (.ref a2)] [(.int (0 : Int32)), (.int (0 : Int32)), (.ref a2), (.ref a1)]))
  refine Go.st (fun t k => XS.aconstNull X0.here hx rfl (hb hby d2_5) k) ?_
  show Go p e below _ (s₁.setTop (mkF m 6 #[.val (.ref a1), .val (.ref a2)] [.null, (.int (0 : Int32)), (.int (0 : Int32)), (.ref a2), (.ref a1)]))
  obtain ⟨_, _, ⟨T2, L2, k2, n2⟩, -, X2, hS2, hg2, ⟨Lc2, hQ2, l2, y2, z2⟩, st2⟩ := X0.specialBackS hx (y := (⟨"java/lang/String", "<init>", "([CIILjava/lang/Void;)V"⟩ : MethodName)) rfl hown (mvT hZ (w11 hw)) (mvT hZ (w12 hw)) (mvT hZ (w14 hw)) (by decide) (own_backOfV (VP := fun vm => Lit (Z.setVm vm) "java/lang/String" 7 a4) (Q := Q_rm3_2 Z a1 a2 a4 a5 h0 n0) (rm := ({ frames := 1, cells := 0, slots := 0, locals := 12 } : Room)) (W := 0) (rm3_2 l Z a0 hw [] a1 a2 a4 a5 h0 n0 O0 P6 P2 P3 P4 P7 P8 P5) hZ (w14 hw) (w6 hw) (by decide) (by decide)) (g := (mkF m 6 #[.val (.ref a1), .val (.ref a2)] [.null, (.int (0 : Int32)), (.int (0 : Int32)), (.ref a2), (.ref a1)])) rfl (by rw [hml]; rfl) (Steps.refl _) (a := a1) (argsL := [(.ref a2), (.int (0 : Int32)), (.int (0 : Int32)), .null]) (rest := []) (lenOf pd_0 rfl) rfl (by show 2 * 0 + _ ≤ _; exact Nat.le_of_eq rfl) (hb hby d2_6) (fun vm₁ hw₁ => ⟨rfl, e0, (own_litW VP1 hw₁), (by decide : 0 + 0 ≤ _), (by decide : 0 + 0 ≤ _)⟩)
  dsimp only [Pt.U, Pt.locs, Pt.cells, Pt.slots] at X2 l2 y2 z2 st2 hQ2 hS2 hg2
  subst l2 y2 z2
  have hZ : Z.Warmed39 (s.setVm T2.vm).vm := State.Warmed39.trans (t := s) hZ hS2.1
  have hown : (s.setVm T2.vm).vm.findClass "java/lang/String" = some m.cls := by rw [show (s.setVm T2.vm).vm = T2.vm from rfl, hS2.1.alike.findClass]; exact hown
  have hS20 := hS2.1
  obtain ⟨rfl, M2, K2c, r2_0, r2_1, vq2_0⟩ := hQ2
  have N2 := Fr.app N0 M2
  have O2 : Old Z n0 T2.heap := O0.keep K2c (allS P4 all0)
  have K2 : Keep h0 T2.heap [a1] := (Keep.refl h0 [a1]).trans K2c (allS (Or.inl (List.mem_of_getElem? (i := 0) rfl)) all0)
  refine Go.tr st2 ?_
  show Go p e below _ (T2.setTop (mkF m 9 #[.val (.ref a1), .val (.ref a2)] []))
  obtain ⟨fs, hr, hrun, hended, hEnd⟩ := X2.leaveW hS2 (Nat.le_refl _) (v := none) (fun _ => rfl)
  refine ⟨_, _, ?_, hrun, hended, _, _, rfl, ?_, ⟨hEnd.1, hEnd.2.1, hEnd.2.2.1, hEnd.2.2.2.mono (by decide) (by decide)⟩⟩
  · exact X2.returnOut hx Bd.returns (hb hby d2_9) hr
  · show Q_rm2_2 Z a1 a2 kz3 a4 a5 h0 n0 _ T2.heap T2.vm _
    exact ⟨rfl, N2, K2, r2_0, r2_1, (own_litW vq2_0 X2.warmed)⟩
def Q_rm28_1 (Z : State) (p1 : Int32) (h0 : Heap) (n0 : Nat) (v : Option Value) (h : Heap) (L : List Loc) : Prop := v = some (.int (1 : Int32)) ∧ Fr n0 L ∧ h = h0
set_option maxRecDepth 65536 in
set_option maxHeartbeats 40000000 in
theorem rm28_1 (l : Launch) (Z : State) (a0 : Array Value) (hw : ∀ d ∈ tables_1, d.before a0 Z = true) (ws : List Jvm.Cond) (p1 : Int32) (h0 : Heap) (n0 : Nat) (O0 : Old Z n0 h0) (P1 : ¬ ((255 : Int32) < p1)) :
    MetFree l (⟨"java/lang/StringLatin1", "canEncode", "(C)Z"⟩ : MethodName) (head1 (Jvm.Cond.code (⟨"java/lang/StringLatin1", "canEncode", "(C)Z"⟩ : MethodName) jdk_43_method_3_code 1 (some .boolean) :: ws) ({ frames := 0, cells := 0, slots := 0, locals := 0 } : Room)) (fun a U => a = #[(.int p1)] ∧ Z.Warmed39 U.vm ∧ U.heap = h0) (fun _ _ _ _ _ => True) (fun _ U o U' => ∃ v L, o = .returned v ∧ Q_rm28_1 Z p1 h0 n0 v U'.heap L ∧ FrameEnd U o U' L ({ frames := 0, cells := 0, slots := 0, locals := 0 } : Room).cells ({ frames := 0, cells := 0, slots := 0, locals := 0 } : Room).slots) := by
  refine MetFree.of_bodySF (plainFor_of_name pn_1) hisR ?_
  intro p e s m args below meth c s₁ Bd hml0 hP hK
  obtain ⟨rfl, hZ, hh⟩ := hP
  have hx := Bd.exec
  have hby := Bd.bytes
  have hml : c.maxLocals = 1 := hml0
  have hown : s.vm.findClass "java/lang/StringLatin1" = some m.cls := findClass_of_methodNamed Bd.named
  have hnm := (name_of_methodNamed Bd.named Bd.method).1
  have X0 : Stand p l e ({ frames := 0, cells := 0, slots := 0, locals := 0 } : Room) s m #[(.int p1)] below meth c s₁ [] 0 0 := Stand.of_body Bd
  have e0 : s₁.heap = h0 := by rw [← hh, Bd.state]; rfl
  have N0 := Fr.nil n0
  refine Go.start (P := (fun o U' => ∃ v L, o = .returned v ∧ Q_rm28_1 Z p1 h0 n0 v U'.heap L ∧ FrameEnd s o U' L ({ frames := 0, cells := 0, slots := 0, locals := 0 } : Room).cells ({ frames := 0, cells := 0, slots := 0, locals := 0 } : Room).slots)) (castTop (g' := (mkF m 0 #[.val (.int p1)] [])) (by first | rfl | simp [entryFrame, mkF, argsToLocals, Value.category]) (T := s₁)) ?_
  refine Go.st (fun t k => XS.iloadN X0.here hx rfl (hb hby d28_0) rfl k) ?_
  show Go p e below _ (s₁.setTop (mkF m 1 #[.val (.int p1)] [(.int p1)]))
  refine Go.st (fun t k => XS.sipush X0.here hx rfl (hb hby d28_1) k) ?_
  show Go p e below _ (s₁.setTop (mkF m 4 #[.val (.int p1)] [(.int (255 : Int32)), (.int p1)]))
  refine Go.st (fun t k => XS.icmpNo X0.here hx rfl (hb hby d28_4) rfl (Jvm.Free.XT.ii_gt_f P1) k) ?_
  show Go p e below _ (s₁.setTop (mkF m 7 #[.val (.int p1)] []))
  refine Go.st (fun t k => XS.iconst X0.here hx rfl (hb hby d28_7) k) ?_
  show Go p e below _ (s₁.setTop (mkF m 8 #[.val (.int p1)] [(.int (1 : Int32))]))
  refine Go.st (fun t k => XS.goto X0.here hx rfl (pc0 := 8) (pc' := 12) rfl (hb hby d28_8) (by decide) (by decide) k) ?_
  show Go p e below _ (s₁.setTop (mkF m 12 #[.val (.int p1)] [(.int (1 : Int32))]))
  obtain ⟨fs, hr, hrun, hended, hWd, hsame⟩ := X0.leave (v := some (.int (1 : Int32))) (fun h => by rw [Bd.returns] at h; cases h)
  refine ⟨_, _, ?_, hrun, hended, _, _, rfl, ?_, ⟨⟨_, rfl⟩, hWd, hsame.mono (by decide) (by decide)⟩⟩
  · exact retN X0 hx (t := .boolean) Bd.returns (by simp) (hb hby d28_12) hr
  · show Q_rm28_1 Z p1 h0 n0 _ s₁.heap _
    rw [e0]
    exact ⟨rfl, N0, rfl⟩
def Q_rm29_1 (Z : State) (p1 : Int32) (h0 : Heap) (n0 : Nat) (v : Option Value) (h : Heap) (L : List Loc) : Prop := ∃ (b1 : Addr) (k1 : ClassId), v = some (.ref b1) ∧ Fr n0 L ∧ Keep h0 h [] ∧ h0.size ≤ b1 ∧ Arv Z h b1 k1 .byte (1 : Int32) [(.int ((p1.toInt8.toInt32).toInt8.toInt32))] (.int (0 : Int32))
set_option maxRecDepth 65536 in
set_option maxHeartbeats 40000000 in
theorem rm29_1 (l : Launch) (Z : State) (a0 : Array Value) (hw : ∀ d ∈ tables_1, d.before a0 Z = true) (ws : List Jvm.Cond) (p1 : Int32) (h0 : Heap) (n0 : Nat) (O0 : Old Z n0 h0) :
    MetFree l (⟨"java/lang/StringLatin1", "toBytes", "(C)[B"⟩ : MethodName) (head1 (Jvm.Cond.code (⟨"java/lang/StringLatin1", "toBytes", "(C)[B"⟩ : MethodName) jdk_43_method_46_code 1 (some (.array .byte)) :: ws) ({ frames := 0, cells := 1, slots := 1, locals := 0 } : Room)) (fun a U => a = #[(.int p1)] ∧ Z.Warmed39 U.vm ∧ U.heap = h0) (fun _ _ _ _ _ => True) (fun _ U o U' => ∃ v L, o = .returned v ∧ Q_rm29_1 Z p1 h0 n0 v U'.heap L ∧ FrameEnd U o U' L ({ frames := 0, cells := 1, slots := 1, locals := 0 } : Room).cells ({ frames := 0, cells := 1, slots := 1, locals := 0 } : Room).slots) := by
  refine MetFree.of_bodySF (plainFor_of_name pn_1) hisR ?_
  intro p e s m args below meth c s₁ Bd hml0 hP hK
  obtain ⟨rfl, hZ, hh⟩ := hP
  have hx := Bd.exec
  have hby := Bd.bytes
  have hml : c.maxLocals = 1 := hml0
  have hown : s.vm.findClass "java/lang/StringLatin1" = some m.cls := findClass_of_methodNamed Bd.named
  have hnm := (name_of_methodNamed Bd.named Bd.method).1
  have X0 : Stand p l e ({ frames := 0, cells := 1, slots := 1, locals := 0 } : Room) s m #[(.int p1)] below meth c s₁ [] 0 0 := Stand.of_body Bd
  have e0 : s₁.heap = h0 := by rw [← hh, Bd.state]; rfl
  have N0 := Fr.nil n0
  refine Go.start (P := (fun o U' => ∃ v L, o = .returned v ∧ Q_rm29_1 Z p1 h0 n0 v U'.heap L ∧ FrameEnd s o U' L ({ frames := 0, cells := 1, slots := 1, locals := 0 } : Room).cells ({ frames := 0, cells := 1, slots := 1, locals := 0 } : Room).slots)) (castTop (g' := (mkF m 0 #[.val (.int p1)] [])) (by first | rfl | simp [entryFrame, mkF, argsToLocals, Value.category]) (T := s₁)) ?_
  refine Go.st (fun t k => XS.iconst X0.here hx rfl (hb hby d29_0) k) ?_
  show Go p e below _ (s₁.setTop (mkF m 1 #[.val (.int p1)] [(.int (1 : Int32))]))
  obtain ⟨T1, h1, k1, X1, e1, E1, A1, st1⟩ := newP X0 hx hZ (aty := .byte) (w19 hw) e0 (g := (mkF m 1 #[.val (.int p1)] [(.int (1 : Int32))])) rfl (hb hby d29_1) rfl (by decide) (cap := 1) (by decide) (by decide) (by decide) (by decide)
  obtain ⟨b1, z1⟩ : ∃ z, z = h0.size := ⟨_, rfl⟩
  rw [← z1] at A1 st1
  have g_b1 : n0 ≤ b1 := Nat.le_trans (own_n0 O0) (Nat.le_of_eq z1.symm)
  have s_b1 : h0.size ≤ b1 := Nat.le_trans (Keep.refl h0 []).1 (Nat.le_of_eq z1.symm)
  have V1 : Arv Z h1 b1 k1 .byte (1 : Int32) [(.int (0 : Int32))] (.int (0 : Int32)) := (Arv.new A1 (by decide)).pad (pad_rep [] (.int (0 : Int32)) 1)
  have O1 : Old Z n0 h1 := O0.ext E1
  have K1 : Keep h0 h1 [] := (Keep.refl h0 []).ext E1
  refine Go.st st1 ?_
  show Go p e below _ (T1.setTop (mkF m 3 #[.val (.int p1)] [(.ref b1)]))
  refine Go.st (fun t k => XS.dup X1.here hx rfl (hb hby d29_3) rfl rfl k) ?_
  show Go p e below _ (T1.setTop (mkF m 4 #[.val (.int p1)] [(.ref b1), (.ref b1)]))
  refine Go.st (fun t k => XS.iconst X1.here hx rfl (hb hby d29_4) k) ?_
  show Go p e below _ (T1.setTop (mkF m 5 #[.val (.int p1)] [(.int (0 : Int32)), (.ref b1), (.ref b1)]))
  refine Go.st (fun t k => XS.iloadN X1.here hx rfl (hb hby d29_5) rfl k) ?_
  show Go p e below _ (T1.setTop (mkF m 6 #[.val (.int p1)] [(.int p1), (.int (0 : Int32)), (.ref b1), (.ref b1)]))
  refine Go.st (fun t k => XS.i2b X1.here hx rfl (hb hby d29_6) rfl k) ?_
  show Go p e below _ (T1.setTop (mkF m 7 #[.val (.int p1)] [(.int (p1.toInt8.toInt32)), (.int (0 : Int32)), (.ref b1), (.ref b1)]))
  obtain ⟨cl2, Ar2, q2, S2, M2, H2, G2⟩ := id V1
  have hin2 : ¬ ((0 : Int32) < 0 ∨ cl2.slots.size ≤ ((0 : Int32)).toNatClampNeg) := inb_of S2 ⟨by decide, by decide⟩
  obtain ⟨T2, h2, X2, e2, W2, st2⟩ := stB X1 hx hZ e1 Ar2 (j := (0 : Int32)) hin2 (g := (mkF m 7 #[.val (.int p1)] [(.int (p1.toInt8.toInt32)), (.int (0 : Int32)), (.ref b1), (.ref b1)])) rfl rfl (hb hby d29_7)
  have V2 : Arv Z h2 b1 k1 .byte (1 : Int32) [(.int ((p1.toInt8.toInt32).toInt8.toInt32))] (.int (0 : Int32)) := Arv.set Ar2 q2 S2 M2 H2 G2 (fits_nar_byte _) W2 0 rfl (Nat.le_of_ble_eq_true rfl)
  have N2 := Fr.snoc X2 N0 g_b1
  have O2 : Old Z n0 h2 := O1.wr W2 g_b1
  have K2 : Keep h0 h2 [] := K1.wr W2 (Or.inr s_b1)
  refine Go.st st2 ?_
  show Go p e below _ (T2.setTop (mkF m 8 #[.val (.int p1)] [(.ref b1)]))
  obtain ⟨fs, hr, hrun, hended, hWd, hsame⟩ := X2.leave (v := some (.ref b1)) (fun h => by rw [Bd.returns] at h; cases h)
  refine ⟨_, _, ?_, hrun, hended, _, _, rfl, ?_, ⟨⟨_, rfl⟩, hWd, hsame.mono (by decide) (by decide)⟩⟩
  · exact own_retA X2 hx Bd.returns rfl rfl (hb hby d29_8) hr
  · show Q_rm29_1 Z p1 h0 n0 _ T2.heap _
    rw [e2]
    exact ⟨b1, k1, rfl, N2, K2, s_b1, V2⟩
def Q_rm30_1 (Z : State) (a1 : Addr) (a2 : Addr) (h0 : Heap) (n0 : Nat) (v : Option Value) (h : Heap) (L : List Loc) : Prop := v = none ∧ Fr n0 L ∧ Keep h0 h [a1] ∧ Fld Z h a1 "java/lang/String" "value" "[B" (.ref a2) ∧ Fld Z h a1 "java/lang/String" "coder" "B" (.int (0 : Int32))
set_option maxRecDepth 65536 in
set_option maxHeartbeats 40000000 in
theorem rm30_1 (l : Launch) (Z : State) (a0 : Array Value) (hw : ∀ d ∈ tables_1, d.before a0 Z = true) (ws : List Jvm.Cond) (a1 : Addr) (a2 : Addr) (h0 : Heap) (n0 : Nat) (O0 : Old Z n0 h0) (P1 : Exa Z h0 a1 "java/lang/String") (P2 : Fld Z h0 a1 "java/lang/String" "value" "[B" .null) (P3 : n0 ≤ a1) (P4 : Fld Z h0 a1 "java/lang/String" "coder" "B" (.int (0 : Int32))) :
    MetFree l (⟨"java/lang/String", "<init>", "([BB)V"⟩ : MethodName) (head1 (Jvm.Cond.code (⟨"java/lang/String", "<init>", "([BB)V"⟩ : MethodName) jdk_42_method_151_code 3 none :: ws) ({ frames := 1, cells := 0, slots := 0, locals := 12 } : Room)) (fun a U => a = #[(.ref a1), (.ref a2), (.int (0 : Int32))] ∧ Z.Warmed39 U.vm ∧ U.heap = h0) (fun _ _ _ _ _ => True) (fun _ U o U' => ∃ v L, o = .returned v ∧ Q_rm30_1 Z a1 a2 h0 n0 v U'.heap L ∧ FrameEnd U o U' L ({ frames := 1, cells := 0, slots := 0, locals := 12 } : Room).cells ({ frames := 1, cells := 0, slots := 0, locals := 12 } : Room).slots) := by
  refine MetFree.of_bodySF (plainFor_of_name pn_0) hisR ?_
  intro p e s m args below meth c s₁ Bd hml0 hP hK
  obtain ⟨rfl, hZ, hh⟩ := hP
  have hx := Bd.exec
  have hby := Bd.bytes
  have hml : c.maxLocals = 3 := hml0
  have hown : s.vm.findClass "java/lang/String" = some m.cls := findClass_of_methodNamed Bd.named
  have hnm := (name_of_methodNamed Bd.named Bd.method).1
  have X0 : Stand p l e ({ frames := 1, cells := 0, slots := 0, locals := 12 } : Room) s m #[(.ref a1), (.ref a2), (.int (0 : Int32))] below meth c s₁ [] 0 0 := Stand.of_body Bd
  have e0 : s₁.heap = h0 := by rw [← hh, Bd.state]; rfl
  have N0 := Fr.nil n0
  refine Go.start (P := (fun o U' => ∃ v L, o = .returned v ∧ Q_rm30_1 Z a1 a2 h0 n0 v U'.heap L ∧ FrameEnd s o U' L ({ frames := 1, cells := 0, slots := 0, locals := 12 } : Room).cells ({ frames := 1, cells := 0, slots := 0, locals := 12 } : Room).slots)) (castTop (g' := (mkF m 0 #[.val (.ref a1), .val (.ref a2), .val (.int (0 : Int32))] [])) (by first | rfl | simp [entryFrame, mkF, argsToLocals, Value.category]) (T := s₁)) ?_
  refine Go.st (fun t k => XS.aloadN X0.here hx rfl (hb hby d30_0) rfl rfl k) ?_
  show Go p e below _ (s₁.setTop (mkF m 1 #[.val (.ref a1), .val (.ref a2), .val (.int (0 : Int32))] [(.ref a1)]))
  obtain ⟨T1, X1, e1, st1⟩ := initO X0 hx hZ hown (w15 hw) (w16 hw) (w17 hw) e0 (g := (mkF m 1 #[.val (.ref a1), .val (.ref a2), .val (.int (0 : Int32))] [(.ref a1)])) rfl (by rw [hml]; rfl) rfl (hb hby d30_1) (by decide) (W := 0) (by show 2 * 0 + _ ≤ _; exact Nat.le_of_eq rfl) (by decide)
  refine Go.st st1 ?_
  show Go p e below _ (T1.setTop (mkF m 4 #[.val (.ref a1), .val (.ref a2), .val (.int (0 : Int32))] []))
  refine Go.st (fun t k => XS.aloadN X1.here hx rfl (hb hby d30_4) rfl rfl k) ?_
  show Go p e below _ (T1.setTop (mkF m 5 #[.val (.ref a1), .val (.ref a2), .val (.int (0 : Int32))] [(.ref a1)]))
  refine Go.st (fun t k => XS.aloadN X1.here hx rfl (hb hby d30_5) rfl rfl k) ?_
  show Go p e below _ (T1.setTop (mkF m 6 #[.val (.ref a1), .val (.ref a2), .val (.int (0 : Int32))] [(.ref a2), (.ref a1)]))
  obtain ⟨T2, h2, X2, e2, W2, st2⟩ := putF X1 hx hZ hown (host := "") (Or.inl (w24 hw)) Via.refl e1 P2 P1 (Or.inr ⟨(w20 hw), rfl, hnm⟩) (w5 hw) (ty := (.array .byte)) (by decide) rfl rfl (g := (mkF m 6 #[.val (.ref a1), .val (.ref a2), .val (.int (0 : Int32))] [(.ref a2), (.ref a1)])) rfl rfl (hb hby d30_6)
  have F2 : Fld Z h2 a1 "java/lang/String" "value" "[B" (.ref a2) := P2.same W2
  have N2 := Fr.snoc X2 N0 P3
  have O2 : Old Z n0 h2 := O0.wr W2 P3
  have K2 : Keep h0 h2 [a1] := (Keep.refl h0 [a1]).wr W2 (Or.inl (List.mem_of_getElem? (i := 0) rfl))
  refine Go.st st2 ?_
  show Go p e below _ (T2.setTop (mkF m 9 #[.val (.ref a1), .val (.ref a2), .val (.int (0 : Int32))] []))
  refine Go.st (fun t k => XS.aloadN X2.here hx rfl (hb hby d30_9) rfl rfl k) ?_
  show Go p e below _ (T2.setTop (mkF m 10 #[.val (.ref a1), .val (.ref a2), .val (.int (0 : Int32))] [(.ref a1)]))
  refine Go.st (fun t k => XS.iloadN X2.here hx rfl (hb hby d30_10) rfl k) ?_
  show Go p e below _ (T2.setTop (mkF m 11 #[.val (.ref a1), .val (.ref a2), .val (.int (0 : Int32))] [(.int (0 : Int32)), (.ref a1)]))
  have c3 := (P4.other W2 (Or.inr (slot_ne (Or.inr (w21 hw)) (Or.inr (w20 hw)) (by decide) (t := .byte) (t' := (.array .byte)) (by decide) (by decide))))
  obtain ⟨T4, h4, X4, e4, W4, st4⟩ := putFN X2 hx hZ hown (w25 hw) Via.refl e2 c3 (P1.wr W2) (Or.inr ⟨(w21 hw), rfl, hnm⟩) (w5 hw) (ty := .byte) (v' := (.int (0 : Int32))) (by decide) rfl (by decide) (g := (mkF m 11 #[.val (.ref a1), .val (.ref a2), .val (.int (0 : Int32))] [(.int (0 : Int32)), (.ref a1)])) rfl rfl (hb hby d30_11)
  have F4 : Fld Z h4 a1 "java/lang/String" "coder" "B" (.int (0 : Int32)) := c3.same W4
  have N4 := Fr.snoc X4 N2 P3
  have O4 : Old Z n0 h4 := O2.wr W4 P3
  have K4 : Keep h0 h4 [a1] := K2.wr W4 (Or.inl (List.mem_of_getElem? (i := 0) rfl))
  refine Go.st st4 ?_
  show Go p e below _ (T4.setTop (mkF m 14 #[.val (.ref a1), .val (.ref a2), .val (.int (0 : Int32))] []))
  obtain ⟨fs, hr, hrun, hended, hWd, hsame⟩ := X4.leave (v := none) (fun _ => rfl)
  have c5 := (F2.other W4 (Or.inr (slot_ne (Or.inr (w20 hw)) (Or.inr (w21 hw)) (by decide) (t := (.array .byte)) (t' := .byte) (by decide) (by decide))))
  refine ⟨_, _, ?_, hrun, hended, _, _, rfl, ?_, ⟨⟨_, rfl⟩, hWd, hsame.mono (by decide) (by decide)⟩⟩
  · exact X4.returnOut hx Bd.returns (hb hby d30_14) hr
  · show Q_rm30_1 Z a1 a2 h0 n0 _ T4.heap _
    rw [e4]
    exact ⟨rfl, N4, K4, c5, F4⟩
def Q_rm27_1 (Z : State) (p1 : Int32) (p2 : Int32) (h0 : Heap) (n0 : Nat) (v : Option Value) (h : Heap) (L : List Loc) : Prop := ∃ (b3 : Addr) (b1_4 : Addr) (k1_4 : ClassId), v = some (.ref b3) ∧ Fr n0 L ∧ Keep h0 h [] ∧ h0.size ≤ b3 ∧ h0.size ≤ b1_4 ∧ b3 ≠ b1_4 ∧ Exa Z h b3 "java/lang/String" ∧ Fld Z h b3 "java/lang/String" "value" "[B" (.ref b1_4) ∧ Fld Z h b3 "java/lang/String" "coder" "B" (.int (0 : Int32)) ∧ Arv Z h b1_4 k1_4 .byte (1 : Int32) [(.int ((p1.toInt8.toInt32).toInt8.toInt32))] (.int (0 : Int32))
set_option maxRecDepth 65536 in
set_option maxHeartbeats 40000000 in
theorem rm27_1 (l : Launch) (Z : State) (a0 : Array Value) (hw : ∀ d ∈ tables_1, d.before a0 Z = true) (ws : List Jvm.Cond) (p1 : Int32) (p2 : Int32) (h0 : Heap) (n0 : Nat) (O0 : Old Z n0 h0) (P1 : Sta Z Z.heap "java/lang/String" "COMPACT_STRINGS" "Z" (.int p2)) (P2 : ¬ (p2 = (0 : Int32))) (P3 : ¬ ((255 : Int32) < p1)) :
    MetFree l (⟨"java/lang/String", "valueOf", "(C)Ljava/lang/String;"⟩ : MethodName) (head1 (Jvm.Cond.code (⟨"java/lang/String", "valueOf", "(C)Ljava/lang/String;"⟩ : MethodName) jdk_42_method_139_code 1 (some (.object "java/lang/String")) :: ws) ({ frames := 2, cells := 2, slots := 5, locals := 27 } : Room)) (fun a U => a = #[(.int p1)] ∧ Z.Warmed39 U.vm ∧ U.heap = h0) (fun _ _ _ _ _ => True) (fun _ U o U' => ∃ v L, o = .returned v ∧ Q_rm27_1 Z p1 p2 h0 n0 v U'.heap L ∧ FrameEnd U o U' L ({ frames := 2, cells := 2, slots := 5, locals := 27 } : Room).cells ({ frames := 2, cells := 2, slots := 5, locals := 27 } : Room).slots) := by
  refine MetFree.of_bodySF (plainFor_of_name pn_0) hisR ?_
  intro p e s m args below meth c s₁ Bd hml0 hP hK
  obtain ⟨rfl, hZ, hh⟩ := hP
  have hx := Bd.exec
  have hby := Bd.bytes
  have hml : c.maxLocals = 1 := hml0
  have hown : s.vm.findClass "java/lang/String" = some m.cls := findClass_of_methodNamed Bd.named
  have hnm := (name_of_methodNamed Bd.named Bd.method).1
  have X0 : Stand p l e ({ frames := 2, cells := 2, slots := 5, locals := 27 } : Room) s m #[(.int p1)] below meth c s₁ [] 0 0 := Stand.of_body Bd
  have e0 : s₁.heap = h0 := by rw [← hh, Bd.state]; rfl
  have N0 := Fr.nil n0
  refine Go.start (P := (fun o U' => ∃ v L, o = .returned v ∧ Q_rm27_1 Z p1 p2 h0 n0 v U'.heap L ∧ FrameEnd s o U' L ({ frames := 2, cells := 2, slots := 5, locals := 27 } : Room).cells ({ frames := 2, cells := 2, slots := 5, locals := 27 } : Room).slots)) (castTop (g' := (mkF m 0 #[.val (.int p1)] [])) (by first | rfl | simp [entryFrame, mkF, argsToLocals, Value.category]) (T := s₁)) ?_
  obtain ⟨T1, X1, e1, st1⟩ := getS2 X0 hx hZ hown (host := "") (Or.inl (w164 hw)) Via.refl e0 (P1.ext O0.2) (g := (mkF m 0 #[.val (.int p1)] [])) rfl (hb hby d27_0)
  refine Go.st st1 ?_
  show Go p e below _ (T1.setTop (mkF m 3 #[.val (.int p1)] [(.int p2)]))
  refine Go.st (fun t k => XS.ifNo X1.here hx rfl (hb hby d27_3) rfl (Jvm.Free.XT.i0_eq_f P2) k) ?_
  show Go p e below _ (T1.setTop (mkF m 6 #[.val (.int p1)] []))
  refine Go.st (fun t k => XS.iloadN X1.here hx rfl (hb hby d27_6) rfl k) ?_
  show Go p e below _ (T1.setTop (mkF m 7 #[.val (.int p1)] [(.int p1)]))
  obtain ⟨_, _, ⟨T2, L2, k2, n2⟩, -, X2, ⟨Lc2, hQ2, l2, y2, z2⟩, st2⟩ := Jvm.LawKit.callS X1 hx (y := (⟨"java/lang/StringLatin1", "canEncode", "(C)Z"⟩ : MethodName)) hown (mvT hZ (w178 hw)) (mvT hZ (w179 hw)) (mvT hZ (w180 hw)) (mvT hZ (w181 hw)) (by decide) (backOf (W := 0) (rm28_1 l Z a0 hw [] p1 h0 n0 O0 P3) hZ (w181 hw) (w180 hw) (by decide) (by decide)) (g := (mkF m 7 #[.val (.int p1)] [(.int p1)])) rfl (by rw [hml]; rfl) (argsL := [(.int p1)]) (rest := []) (lenOf pd_2 rfl) rfl (by show 2 * 0 + _ ≤ _; exact Nat.le_of_eq rfl) (hb hby d27_7) (fun vm₁ hw₁ => ⟨rfl, e1, (by decide : 0 + 0 ≤ _), (by decide : 0 + 0 ≤ _)⟩)
  dsimp only [Pt.U, Pt.locs, Pt.cells, Pt.slots] at X2 l2 y2 z2 st2 hQ2
  subst l2 y2 z2
  obtain ⟨rfl, M2, eh2⟩ := hQ2
  have N2 := Fr.app N0 M2
  refine Go.st st2 ?_
  show Go p e below _ (T2.setTop (mkF m 10 #[.val (.int p1)] [(.int (1 : Int32))]))
  refine Go.st (fun t k => XS.ifNo X2.here hx rfl (hb hby d27_10) rfl (Jvm.Free.XT.i0_eq_f (by decide : ¬ ((1 : Int32) = (0 : Int32)))) k) ?_
  show Go p e below _ (T2.setTop (mkF m 13 #[.val (.int p1)] []))
  obtain ⟨T3, h3, X3, e3, E3, A3, D3, -, st3⟩ := newO X2 hx hZ hown (w182 hw) (w5 hw) (w6 hw) eh2 (g := (mkF m 13 #[.val (.int p1)] [])) rfl (hb hby d27_13) (by decide) (by decide)
  obtain ⟨b3, z3⟩ : ∃ z, z = h0.size := ⟨_, rfl⟩
  rw [← z3] at A3 D3 st3
  have g_b3 : n0 ≤ b3 := Nat.le_trans (own_n0 O0) (Nat.le_of_eq z3.symm)
  have s_b3 : h0.size ≤ b3 := Nat.le_trans (Keep.refl h0 []).1 (Nat.le_of_eq z3.symm)
  have O3 : Old Z n0 h3 := O0.ext E3
  have K3 : Keep h0 h3 [] := (Keep.refl h0 []).ext E3
  have f3_20 : Fld Z h3 b3 "java/lang/String" "value" "[B" .null := D3 (Or.inr (w20 hw)) (ty := (.array .byte)) (by decide)
  have f3_21 : Fld Z h3 b3 "java/lang/String" "coder" "B" (.int (0 : Int32)) := D3 (Or.inr (w21 hw)) (ty := .byte) (by decide)
  refine Go.st st3 ?_
  show Go p e below _ (T3.setTop (mkF m 16 #[.val (.int p1)] [(.ref b3)]))
  refine Go.st (fun t k => XS.dup X3.here hx rfl (hb hby d27_16) rfl rfl k) ?_
  show Go p e below _ (T3.setTop (mkF m 17 #[.val (.int p1)] [(.ref b3), (.ref b3)]))
  refine Go.st (fun t k => XS.iloadN X3.here hx rfl (hb hby d27_17) rfl k) ?_
  show Go p e below _ (T3.setTop (mkF m 18 #[.val (.int p1)] [(.int p1), (.ref b3), (.ref b3)]))
  obtain ⟨_, _, ⟨T4, L4, k4, n4⟩, -, X4, ⟨Lc4, hQ4, l4, y4, z4⟩, st4⟩ := Jvm.LawKit.callS X3 hx (y := (⟨"java/lang/StringLatin1", "toBytes", "(C)[B"⟩ : MethodName)) hown (mvT hZ (w183 hw)) (mvT hZ (w184 hw)) (mvT hZ (w180 hw)) (mvT hZ (w185 hw)) (by decide) (backOf (W := 2) (rm29_1 l Z a0 hw [] p1 h3 n0 O3 ) hZ (w185 hw) (w180 hw) (by decide) (by decide)) (g := (mkF m 18 #[.val (.int p1)] [(.int p1), (.ref b3), (.ref b3)])) rfl (by rw [hml]; rfl) (argsL := [(.int p1)]) (rest := [(.ref b3), (.ref b3)]) (lenOf pd_3 rfl) rfl (by show 2 * 0 + _ ≤ _; exact Nat.le_of_eq rfl) (hb hby d27_18) (fun vm₁ hw₁ => ⟨rfl, e3, (by decide : 1 + 1 ≤ _), (by decide : 4 + 1 ≤ _)⟩)
  dsimp only [Pt.U, Pt.locs, Pt.cells, Pt.slots] at X4 l4 y4 z4 st4 hQ4
  subst l4 y4 z4
  obtain ⟨b1_4, k1_4, rfl, M4, K4c, r4_0, r4_1⟩ := hQ4
  have N4 := Fr.app N2 M4
  have g_b1_4 : n0 ≤ b1_4 := Nat.le_trans (own_n0 O3) r4_0
  have s_b1_4 : h0.size ≤ b1_4 := Nat.le_trans K3.1 r4_0
  have O4 : Old Z n0 T4.heap := O3.keep K4c all0
  have K4 : Keep h0 T4.heap [] := K3.trans K4c all0
  refine Go.st st4 ?_
  show Go p e below _ (T4.setTop (mkF m 21 #[.val (.int p1)] [(.ref b1_4), (.ref b3), (.ref b3)]))
  refine Go.st (fun t k => XS.iconst X4.here hx rfl (hb hby d27_21) k) ?_
  show Go p e below _ (T4.setTop (mkF m 22 #[.val (.int p1)] [(.int (0 : Int32)), (.ref b1_4), (.ref b3), (.ref b3)]))
  obtain ⟨_, _, ⟨T5, L5, k5, n5⟩, -, X5, ⟨Lc5, hQ5, l5, y5, z5⟩, st5⟩ := X4.specialBack hx (y := (⟨"java/lang/String", "<init>", "([BB)V"⟩ : MethodName)) rfl hown (mvT hZ (w186 hw)) (mvT hZ (w187 hw)) (mvT hZ (w188 hw)) (by decide) (backOf (W := 1) (rm30_1 l Z a0 hw [] b3 b1_4 T4.heap n0 O4 (A3.keep K4c) (f3_20.keep K4c nin0) g_b3 (f3_21.keep K4c nin0)) hZ (w188 hw) (w6 hw) (by decide) (by decide)) (g := (mkF m 22 #[.val (.int p1)] [(.int (0 : Int32)), (.ref b1_4), (.ref b3), (.ref b3)])) rfl (by rw [hml]; rfl) (Steps.refl _) (a := b3) (argsL := [(.ref b1_4), (.int (0 : Int32))]) (rest := [(.ref b3)]) (lenOf pd_4 rfl) rfl (by show 2 * 0 + _ ≤ _; exact Nat.le_of_eq rfl) (hb hby d27_22) (fun vm₁ hw₁ => ⟨rfl, rfl, (by decide : 2 + 0 ≤ _), (by decide : 5 + 0 ≤ _)⟩)
  dsimp only [Pt.U, Pt.locs, Pt.cells, Pt.slots] at X5 l5 y5 z5 st5 hQ5
  subst l5 y5 z5
  obtain ⟨rfl, M5, K5c, r5_0, r5_1⟩ := hQ5
  have N5 := Fr.app N4 M5
  have O5 : Old Z n0 T5.heap := O4.keep K5c (allS g_b3 all0)
  have K5 : Keep h0 T5.heap [] := K4.trans K5c (allS (Or.inr s_b3) all0)
  refine Go.tr st5 ?_
  show Go p e below _ (T5.setTop (mkF m 25 #[.val (.int p1)] [(.ref b3)]))
  obtain ⟨fs, hr, hrun, hended, hWd, hsame⟩ := X5.leave (v := some (.ref b3)) (fun h => by rw [Bd.returns] at h; cases h)
  have c6 := (r4_1.keep K5c (ninS (Ne.symm (Nat.ne_of_lt (Nat.lt_of_lt_of_le A3.lt r4_0))) nin0))
  refine ⟨_, _, ?_, hrun, hended, _, _, rfl, ?_, ⟨⟨_, rfl⟩, hWd, hsame.mono (by decide) (by decide)⟩⟩
  · exact own_retA X5 hx Bd.returns rfl rfl (hb hby d27_25) hr
  · show Q_rm27_1 Z p1 p2 h0 n0 _ T5.heap _
    exact ⟨b3, b1_4, k1_4, rfl, N5, K5, s_b3, s_b1_4, (Nat.ne_of_lt (Nat.lt_of_lt_of_le A3.lt r4_0)), ((A3.keep K4c).keep K5c), r5_0, r5_1, c6⟩
def Q_rm25_1 (Z : State) (a1 : Addr) (a2 : Addr) (kz3 : ClassId) (p4 : Int32) (p5 : Int32) (kz6 : ClassId) (h0 : Heap) (n0 : Nat) (v : Option Value) (h : Heap) (L : List Loc) : Prop := v = some (.int (2 : Int32)) ∧ Fr n0 L ∧ Keep h0 h [a2] ∧ Arv Z h a2 kz6 .byte (2 : Int32) [(.int ((p4.toInt8.toInt32).toInt8.toInt32)), (.int ((p5.toInt8.toInt32).toInt8.toInt32))] (.int (0 : Int32))
set_option maxRecDepth 65536 in
set_option maxHeartbeats 40000000 in
theorem rm25_1 (l : Launch) (Z : State) (a0 : Array Value) (hw : ∀ d ∈ tables_1, d.before a0 Z = true) (ws : List Jvm.Cond) (a1 : Addr) (a2 : Addr) (kz3 : ClassId) (p4 : Int32) (p5 : Int32) (kz6 : ClassId) (h0 : Heap) (n0 : Nat) (O0 : Old Z n0 h0) (P1 : Arv Z h0 a1 kz3 .char (2 : Int32) [(.int p4), (.int p5)] (.int (0 : Int32))) (P2 : ¬ ((255 : Int32) < p4)) (P3 : Arv Z h0 a2 kz6 .byte (2 : Int32) [(.int (0 : Int32)), (.int (0 : Int32))] (.int (0 : Int32))) (P4 : n0 ≤ a2) (P5 : a1 ≠ a2) (P6 : ¬ ((255 : Int32) < p5)) :
    MetFree l (⟨"java/lang/StringUTF16", "compress", "([CI[BII)I"⟩ : MethodName) (head1 (Jvm.Cond.code (⟨"java/lang/StringUTF16", "compress", "([CI[BII)I"⟩ : MethodName) jdk_52_method_21_code 7 (some .int) :: ws) ({ frames := 0, cells := 0, slots := 0, locals := 0 } : Room)) (fun a U => a = #[(.ref a1), (.int (0 : Int32)), (.ref a2), (.int (0 : Int32)), (.int (2 : Int32))] ∧ Z.Warmed39 U.vm ∧ U.heap = h0) (fun _ _ _ _ _ => True) (fun _ U o U' => ∃ v L, o = .returned v ∧ Q_rm25_1 Z a1 a2 kz3 p4 p5 kz6 h0 n0 v U'.heap L ∧ FrameEnd U o U' L ({ frames := 0, cells := 0, slots := 0, locals := 0 } : Room).cells ({ frames := 0, cells := 0, slots := 0, locals := 0 } : Room).slots) := by
  refine MetFree.of_bodySF (plainFor_of_name pn_2) hisR ?_
  intro p e s m args below meth c s₁ Bd hml0 hP hK
  obtain ⟨rfl, hZ, hh⟩ := hP
  have hx := Bd.exec
  have hby := Bd.bytes
  have hml : c.maxLocals = 7 := hml0
  have hown : s.vm.findClass "java/lang/StringUTF16" = some m.cls := findClass_of_methodNamed Bd.named
  have hnm := (name_of_methodNamed Bd.named Bd.method).1
  have X0 : Stand p l e ({ frames := 0, cells := 0, slots := 0, locals := 0 } : Room) s m #[(.ref a1), (.int (0 : Int32)), (.ref a2), (.int (0 : Int32)), (.int (2 : Int32))] below meth c s₁ [] 0 0 := Stand.of_body Bd
  have e0 : s₁.heap = h0 := by rw [← hh, Bd.state]; rfl
  have N0 := Fr.nil n0
  refine Go.start (P := (fun o U' => ∃ v L, o = .returned v ∧ Q_rm25_1 Z a1 a2 kz3 p4 p5 kz6 h0 n0 v U'.heap L ∧ FrameEnd s o U' L ({ frames := 0, cells := 0, slots := 0, locals := 0 } : Room).cells ({ frames := 0, cells := 0, slots := 0, locals := 0 } : Room).slots)) (castTop (g' := (mkF m 0 #[.val (.ref a1), .val (.int (0 : Int32)), .val (.ref a2), .val (.int (0 : Int32)), .val (.int (2 : Int32)), .unset, .unset] [])) (by first | rfl | simp [entryFrame, mkF, argsToLocals, Value.category]) (T := s₁)) ?_
  refine Go.st (fun t k => XS.iconst X0.here hx rfl (hb hby d25_0) k) ?_
  show Go p e below _ (s₁.setTop (mkF m 1 #[.val (.ref a1), .val (.int (0 : Int32)), .val (.ref a2), .val (.int (0 : Int32)), .val (.int (2 : Int32)), .unset, .unset] [(.int (0 : Int32))]))
  refine Go.st (fun t k => XS.istore X0.here hx rfl (hb hby d25_1) rfl (l' := #[.val (.ref a1), .val (.int (0 : Int32)), .val (.ref a2), .val (.int (0 : Int32)), .val (.int (2 : Int32)), .val (.int (0 : Int32)), .unset]) rfl k) ?_
  show Go p e below _ (s₁.setTop (mkF m 3 #[.val (.ref a1), .val (.int (0 : Int32)), .val (.ref a2), .val (.int (0 : Int32)), .val (.int (2 : Int32)), .val (.int (0 : Int32)), .unset] []))
  refine Go.st (fun t k => XS.iload X0.here hx rfl (hb hby d25_3) rfl k) ?_
  show Go p e below _ (s₁.setTop (mkF m 5 #[.val (.ref a1), .val (.int (0 : Int32)), .val (.ref a2), .val (.int (0 : Int32)), .val (.int (2 : Int32)), .val (.int (0 : Int32)), .unset] [(.int (0 : Int32))]))
  refine Go.st (fun t k => XS.iload X0.here hx rfl (hb hby d25_5) rfl k) ?_
  show Go p e below _ (s₁.setTop (mkF m 7 #[.val (.ref a1), .val (.int (0 : Int32)), .val (.ref a2), .val (.int (0 : Int32)), .val (.int (2 : Int32)), .val (.int (0 : Int32)), .unset] [(.int (2 : Int32)), (.int (0 : Int32))]))
  refine Go.st (fun t k => XS.icmpNo X0.here hx rfl (hb hby d25_7) rfl (Jvm.Free.XT.ii_ge_f (by decide : (0 : Int32) < (2 : Int32))) k) ?_
  show Go p e below _ (s₁.setTop (mkF m 10 #[.val (.ref a1), .val (.int (0 : Int32)), .val (.ref a2), .val (.int (0 : Int32)), .val (.int (2 : Int32)), .val (.int (0 : Int32)), .unset] []))
  refine Go.st (fun t k => XS.aloadN X0.here hx rfl (hb hby d25_10) rfl rfl k) ?_
  show Go p e below _ (s₁.setTop (mkF m 11 #[.val (.ref a1), .val (.int (0 : Int32)), .val (.ref a2), .val (.int (0 : Int32)), .val (.int (2 : Int32)), .val (.int (0 : Int32)), .unset] [(.ref a1)]))
  refine Go.st (fun t k => XS.iloadN X0.here hx rfl (hb hby d25_11) rfl k) ?_
  show Go p e below _ (s₁.setTop (mkF m 12 #[.val (.ref a1), .val (.int (0 : Int32)), .val (.ref a2), .val (.int (0 : Int32)), .val (.int (2 : Int32)), .val (.int (0 : Int32)), .unset] [(.int (0 : Int32)), (.ref a1)]))
  obtain ⟨cl1, Ar1, q1, S1, M1, H1, G1⟩ := id P1
  have hin1 : ¬ ((0 : Int32) < 0 ∨ cl1.slots.size ≤ ((0 : Int32)).toNatClampNeg) := inb_of S1 ⟨by decide, by decide⟩
  have hat1 : cl1.slots[((0 : Int32)).toNatClampNeg]? = some (.int p4) := H1.at hin1 rfl
  refine Go.st (fun t k => X0.caload hx (j := (0 : Int32)) (v := (.int p4)) (by rw [e0]; exact Ar1.1) (State.isArrayOf_alike hZ.alike Ar1.2.1) Ar1.2.2 hin1 hat1 (g := (mkF m 12 #[.val (.ref a1), .val (.int (0 : Int32)), .val (.ref a2), .val (.int (0 : Int32)), .val (.int (2 : Int32)), .val (.int (0 : Int32)), .unset] [(.int (0 : Int32)), (.ref a1)])) rfl rfl (hb hby d25_12) t k) ?_
  show Go p e below _ (s₁.setTop (mkF m 13 #[.val (.ref a1), .val (.int (0 : Int32)), .val (.ref a2), .val (.int (0 : Int32)), .val (.int (2 : Int32)), .val (.int (0 : Int32)), .unset] [(.int p4)]))
  refine Go.st (fun t k => XS.istore X0.here hx rfl (hb hby d25_13) rfl (l' := #[.val (.ref a1), .val (.int (0 : Int32)), .val (.ref a2), .val (.int (0 : Int32)), .val (.int (2 : Int32)), .val (.int (0 : Int32)), .val (.int p4)]) rfl k) ?_
  show Go p e below _ (s₁.setTop (mkF m 15 #[.val (.ref a1), .val (.int (0 : Int32)), .val (.ref a2), .val (.int (0 : Int32)), .val (.int (2 : Int32)), .val (.int (0 : Int32)), .val (.int p4)] []))
  refine Go.st (fun t k => XS.iload X0.here hx rfl (hb hby d25_15) rfl k) ?_
  show Go p e below _ (s₁.setTop (mkF m 17 #[.val (.ref a1), .val (.int (0 : Int32)), .val (.ref a2), .val (.int (0 : Int32)), .val (.int (2 : Int32)), .val (.int (0 : Int32)), .val (.int p4)] [(.int p4)]))
  refine Go.st (fun t k => XS.sipush X0.here hx rfl (hb hby d25_17) k) ?_
  show Go p e below _ (s₁.setTop (mkF m 20 #[.val (.ref a1), .val (.int (0 : Int32)), .val (.ref a2), .val (.int (0 : Int32)), .val (.int (2 : Int32)), .val (.int (0 : Int32)), .val (.int p4)] [(.int (255 : Int32)), (.int p4)]))
  refine Go.st (fun t k => XS.icmpYes X0.here hx rfl (pc0 := 20) (pc' := 26) rfl (hb hby d25_20) rfl (Jvm.Free.XT.ii_le_t P2) (by decide) (by decide) k) ?_
  show Go p e below _ (s₁.setTop (mkF m 26 #[.val (.ref a1), .val (.int (0 : Int32)), .val (.ref a2), .val (.int (0 : Int32)), .val (.int (2 : Int32)), .val (.int (0 : Int32)), .val (.int p4)] []))
  refine Go.st (fun t k => XS.aloadN X0.here hx rfl (hb hby d25_26) rfl rfl k) ?_
  show Go p e below _ (s₁.setTop (mkF m 27 #[.val (.ref a1), .val (.int (0 : Int32)), .val (.ref a2), .val (.int (0 : Int32)), .val (.int (2 : Int32)), .val (.int (0 : Int32)), .val (.int p4)] [(.ref a2)]))
  refine Go.st (fun t k => XS.iloadN X0.here hx rfl (hb hby d25_27) rfl k) ?_
  show Go p e below _ (s₁.setTop (mkF m 28 #[.val (.ref a1), .val (.int (0 : Int32)), .val (.ref a2), .val (.int (0 : Int32)), .val (.int (2 : Int32)), .val (.int (0 : Int32)), .val (.int p4)] [(.int (0 : Int32)), (.ref a2)]))
  refine Go.st (fun t k => XS.iload X0.here hx rfl (hb hby d25_28) rfl k) ?_
  show Go p e below _ (s₁.setTop (mkF m 30 #[.val (.ref a1), .val (.int (0 : Int32)), .val (.ref a2), .val (.int (0 : Int32)), .val (.int (2 : Int32)), .val (.int (0 : Int32)), .val (.int p4)] [(.int p4), (.int (0 : Int32)), (.ref a2)]))
  refine Go.st (fun t k => XS.i2b X0.here hx rfl (hb hby d25_30) rfl k) ?_
  show Go p e below _ (s₁.setTop (mkF m 31 #[.val (.ref a1), .val (.int (0 : Int32)), .val (.ref a2), .val (.int (0 : Int32)), .val (.int (2 : Int32)), .val (.int (0 : Int32)), .val (.int p4)] [(.int (p4.toInt8.toInt32)), (.int (0 : Int32)), (.ref a2)]))
  obtain ⟨cl2, Ar2, q2, S2, M2, H2, G2⟩ := id P3
  have hin2 : ¬ ((0 : Int32) < 0 ∨ cl2.slots.size ≤ ((0 : Int32)).toNatClampNeg) := inb_of S2 ⟨by decide, by decide⟩
  obtain ⟨T2, h2, X2, e2, W2, st2⟩ := stB X0 hx hZ e0 Ar2 (j := (0 : Int32)) hin2 (g := (mkF m 31 #[.val (.ref a1), .val (.int (0 : Int32)), .val (.ref a2), .val (.int (0 : Int32)), .val (.int (2 : Int32)), .val (.int (0 : Int32)), .val (.int p4)] [(.int (p4.toInt8.toInt32)), (.int (0 : Int32)), (.ref a2)])) rfl rfl (hb hby d25_31)
  have V2 : Arv Z h2 a2 kz6 .byte (2 : Int32) [(.int ((p4.toInt8.toInt32).toInt8.toInt32)), (.int (0 : Int32))] (.int (0 : Int32)) := Arv.set Ar2 q2 S2 M2 H2 G2 (fits_nar_byte _) W2 0 rfl (Nat.le_of_ble_eq_true rfl)
  have N2 := Fr.snoc X2 N0 P4
  have O2 : Old Z n0 h2 := O0.wr W2 P4
  have K2 : Keep h0 h2 [a2] := (Keep.refl h0 [a2]).wr W2 (Or.inl (List.mem_of_getElem? (i := 0) rfl))
  refine Go.st st2 ?_
  show Go p e below _ (T2.setTop (mkF m 32 #[.val (.ref a1), .val (.int (0 : Int32)), .val (.ref a2), .val (.int (0 : Int32)), .val (.int (2 : Int32)), .val (.int (0 : Int32)), .val (.int p4)] []))
  refine Go.st (fun t k => XS.iinc X2.here hx rfl (hb hby d25_32) rfl (l' := #[.val (.ref a1), .val (.int (1 : Int32)), .val (.ref a2), .val (.int (0 : Int32)), .val (.int (2 : Int32)), .val (.int (0 : Int32)), .val (.int p4)]) rfl k) ?_
  show Go p e below _ (T2.setTop (mkF m 35 #[.val (.ref a1), .val (.int (1 : Int32)), .val (.ref a2), .val (.int (0 : Int32)), .val (.int (2 : Int32)), .val (.int (0 : Int32)), .val (.int p4)] []))
  refine Go.st (fun t k => XS.iinc X2.here hx rfl (hb hby d25_35) rfl (l' := #[.val (.ref a1), .val (.int (1 : Int32)), .val (.ref a2), .val (.int (1 : Int32)), .val (.int (2 : Int32)), .val (.int (0 : Int32)), .val (.int p4)]) rfl k) ?_
  show Go p e below _ (T2.setTop (mkF m 38 #[.val (.ref a1), .val (.int (1 : Int32)), .val (.ref a2), .val (.int (1 : Int32)), .val (.int (2 : Int32)), .val (.int (0 : Int32)), .val (.int p4)] []))
  refine Go.st (fun t k => XS.iinc X2.here hx rfl (hb hby d25_38) rfl (l' := #[.val (.ref a1), .val (.int (1 : Int32)), .val (.ref a2), .val (.int (1 : Int32)), .val (.int (2 : Int32)), .val (.int (1 : Int32)), .val (.int p4)]) rfl k) ?_
  show Go p e below _ (T2.setTop (mkF m 41 #[.val (.ref a1), .val (.int (1 : Int32)), .val (.ref a2), .val (.int (1 : Int32)), .val (.int (2 : Int32)), .val (.int (1 : Int32)), .val (.int p4)] []))
  refine Go.st (fun t k => XS.goto X2.here hx rfl (pc0 := 41) (pc' := 3) rfl (hb hby d25_41) (by decide) (by decide) k) ?_
  show Go p e below _ (T2.setTop (mkF m 3 #[.val (.ref a1), .val (.int (1 : Int32)), .val (.ref a2), .val (.int (1 : Int32)), .val (.int (2 : Int32)), .val (.int (1 : Int32)), .val (.int p4)] []))
  refine Go.st (fun t k => XS.iload X2.here hx rfl (hb hby d25_3) rfl k) ?_
  show Go p e below _ (T2.setTop (mkF m 5 #[.val (.ref a1), .val (.int (1 : Int32)), .val (.ref a2), .val (.int (1 : Int32)), .val (.int (2 : Int32)), .val (.int (1 : Int32)), .val (.int p4)] [(.int (1 : Int32))]))
  refine Go.st (fun t k => XS.iload X2.here hx rfl (hb hby d25_5) rfl k) ?_
  show Go p e below _ (T2.setTop (mkF m 7 #[.val (.ref a1), .val (.int (1 : Int32)), .val (.ref a2), .val (.int (1 : Int32)), .val (.int (2 : Int32)), .val (.int (1 : Int32)), .val (.int p4)] [(.int (2 : Int32)), (.int (1 : Int32))]))
  refine Go.st (fun t k => XS.icmpNo X2.here hx rfl (hb hby d25_7) rfl (Jvm.Free.XT.ii_ge_f (by decide : (1 : Int32) < (2 : Int32))) k) ?_
  show Go p e below _ (T2.setTop (mkF m 10 #[.val (.ref a1), .val (.int (1 : Int32)), .val (.ref a2), .val (.int (1 : Int32)), .val (.int (2 : Int32)), .val (.int (1 : Int32)), .val (.int p4)] []))
  refine Go.st (fun t k => XS.aloadN X2.here hx rfl (hb hby d25_10) rfl rfl k) ?_
  show Go p e below _ (T2.setTop (mkF m 11 #[.val (.ref a1), .val (.int (1 : Int32)), .val (.ref a2), .val (.int (1 : Int32)), .val (.int (2 : Int32)), .val (.int (1 : Int32)), .val (.int p4)] [(.ref a1)]))
  refine Go.st (fun t k => XS.iloadN X2.here hx rfl (hb hby d25_11) rfl k) ?_
  show Go p e below _ (T2.setTop (mkF m 12 #[.val (.ref a1), .val (.int (1 : Int32)), .val (.ref a2), .val (.int (1 : Int32)), .val (.int (2 : Int32)), .val (.int (1 : Int32)), .val (.int p4)] [(.int (1 : Int32)), (.ref a1)]))
  obtain ⟨cl3, Ar3, q3, S3, M3, H3, G3⟩ := id (P1.other W2 P5)
  have hin3 : ¬ ((1 : Int32) < 0 ∨ cl3.slots.size ≤ ((1 : Int32)).toNatClampNeg) := inb_of S3 ⟨by decide, by decide⟩
  have hat3 : cl3.slots[((1 : Int32)).toNatClampNeg]? = some (.int p5) := H3.at hin3 rfl
  refine Go.st (fun t k => X2.caload hx (j := (1 : Int32)) (v := (.int p5)) (by rw [e2]; exact Ar3.1) (State.isArrayOf_alike hZ.alike Ar3.2.1) Ar3.2.2 hin3 hat3 (g := (mkF m 12 #[.val (.ref a1), .val (.int (1 : Int32)), .val (.ref a2), .val (.int (1 : Int32)), .val (.int (2 : Int32)), .val (.int (1 : Int32)), .val (.int p4)] [(.int (1 : Int32)), (.ref a1)])) rfl rfl (hb hby d25_12) t k) ?_
  show Go p e below _ (T2.setTop (mkF m 13 #[.val (.ref a1), .val (.int (1 : Int32)), .val (.ref a2), .val (.int (1 : Int32)), .val (.int (2 : Int32)), .val (.int (1 : Int32)), .val (.int p4)] [(.int p5)]))
  refine Go.st (fun t k => XS.istore X2.here hx rfl (hb hby d25_13) rfl (l' := #[.val (.ref a1), .val (.int (1 : Int32)), .val (.ref a2), .val (.int (1 : Int32)), .val (.int (2 : Int32)), .val (.int (1 : Int32)), .val (.int p5)]) rfl k) ?_
  show Go p e below _ (T2.setTop (mkF m 15 #[.val (.ref a1), .val (.int (1 : Int32)), .val (.ref a2), .val (.int (1 : Int32)), .val (.int (2 : Int32)), .val (.int (1 : Int32)), .val (.int p5)] []))
  refine Go.st (fun t k => XS.iload X2.here hx rfl (hb hby d25_15) rfl k) ?_
  show Go p e below _ (T2.setTop (mkF m 17 #[.val (.ref a1), .val (.int (1 : Int32)), .val (.ref a2), .val (.int (1 : Int32)), .val (.int (2 : Int32)), .val (.int (1 : Int32)), .val (.int p5)] [(.int p5)]))
  refine Go.st (fun t k => XS.sipush X2.here hx rfl (hb hby d25_17) k) ?_
  show Go p e below _ (T2.setTop (mkF m 20 #[.val (.ref a1), .val (.int (1 : Int32)), .val (.ref a2), .val (.int (1 : Int32)), .val (.int (2 : Int32)), .val (.int (1 : Int32)), .val (.int p5)] [(.int (255 : Int32)), (.int p5)]))
  refine Go.st (fun t k => XS.icmpYes X2.here hx rfl (pc0 := 20) (pc' := 26) rfl (hb hby d25_20) rfl (Jvm.Free.XT.ii_le_t P6) (by decide) (by decide) k) ?_
  show Go p e below _ (T2.setTop (mkF m 26 #[.val (.ref a1), .val (.int (1 : Int32)), .val (.ref a2), .val (.int (1 : Int32)), .val (.int (2 : Int32)), .val (.int (1 : Int32)), .val (.int p5)] []))
  refine Go.st (fun t k => XS.aloadN X2.here hx rfl (hb hby d25_26) rfl rfl k) ?_
  show Go p e below _ (T2.setTop (mkF m 27 #[.val (.ref a1), .val (.int (1 : Int32)), .val (.ref a2), .val (.int (1 : Int32)), .val (.int (2 : Int32)), .val (.int (1 : Int32)), .val (.int p5)] [(.ref a2)]))
  refine Go.st (fun t k => XS.iloadN X2.here hx rfl (hb hby d25_27) rfl k) ?_
  show Go p e below _ (T2.setTop (mkF m 28 #[.val (.ref a1), .val (.int (1 : Int32)), .val (.ref a2), .val (.int (1 : Int32)), .val (.int (2 : Int32)), .val (.int (1 : Int32)), .val (.int p5)] [(.int (1 : Int32)), (.ref a2)]))
  refine Go.st (fun t k => XS.iload X2.here hx rfl (hb hby d25_28) rfl k) ?_
  show Go p e below _ (T2.setTop (mkF m 30 #[.val (.ref a1), .val (.int (1 : Int32)), .val (.ref a2), .val (.int (1 : Int32)), .val (.int (2 : Int32)), .val (.int (1 : Int32)), .val (.int p5)] [(.int p5), (.int (1 : Int32)), (.ref a2)]))
  refine Go.st (fun t k => XS.i2b X2.here hx rfl (hb hby d25_30) rfl k) ?_
  show Go p e below _ (T2.setTop (mkF m 31 #[.val (.ref a1), .val (.int (1 : Int32)), .val (.ref a2), .val (.int (1 : Int32)), .val (.int (2 : Int32)), .val (.int (1 : Int32)), .val (.int p5)] [(.int (p5.toInt8.toInt32)), (.int (1 : Int32)), (.ref a2)]))
  obtain ⟨cl4, Ar4, q4, S4, M4, H4, G4⟩ := id V2
  have hin4 : ¬ ((1 : Int32) < 0 ∨ cl4.slots.size ≤ ((1 : Int32)).toNatClampNeg) := inb_of S4 ⟨by decide, by decide⟩
  obtain ⟨T4, h4, X4, e4, W4, st4⟩ := stB X2 hx hZ e2 Ar4 (j := (1 : Int32)) hin4 (g := (mkF m 31 #[.val (.ref a1), .val (.int (1 : Int32)), .val (.ref a2), .val (.int (1 : Int32)), .val (.int (2 : Int32)), .val (.int (1 : Int32)), .val (.int p5)] [(.int (p5.toInt8.toInt32)), (.int (1 : Int32)), (.ref a2)])) rfl rfl (hb hby d25_31)
  have V4 : Arv Z h4 a2 kz6 .byte (2 : Int32) [(.int ((p4.toInt8.toInt32).toInt8.toInt32)), (.int ((p5.toInt8.toInt32).toInt8.toInt32))] (.int (0 : Int32)) := Arv.set Ar4 q4 S4 M4 H4 G4 (fits_nar_byte _) W4 1 rfl (Nat.le_of_ble_eq_true rfl)
  have N4 := Fr.snoc X4 N2 P4
  have O4 : Old Z n0 h4 := O2.wr W4 P4
  have K4 : Keep h0 h4 [a2] := K2.wr W4 (Or.inl (List.mem_of_getElem? (i := 0) rfl))
  refine Go.st st4 ?_
  show Go p e below _ (T4.setTop (mkF m 32 #[.val (.ref a1), .val (.int (1 : Int32)), .val (.ref a2), .val (.int (1 : Int32)), .val (.int (2 : Int32)), .val (.int (1 : Int32)), .val (.int p5)] []))
  refine Go.st (fun t k => XS.iinc X4.here hx rfl (hb hby d25_32) rfl (l' := #[.val (.ref a1), .val (.int (2 : Int32)), .val (.ref a2), .val (.int (1 : Int32)), .val (.int (2 : Int32)), .val (.int (1 : Int32)), .val (.int p5)]) rfl k) ?_
  show Go p e below _ (T4.setTop (mkF m 35 #[.val (.ref a1), .val (.int (2 : Int32)), .val (.ref a2), .val (.int (1 : Int32)), .val (.int (2 : Int32)), .val (.int (1 : Int32)), .val (.int p5)] []))
  refine Go.st (fun t k => XS.iinc X4.here hx rfl (hb hby d25_35) rfl (l' := #[.val (.ref a1), .val (.int (2 : Int32)), .val (.ref a2), .val (.int (2 : Int32)), .val (.int (2 : Int32)), .val (.int (1 : Int32)), .val (.int p5)]) rfl k) ?_
  show Go p e below _ (T4.setTop (mkF m 38 #[.val (.ref a1), .val (.int (2 : Int32)), .val (.ref a2), .val (.int (2 : Int32)), .val (.int (2 : Int32)), .val (.int (1 : Int32)), .val (.int p5)] []))
  refine Go.st (fun t k => XS.iinc X4.here hx rfl (hb hby d25_38) rfl (l' := #[.val (.ref a1), .val (.int (2 : Int32)), .val (.ref a2), .val (.int (2 : Int32)), .val (.int (2 : Int32)), .val (.int (2 : Int32)), .val (.int p5)]) rfl k) ?_
  show Go p e below _ (T4.setTop (mkF m 41 #[.val (.ref a1), .val (.int (2 : Int32)), .val (.ref a2), .val (.int (2 : Int32)), .val (.int (2 : Int32)), .val (.int (2 : Int32)), .val (.int p5)] []))
  refine Go.st (fun t k => XS.goto X4.here hx rfl (pc0 := 41) (pc' := 3) rfl (hb hby d25_41) (by decide) (by decide) k) ?_
  show Go p e below _ (T4.setTop (mkF m 3 #[.val (.ref a1), .val (.int (2 : Int32)), .val (.ref a2), .val (.int (2 : Int32)), .val (.int (2 : Int32)), .val (.int (2 : Int32)), .val (.int p5)] []))
  refine Go.st (fun t k => XS.iload X4.here hx rfl (hb hby d25_3) rfl k) ?_
  show Go p e below _ (T4.setTop (mkF m 5 #[.val (.ref a1), .val (.int (2 : Int32)), .val (.ref a2), .val (.int (2 : Int32)), .val (.int (2 : Int32)), .val (.int (2 : Int32)), .val (.int p5)] [(.int (2 : Int32))]))
  refine Go.st (fun t k => XS.iload X4.here hx rfl (hb hby d25_5) rfl k) ?_
  show Go p e below _ (T4.setTop (mkF m 7 #[.val (.ref a1), .val (.int (2 : Int32)), .val (.ref a2), .val (.int (2 : Int32)), .val (.int (2 : Int32)), .val (.int (2 : Int32)), .val (.int p5)] [(.int (2 : Int32)), (.int (2 : Int32))]))
  refine Go.st (fun t k => XS.icmpYes X4.here hx rfl (pc0 := 7) (pc' := 44) rfl (hb hby d25_7) rfl (Jvm.Free.XT.ii_ge_t (by decide : ¬ ((2 : Int32) < (2 : Int32)))) (by decide) (by decide) k) ?_
  show Go p e below _ (T4.setTop (mkF m 44 #[.val (.ref a1), .val (.int (2 : Int32)), .val (.ref a2), .val (.int (2 : Int32)), .val (.int (2 : Int32)), .val (.int (2 : Int32)), .val (.int p5)] []))
  refine Go.st (fun t k => XS.iload X4.here hx rfl (hb hby d25_44) rfl k) ?_
  show Go p e below _ (T4.setTop (mkF m 46 #[.val (.ref a1), .val (.int (2 : Int32)), .val (.ref a2), .val (.int (2 : Int32)), .val (.int (2 : Int32)), .val (.int (2 : Int32)), .val (.int p5)] [(.int (2 : Int32))]))
  obtain ⟨fs, hr, hrun, hended, hWd, hsame⟩ := X4.leave (v := some (.int (2 : Int32))) (fun h => by rw [Bd.returns] at h; cases h)
  refine ⟨_, _, ?_, hrun, hended, _, _, rfl, ?_, ⟨⟨_, rfl⟩, hWd, hsame.mono (by decide) (by decide)⟩⟩
  · exact retI X4 hx Bd.returns (hb hby d25_46) hr
  · show Q_rm25_1 Z a1 a2 kz3 p4 p5 kz6 h0 n0 _ T4.heap _
    rw [e4]
    exact ⟨rfl, N4, K4, V4⟩
def Q_rm24_1 (Z : State) (a1 : Addr) (kz2 : ClassId) (p3 : Int32) (p4 : Int32) (h0 : Heap) (n0 : Nat) (v : Option Value) (h : Heap) (L : List Loc) : Prop := ∃ (b1 : Addr) (k1 : ClassId), v = some (.ref b1) ∧ Fr n0 L ∧ Keep h0 h [] ∧ h0.size ≤ b1 ∧ Arv Z h b1 k1 .byte (2 : Int32) [(.int ((p3.toInt8.toInt32).toInt8.toInt32)), (.int ((p4.toInt8.toInt32).toInt8.toInt32))] (.int (0 : Int32))
set_option maxRecDepth 65536 in
set_option maxHeartbeats 40000000 in
theorem rm24_1 (l : Launch) (Z : State) (a0 : Array Value) (hw : ∀ d ∈ tables_1, d.before a0 Z = true) (ws : List Jvm.Cond) (a1 : Addr) (kz2 : ClassId) (p3 : Int32) (p4 : Int32) (h0 : Heap) (n0 : Nat) (O0 : Old Z n0 h0) (P1 : Arv Z h0 a1 kz2 .char (2 : Int32) [(.int p3), (.int p4)] (.int (0 : Int32))) (P2 : ¬ ((255 : Int32) < p3)) (P3 : ¬ ((255 : Int32) < p4)) :
    MetFree l (⟨"java/lang/StringUTF16", "compress", "([CII)[B"⟩ : MethodName) (head1 (Jvm.Cond.code (⟨"java/lang/StringUTF16", "compress", "([CII)[B"⟩ : MethodName) jdk_52_method_16_code 6 (some (.array .byte)) :: ws) ({ frames := 1, cells := 1, slots := 2, locals := 18 } : Room)) (fun a U => a = #[(.ref a1), (.int (0 : Int32)), (.int (2 : Int32))] ∧ Z.Warmed39 U.vm ∧ U.heap = h0) (fun _ _ _ _ _ => True) (fun _ U o U' => ∃ v L, o = .returned v ∧ Q_rm24_1 Z a1 kz2 p3 p4 h0 n0 v U'.heap L ∧ FrameEnd U o U' L ({ frames := 1, cells := 1, slots := 2, locals := 18 } : Room).cells ({ frames := 1, cells := 1, slots := 2, locals := 18 } : Room).slots) := by
  refine MetFree.of_bodySF (plainFor_of_name pn_2) hisR ?_
  intro p e s m args below meth c s₁ Bd hml0 hP hK
  obtain ⟨rfl, hZ, hh⟩ := hP
  have hx := Bd.exec
  have hby := Bd.bytes
  have hml : c.maxLocals = 6 := hml0
  have hown : s.vm.findClass "java/lang/StringUTF16" = some m.cls := findClass_of_methodNamed Bd.named
  have hnm := (name_of_methodNamed Bd.named Bd.method).1
  have X0 : Stand p l e ({ frames := 1, cells := 1, slots := 2, locals := 18 } : Room) s m #[(.ref a1), (.int (0 : Int32)), (.int (2 : Int32))] below meth c s₁ [] 0 0 := Stand.of_body Bd
  have e0 : s₁.heap = h0 := by rw [← hh, Bd.state]; rfl
  have N0 := Fr.nil n0
  refine Go.start (P := (fun o U' => ∃ v L, o = .returned v ∧ Q_rm24_1 Z a1 kz2 p3 p4 h0 n0 v U'.heap L ∧ FrameEnd s o U' L ({ frames := 1, cells := 1, slots := 2, locals := 18 } : Room).cells ({ frames := 1, cells := 1, slots := 2, locals := 18 } : Room).slots)) (castTop (g' := (mkF m 0 #[.val (.ref a1), .val (.int (0 : Int32)), .val (.int (2 : Int32)), .unset, .unset, .unset] [])) (by first | rfl | simp [entryFrame, mkF, argsToLocals, Value.category]) (T := s₁)) ?_
  refine Go.st (fun t k => XS.iloadN X0.here hx rfl (hb hby d24_0) rfl k) ?_
  show Go p e below _ (s₁.setTop (mkF m 1 #[.val (.ref a1), .val (.int (0 : Int32)), .val (.int (2 : Int32)), .unset, .unset, .unset] [(.int (2 : Int32))]))
  obtain ⟨T1, h1, k1, X1, e1, E1, A1, st1⟩ := newP X0 hx hZ (aty := .byte) (w19 hw) e0 (g := (mkF m 1 #[.val (.ref a1), .val (.int (0 : Int32)), .val (.int (2 : Int32)), .unset, .unset, .unset] [(.int (2 : Int32))])) rfl (hb hby d24_1) rfl (by decide) (cap := 2) (by decide) (by decide) (by decide) (by decide)
  obtain ⟨b1, z1⟩ : ∃ z, z = h0.size := ⟨_, rfl⟩
  rw [← z1] at A1 st1
  have g_b1 : n0 ≤ b1 := Nat.le_trans (own_n0 O0) (Nat.le_of_eq z1.symm)
  have s_b1 : h0.size ≤ b1 := Nat.le_trans (Keep.refl h0 []).1 (Nat.le_of_eq z1.symm)
  have V1 : Arv Z h1 b1 k1 .byte (2 : Int32) [(.int (0 : Int32)), (.int (0 : Int32))] (.int (0 : Int32)) := (Arv.new A1 (by decide)).pad (pad_rep [] (.int (0 : Int32)) 2)
  have O1 : Old Z n0 h1 := O0.ext E1
  have K1 : Keep h0 h1 [] := (Keep.refl h0 []).ext E1
  refine Go.st st1 ?_
  show Go p e below _ (T1.setTop (mkF m 3 #[.val (.ref a1), .val (.int (0 : Int32)), .val (.int (2 : Int32)), .unset, .unset, .unset] [(.ref b1)]))
  refine Go.st (fun t k => XS.astoreN X1.here hx rfl (hb hby d24_3) rfl rfl (l' := #[.val (.ref a1), .val (.int (0 : Int32)), .val (.int (2 : Int32)), .val (.ref b1), .unset, .unset]) rfl k) ?_
  show Go p e below _ (T1.setTop (mkF m 4 #[.val (.ref a1), .val (.int (0 : Int32)), .val (.int (2 : Int32)), .val (.ref b1), .unset, .unset] []))
  refine Go.st (fun t k => XS.aloadN X1.here hx rfl (hb hby d24_4) rfl rfl k) ?_
  show Go p e below _ (T1.setTop (mkF m 5 #[.val (.ref a1), .val (.int (0 : Int32)), .val (.int (2 : Int32)), .val (.ref b1), .unset, .unset] [(.ref a1)]))
  refine Go.st (fun t k => XS.iloadN X1.here hx rfl (hb hby d24_5) rfl k) ?_
  show Go p e below _ (T1.setTop (mkF m 6 #[.val (.ref a1), .val (.int (0 : Int32)), .val (.int (2 : Int32)), .val (.ref b1), .unset, .unset] [(.int (0 : Int32)), (.ref a1)]))
  refine Go.st (fun t k => XS.aloadN X1.here hx rfl (hb hby d24_6) rfl rfl k) ?_
  show Go p e below _ (T1.setTop (mkF m 7 #[.val (.ref a1), .val (.int (0 : Int32)), .val (.int (2 : Int32)), .val (.ref b1), .unset, .unset] [(.ref b1), (.int (0 : Int32)), (.ref a1)]))
  refine Go.st (fun t k => XS.iconst X1.here hx rfl (hb hby d24_7) k) ?_
  show Go p e below _ (T1.setTop (mkF m 8 #[.val (.ref a1), .val (.int (0 : Int32)), .val (.int (2 : Int32)), .val (.ref b1), .unset, .unset] [(.int (0 : Int32)), (.ref b1), (.int (0 : Int32)), (.ref a1)]))
  refine Go.st (fun t k => XS.iloadN X1.here hx rfl (hb hby d24_8) rfl k) ?_
  show Go p e below _ (T1.setTop (mkF m 9 #[.val (.ref a1), .val (.int (0 : Int32)), .val (.int (2 : Int32)), .val (.ref b1), .unset, .unset] [(.int (2 : Int32)), (.int (0 : Int32)), (.ref b1), (.int (0 : Int32)), (.ref a1)]))
  obtain ⟨_, _, ⟨T2, L2, k2, n2⟩, -, X2, ⟨Lc2, hQ2, l2, y2, z2⟩, st2⟩ := Jvm.LawKit.callS X1 hx (y := (⟨"java/lang/StringUTF16", "compress", "([CI[BII)I"⟩ : MethodName)) hown (mvT hZ (w169 hw)) (mvT hZ (w170 hw)) (mvT hZ (w167 hw)) (mvT hZ (w171 hw)) (by decide) (backOf (W := 0) (rm25_1 l Z a0 hw [] a1 b1 kz2 p3 p4 k1 h1 n0 O1 (P1.ext E1) P2 V1 g_b1 (Nat.ne_of_lt (Nat.lt_of_lt_of_le P1.lt (Nat.le_of_eq z1.symm))) P3) hZ (w171 hw) (w167 hw) (by decide) (by decide)) (g := (mkF m 9 #[.val (.ref a1), .val (.int (0 : Int32)), .val (.int (2 : Int32)), .val (.ref b1), .unset, .unset] [(.int (2 : Int32)), (.int (0 : Int32)), (.ref b1), (.int (0 : Int32)), (.ref a1)])) rfl (by rw [hml]; rfl) (argsL := [(.ref a1), (.int (0 : Int32)), (.ref b1), (.int (0 : Int32)), (.int (2 : Int32))]) (rest := []) (lenOf pd_6 rfl) rfl (by show 2 * 0 + _ ≤ _; exact Nat.le_of_eq rfl) (hb hby d24_9) (fun vm₁ hw₁ => ⟨rfl, e1, (by decide : 1 + 0 ≤ _), (by decide : 2 + 0 ≤ _)⟩)
  dsimp only [Pt.U, Pt.locs, Pt.cells, Pt.slots] at X2 l2 y2 z2 st2 hQ2
  subst l2 y2 z2
  obtain ⟨rfl, M2, K2c, r2_0⟩ := hQ2
  have N2 := Fr.app N0 M2
  have O2 : Old Z n0 T2.heap := O1.keep K2c (allS g_b1 all0)
  have K2 : Keep h0 T2.heap [] := K1.trans K2c (allS (Or.inr s_b1) all0)
  refine Go.st st2 ?_
  show Go p e below _ (T2.setTop (mkF m 12 #[.val (.ref a1), .val (.int (0 : Int32)), .val (.int (2 : Int32)), .val (.ref b1), .unset, .unset] [(.int (2 : Int32))]))
  refine Go.st (fun t k => XS.istore X2.here hx rfl (hb hby d24_12) rfl (l' := #[.val (.ref a1), .val (.int (0 : Int32)), .val (.int (2 : Int32)), .val (.ref b1), .val (.int (2 : Int32)), .unset]) rfl k) ?_
  show Go p e below _ (T2.setTop (mkF m 14 #[.val (.ref a1), .val (.int (0 : Int32)), .val (.int (2 : Int32)), .val (.ref b1), .val (.int (2 : Int32)), .unset] []))
  refine Go.st (fun t k => XS.iload X2.here hx rfl (hb hby d24_14) rfl k) ?_
  show Go p e below _ (T2.setTop (mkF m 16 #[.val (.ref a1), .val (.int (0 : Int32)), .val (.int (2 : Int32)), .val (.ref b1), .val (.int (2 : Int32)), .unset] [(.int (2 : Int32))]))
  refine Go.st (fun t k => XS.iloadN X2.here hx rfl (hb hby d24_16) rfl k) ?_
  show Go p e below _ (T2.setTop (mkF m 17 #[.val (.ref a1), .val (.int (0 : Int32)), .val (.int (2 : Int32)), .val (.ref b1), .val (.int (2 : Int32)), .unset] [(.int (2 : Int32)), (.int (2 : Int32))]))
  refine Go.st (fun t k => XS.icmpYes X2.here hx rfl (pc0 := 17) (pc' := 57) rfl (hb hby d24_17) rfl (Jvm.Free.XT.ii_eq_t (by decide : (2 : Int32) = (2 : Int32))) (by decide) (by decide) k) ?_
  show Go p e below _ (T2.setTop (mkF m 57 #[.val (.ref a1), .val (.int (0 : Int32)), .val (.int (2 : Int32)), .val (.ref b1), .val (.int (2 : Int32)), .unset] []))
  refine Go.st (fun t k => XS.aloadN X2.here hx rfl (hb hby d24_57) rfl rfl k) ?_
  show Go p e below _ (T2.setTop (mkF m 58 #[.val (.ref a1), .val (.int (0 : Int32)), .val (.int (2 : Int32)), .val (.ref b1), .val (.int (2 : Int32)), .unset] [(.ref b1)]))
  obtain ⟨fs, hr, hrun, hended, hWd, hsame⟩ := X2.leave (v := some (.ref b1)) (fun h => by rw [Bd.returns] at h; cases h)
  refine ⟨_, _, ?_, hrun, hended, _, _, rfl, ?_, ⟨⟨_, rfl⟩, hWd, hsame.mono (by decide) (by decide)⟩⟩
  · exact own_retA X2 hx Bd.returns rfl rfl (hb hby d24_58) hr
  · show Q_rm24_1 Z a1 kz2 p3 p4 h0 n0 _ T2.heap _
    exact ⟨b1, k1, rfl, N2, K2, s_b1, r2_0⟩
def Q_rm26_1 (Z : State) (a1 : Addr) (kz2 : ClassId) (p3 : Int32) (p4 : Int32) (h0 : Heap) (n0 : Nat) (v : Option Value) (h : Heap) (L : List Loc) : Prop := v = some (.int (0 : Int32)) ∧ Fr n0 L ∧ h = h0
set_option maxRecDepth 65536 in
set_option maxHeartbeats 40000000 in
theorem rm26_1 (l : Launch) (Z : State) (a0 : Array Value) (hw : ∀ d ∈ tables_1, d.before a0 Z = true) (ws : List Jvm.Cond) (a1 : Addr) (kz2 : ClassId) (p3 : Int32) (p4 : Int32) (h0 : Heap) (n0 : Nat) (O0 : Old Z n0 h0) (P1 : Arv Z h0 a1 kz2 .byte (2 : Int32) [(.int p3), (.int p4)] (.int (0 : Int32))) :
    MetFree l (⟨"java/lang/StringUTF16", "coderFromArrayLen", "([BI)B"⟩ : MethodName) (head1 (Jvm.Cond.code (⟨"java/lang/StringUTF16", "coderFromArrayLen", "([BI)B"⟩ : MethodName) jdk_52_method_15_code 2 (some .byte) :: ws) ({ frames := 0, cells := 0, slots := 0, locals := 0 } : Room)) (fun a U => a = #[(.ref a1), (.int (2 : Int32))] ∧ Z.Warmed39 U.vm ∧ U.heap = h0) (fun _ _ _ _ _ => True) (fun _ U o U' => ∃ v L, o = .returned v ∧ Q_rm26_1 Z a1 kz2 p3 p4 h0 n0 v U'.heap L ∧ FrameEnd U o U' L ({ frames := 0, cells := 0, slots := 0, locals := 0 } : Room).cells ({ frames := 0, cells := 0, slots := 0, locals := 0 } : Room).slots) := by
  refine MetFree.of_bodySF (plainFor_of_name pn_2) hisR ?_
  intro p e s m args below meth c s₁ Bd hml0 hP hK
  obtain ⟨rfl, hZ, hh⟩ := hP
  have hx := Bd.exec
  have hby := Bd.bytes
  have hml : c.maxLocals = 2 := hml0
  have hown : s.vm.findClass "java/lang/StringUTF16" = some m.cls := findClass_of_methodNamed Bd.named
  have hnm := (name_of_methodNamed Bd.named Bd.method).1
  have X0 : Stand p l e ({ frames := 0, cells := 0, slots := 0, locals := 0 } : Room) s m #[(.ref a1), (.int (2 : Int32))] below meth c s₁ [] 0 0 := Stand.of_body Bd
  have e0 : s₁.heap = h0 := by rw [← hh, Bd.state]; rfl
  have N0 := Fr.nil n0
  refine Go.start (P := (fun o U' => ∃ v L, o = .returned v ∧ Q_rm26_1 Z a1 kz2 p3 p4 h0 n0 v U'.heap L ∧ FrameEnd s o U' L ({ frames := 0, cells := 0, slots := 0, locals := 0 } : Room).cells ({ frames := 0, cells := 0, slots := 0, locals := 0 } : Room).slots)) (castTop (g' := (mkF m 0 #[.val (.ref a1), .val (.int (2 : Int32))] [])) (by first | rfl | simp [entryFrame, mkF, argsToLocals, Value.category]) (T := s₁)) ?_
  refine Go.st (fun t k => XS.iloadN X0.here hx rfl (hb hby d26_0) rfl k) ?_
  show Go p e below _ (s₁.setTop (mkF m 1 #[.val (.ref a1), .val (.int (2 : Int32))] [(.int (2 : Int32))]))
  refine Go.st (fun t k => XS.aloadN X0.here hx rfl (hb hby d26_1) rfl rfl k) ?_
  show Go p e below _ (s₁.setTop (mkF m 2 #[.val (.ref a1), .val (.int (2 : Int32))] [(.ref a1), (.int (2 : Int32))]))
  obtain ⟨cl1, Ar1, -, S1, M1, -, -⟩ := id P1
  refine Go.st (fun t k => X0.arraylength hx (by rw [e0]; exact Ar1.1) (State.isArrayOf_alike hZ.alike Ar1.2.1) (g := (mkF m 2 #[.val (.ref a1), .val (.int (2 : Int32))] [(.ref a1), (.int (2 : Int32))])) rfl rfl (hb hby d26_2) t k) ?_
  rw [len_of S1 M1]
  show Go p e below _ (s₁.setTop (mkF m 3 #[.val (.ref a1), .val (.int (2 : Int32))] [(.int (2 : Int32)), (.int (2 : Int32))]))
  refine Go.st (fun t k => XS.isub X0.here hx rfl (hb hby d26_3) rfl k) ?_
  show Go p e below _ (s₁.setTop (mkF m 4 #[.val (.ref a1), .val (.int (2 : Int32))] [(.int (0 : Int32))]))
  refine Go.st (fun t k => XS.bipush X0.here hx rfl (hb hby d26_4) k) ?_
  show Go p e below _ (s₁.setTop (mkF m 6 #[.val (.ref a1), .val (.int (2 : Int32))] [(.int (31 : Int32)), (.int (0 : Int32))]))
  refine Go.st (fun t k => XS.iushr X0.here hx rfl (hb hby d26_6) rfl k) ?_
  show Go p e below _ (s₁.setTop (mkF m 7 #[.val (.ref a1), .val (.int (2 : Int32))] [(.int (0 : Int32))]))
  refine Go.st (fun t k => XS.i2b X0.here hx rfl (hb hby d26_7) rfl k) ?_
  show Go p e below _ (s₁.setTop (mkF m 8 #[.val (.ref a1), .val (.int (2 : Int32))] [(.int (0 : Int32))]))
  obtain ⟨fs, hr, hrun, hended, hWd, hsame⟩ := X0.leave (v := some (.int (0 : Int32))) (fun h => by rw [Bd.returns] at h; cases h)
  refine ⟨_, _, ?_, hrun, hended, _, _, rfl, ?_, ⟨⟨_, rfl⟩, hWd, hsame.mono (by decide) (by decide)⟩⟩
  · exact retN X0 hx (t := .byte) Bd.returns (by simp) (hb hby d26_8) hr
  · show Q_rm26_1 Z a1 kz2 p3 p4 h0 n0 _ s₁.heap _
    rw [e0]
    exact ⟨rfl, N0, rfl⟩
def Q_rm3_3 (Z : State) (a1 : Addr) (a2 : Addr) (p3 : Int32) (kz4 : ClassId) (p5 : Int32) (p6 : Int32) (h0 : Heap) (n0 : Nat) (v : Option Value) (h : Heap) (L : List Loc) : Prop := ∃ (b1_3 : Addr) (k1_3 : ClassId), v = none ∧ Fr n0 L ∧ Keep h0 h [a1] ∧ h0.size ≤ b1_3 ∧ Fld Z h a1 "java/lang/String" "coder" "B" (.int (0 : Int32)) ∧ Fld Z h a1 "java/lang/String" "value" "[B" (.ref b1_3) ∧ Arv Z h b1_3 k1_3 .byte (2 : Int32) [(.int ((p5.toInt8.toInt32).toInt8.toInt32)), (.int ((p6.toInt8.toInt32).toInt8.toInt32))] (.int (0 : Int32))
set_option maxRecDepth 65536 in
set_option maxHeartbeats 40000000 in
theorem rm3_3 (l : Launch) (Z : State) (a0 : Array Value) (hw : ∀ d ∈ tables_1, d.before a0 Z = true) (ws : List Jvm.Cond) (a1 : Addr) (a2 : Addr) (p3 : Int32) (kz4 : ClassId) (p5 : Int32) (p6 : Int32) (h0 : Heap) (n0 : Nat) (O0 : Old Z n0 h0) (P1 : Sta Z Z.heap "java/lang/String" "COMPACT_STRINGS" "Z" (.int p3)) (P2 : ¬ (p3 = (0 : Int32))) (P3 : Arv Z h0 a2 kz4 .char (2 : Int32) [(.int p5), (.int p6)] (.int (0 : Int32))) (P4 : ¬ ((255 : Int32) < p5)) (P5 : ¬ ((255 : Int32) < p6)) (P6 : Exa Z h0 a1 "java/lang/String") (P7 : Fld Z h0 a1 "java/lang/String" "coder" "B" (.int (0 : Int32))) (P8 : n0 ≤ a1) (P9 : Fld Z h0 a1 "java/lang/String" "value" "[B" .null) :
    MetFree l (⟨"java/lang/String", "<init>", "([CIILjava/lang/Void;)V"⟩ : MethodName) (head1 (Jvm.Cond.code (⟨"java/lang/String", "<init>", "([CIILjava/lang/Void;)V"⟩ : MethodName) jdk_42_method_149_code 6 none :: ws) ({ frames := 2, cells := 1, slots := 2, locals := 35 } : Room)) (fun a U => a = #[(.ref a1), (.ref a2), (.int (0 : Int32)), (.int (2 : Int32)), .null] ∧ Z.Warmed39 U.vm ∧ U.heap = h0) (fun _ _ _ _ _ => True) (fun _ U o U' => ∃ v L, o = .returned v ∧ Q_rm3_3 Z a1 a2 p3 kz4 p5 p6 h0 n0 v U'.heap L ∧ FrameEnd U o U' L ({ frames := 2, cells := 1, slots := 2, locals := 35 } : Room).cells ({ frames := 2, cells := 1, slots := 2, locals := 35 } : Room).slots) := by
  refine MetFree.of_bodySF (plainFor_of_name pn_0) hisR ?_
  intro p e s m args below meth c s₁ Bd hml0 hP hK
  obtain ⟨rfl, hZ, hh⟩ := hP
  have hx := Bd.exec
  have hby := Bd.bytes
  have hml : c.maxLocals = 6 := hml0
  have hown : s.vm.findClass "java/lang/String" = some m.cls := findClass_of_methodNamed Bd.named
  have hnm := (name_of_methodNamed Bd.named Bd.method).1
  have X0 : Stand p l e ({ frames := 2, cells := 1, slots := 2, locals := 35 } : Room) s m #[(.ref a1), (.ref a2), (.int (0 : Int32)), (.int (2 : Int32)), .null] below meth c s₁ [] 0 0 := Stand.of_body Bd
  have e0 : s₁.heap = h0 := by rw [← hh, Bd.state]; rfl
  have N0 := Fr.nil n0
  refine Go.start (P := (fun o U' => ∃ v L, o = .returned v ∧ Q_rm3_3 Z a1 a2 p3 kz4 p5 p6 h0 n0 v U'.heap L ∧ FrameEnd s o U' L ({ frames := 2, cells := 1, slots := 2, locals := 35 } : Room).cells ({ frames := 2, cells := 1, slots := 2, locals := 35 } : Room).slots)) (castTop (g' := (mkF m 0 #[.val (.ref a1), .val (.ref a2), .val (.int (0 : Int32)), .val (.int (2 : Int32)), .val .null, .unset] [])) (by first | rfl | simp [entryFrame, mkF, argsToLocals, Value.category]) (T := s₁)) ?_
  refine Go.st (fun t k => XS.aloadN X0.here hx rfl (hb hby d3_0) rfl rfl k) ?_
  show Go p e below _ (s₁.setTop (mkF m 1 #[.val (.ref a1), .val (.ref a2), .val (.int (0 : Int32)), .val (.int (2 : Int32)), .val .null, .unset] [(.ref a1)]))
  obtain ⟨T1, X1, e1, st1⟩ := initO X0 hx hZ hown (w15 hw) (w16 hw) (w17 hw) e0 (g := (mkF m 1 #[.val (.ref a1), .val (.ref a2), .val (.int (0 : Int32)), .val (.int (2 : Int32)), .val .null, .unset] [(.ref a1)])) rfl (by rw [hml]; rfl) rfl (hb hby d3_1) (by decide) (W := 0) (by show 2 * 0 + _ ≤ _; exact Nat.le_of_eq rfl) (by decide)
  refine Go.st st1 ?_
  show Go p e below _ (T1.setTop (mkF m 4 #[.val (.ref a1), .val (.ref a2), .val (.int (0 : Int32)), .val (.int (2 : Int32)), .val .null, .unset] []))
  refine Go.st (fun t k => XS.iloadN X1.here hx rfl (hb hby d3_4) rfl k) ?_
  show Go p e below _ (T1.setTop (mkF m 5 #[.val (.ref a1), .val (.ref a2), .val (.int (0 : Int32)), .val (.int (2 : Int32)), .val .null, .unset] [(.int (2 : Int32))]))
  refine Go.st (fun t k => XS.ifYes X1.here hx rfl (pc0 := 5) (pc' := 27) rfl (hb hby d3_5) rfl (Jvm.Free.XT.i0_ne_t (by decide : ¬ ((2 : Int32) = (0 : Int32)))) (by decide) (by decide) k) ?_
  show Go p e below _ (T1.setTop (mkF m 27 #[.val (.ref a1), .val (.ref a2), .val (.int (0 : Int32)), .val (.int (2 : Int32)), .val .null, .unset] []))
  obtain ⟨T2, X2, e2, st2⟩ := getS2 X1 hx hZ hown (host := "") (Or.inl (w164 hw)) Via.refl e1 (P1.ext O0.2) (g := (mkF m 27 #[.val (.ref a1), .val (.ref a2), .val (.int (0 : Int32)), .val (.int (2 : Int32)), .val .null, .unset] [])) rfl (hb hby d3_27)
  refine Go.st st2 ?_
  show Go p e below _ (T2.setTop (mkF m 30 #[.val (.ref a1), .val (.ref a2), .val (.int (0 : Int32)), .val (.int (2 : Int32)), .val .null, .unset] [(.int p3)]))
  refine Go.st (fun t k => XS.ifNo X2.here hx rfl (hb hby d3_30) rfl (Jvm.Free.XT.i0_eq_f P2) k) ?_
  show Go p e below _ (T2.setTop (mkF m 33 #[.val (.ref a1), .val (.ref a2), .val (.int (0 : Int32)), .val (.int (2 : Int32)), .val .null, .unset] []))
  refine Go.st (fun t k => XS.aloadN X2.here hx rfl (hb hby d3_33) rfl rfl k) ?_
  show Go p e below _ (T2.setTop (mkF m 34 #[.val (.ref a1), .val (.ref a2), .val (.int (0 : Int32)), .val (.int (2 : Int32)), .val .null, .unset] [(.ref a2)]))
  refine Go.st (fun t k => XS.iloadN X2.here hx rfl (hb hby d3_34) rfl k) ?_
  show Go p e below _ (T2.setTop (mkF m 35 #[.val (.ref a1), .val (.ref a2), .val (.int (0 : Int32)), .val (.int (2 : Int32)), .val .null, .unset] [(.int (0 : Int32)), (.ref a2)]))
  refine Go.st (fun t k => XS.iloadN X2.here hx rfl (hb hby d3_35) rfl k) ?_
  show Go p e below _ (T2.setTop (mkF m 36 #[.val (.ref a1), .val (.ref a2), .val (.int (0 : Int32)), .val (.int (2 : Int32)), .val .null, .unset] [(.int (2 : Int32)), (.int (0 : Int32)), (.ref a2)]))
  obtain ⟨_, _, ⟨T3, L3, k3, n3⟩, -, X3, ⟨Lc3, hQ3, l3, y3, z3⟩, st3⟩ := Jvm.LawKit.callS X2 hx (y := (⟨"java/lang/StringUTF16", "compress", "([CII)[B"⟩ : MethodName)) hown (mvT hZ (w165 hw)) (mvT hZ (w166 hw)) (mvT hZ (w167 hw)) (mvT hZ (w168 hw)) (by decide) (backOf (W := 0) (rm24_1 l Z a0 hw [] a2 kz4 p5 p6 h0 n0 O0 P3 P4 P5) hZ (w168 hw) (w167 hw) (by decide) (by decide)) (g := (mkF m 36 #[.val (.ref a1), .val (.ref a2), .val (.int (0 : Int32)), .val (.int (2 : Int32)), .val .null, .unset] [(.int (2 : Int32)), (.int (0 : Int32)), (.ref a2)])) rfl (by rw [hml]; rfl) (argsL := [(.ref a2), (.int (0 : Int32)), (.int (2 : Int32))]) (rest := []) (lenOf pd_7 rfl) rfl (by show 2 * 0 + _ ≤ _; exact Nat.le_of_eq rfl) (hb hby d3_36) (fun vm₁ hw₁ => ⟨rfl, e2, (by decide : 0 + 1 ≤ _), (by decide : 0 + 2 ≤ _)⟩)
  dsimp only [Pt.U, Pt.locs, Pt.cells, Pt.slots] at X3 l3 y3 z3 st3 hQ3
  subst l3 y3 z3
  obtain ⟨b1_3, k1_3, rfl, M3, K3c, r3_0, r3_1⟩ := hQ3
  have N3 := Fr.app N0 M3
  have g_b1_3 : n0 ≤ b1_3 := Nat.le_trans (own_n0 O0) r3_0
  have s_b1_3 : h0.size ≤ b1_3 := Nat.le_trans (Keep.refl h0 [a1]).1 r3_0
  have O3 : Old Z n0 T3.heap := O0.keep K3c all0
  have K3 : Keep h0 T3.heap [a1] := (Keep.refl h0 [a1]).trans K3c all0
  refine Go.st st3 ?_
  show Go p e below _ (T3.setTop (mkF m 39 #[.val (.ref a1), .val (.ref a2), .val (.int (0 : Int32)), .val (.int (2 : Int32)), .val .null, .unset] [(.ref b1_3)]))
  refine Go.st (fun t k => XS.astore X3.here hx rfl (hb hby d3_39) rfl rfl (l' := #[.val (.ref a1), .val (.ref a2), .val (.int (0 : Int32)), .val (.int (2 : Int32)), .val .null, .val (.ref b1_3)]) rfl k) ?_
  show Go p e below _ (T3.setTop (mkF m 41 #[.val (.ref a1), .val (.ref a2), .val (.int (0 : Int32)), .val (.int (2 : Int32)), .val .null, .val (.ref b1_3)] []))
  refine Go.st (fun t k => XS.aloadN X3.here hx rfl (hb hby d3_41) rfl rfl k) ?_
  show Go p e below _ (T3.setTop (mkF m 42 #[.val (.ref a1), .val (.ref a2), .val (.int (0 : Int32)), .val (.int (2 : Int32)), .val .null, .val (.ref b1_3)] [(.ref a1)]))
  refine Go.st (fun t k => XS.aload X3.here hx rfl (hb hby d3_42) rfl rfl k) ?_
  show Go p e below _ (T3.setTop (mkF m 44 #[.val (.ref a1), .val (.ref a2), .val (.int (0 : Int32)), .val (.int (2 : Int32)), .val .null, .val (.ref b1_3)] [(.ref b1_3), (.ref a1)]))
  refine Go.st (fun t k => XS.iloadN X3.here hx rfl (hb hby d3_44) rfl k) ?_
  show Go p e below _ (T3.setTop (mkF m 45 #[.val (.ref a1), .val (.ref a2), .val (.int (0 : Int32)), .val (.int (2 : Int32)), .val .null, .val (.ref b1_3)] [(.int (2 : Int32)), (.ref b1_3), (.ref a1)]))
  obtain ⟨_, _, ⟨T4, L4, k4, n4⟩, -, X4, ⟨Lc4, hQ4, l4, y4, z4⟩, st4⟩ := Jvm.LawKit.callS X3 hx (y := (⟨"java/lang/StringUTF16", "coderFromArrayLen", "([BI)B"⟩ : MethodName)) hown (mvT hZ (w172 hw)) (mvT hZ (w173 hw)) (mvT hZ (w167 hw)) (mvT hZ (w174 hw)) (by decide) (backOf (W := 1) (rm26_1 l Z a0 hw [] b1_3 k1_3 ((p5.toInt8.toInt32).toInt8.toInt32) ((p6.toInt8.toInt32).toInt8.toInt32) T3.heap n0 O3 r3_1) hZ (w174 hw) (w167 hw) (by decide) (by decide)) (g := (mkF m 45 #[.val (.ref a1), .val (.ref a2), .val (.int (0 : Int32)), .val (.int (2 : Int32)), .val .null, .val (.ref b1_3)] [(.int (2 : Int32)), (.ref b1_3), (.ref a1)])) rfl (by rw [hml]; rfl) (argsL := [(.ref b1_3), (.int (2 : Int32))]) (rest := [(.ref a1)]) (lenOf pd_8 rfl) rfl (by show 2 * 0 + _ ≤ _; exact Nat.le_of_eq rfl) (hb hby d3_45) (fun vm₁ hw₁ => ⟨rfl, rfl, (by decide : 1 + 0 ≤ _), (by decide : 2 + 0 ≤ _)⟩)
  dsimp only [Pt.U, Pt.locs, Pt.cells, Pt.slots] at X4 l4 y4 z4 st4 hQ4
  subst l4 y4 z4
  obtain ⟨rfl, M4, eh4⟩ := hQ4
  have N4 := Fr.app N3 M4
  refine Go.st st4 ?_
  show Go p e below _ (T4.setTop (mkF m 48 #[.val (.ref a1), .val (.ref a2), .val (.int (0 : Int32)), .val (.int (2 : Int32)), .val .null, .val (.ref b1_3)] [(.int (0 : Int32)), (.ref a1)]))
  obtain ⟨T5, h5, X5, e5, W5, st5⟩ := putFN X4 hx hZ hown (w25 hw) Via.refl eh4 (P7.keep K3c nin0) (P6.keep K3c) (Or.inr ⟨(w21 hw), rfl, hnm⟩) (w5 hw) (ty := .byte) (v' := (.int (0 : Int32))) (by decide) rfl (by decide) (g := (mkF m 48 #[.val (.ref a1), .val (.ref a2), .val (.int (0 : Int32)), .val (.int (2 : Int32)), .val .null, .val (.ref b1_3)] [(.int (0 : Int32)), (.ref a1)])) rfl rfl (hb hby d3_48)
  have F5 : Fld Z h5 a1 "java/lang/String" "coder" "B" (.int (0 : Int32)) := (P7.keep K3c nin0).same W5
  have N5 := Fr.snoc X5 N4 P8
  have O5 : Old Z n0 h5 := O3.wr W5 P8
  have K5 : Keep h0 h5 [a1] := K3.wr W5 (Or.inl (List.mem_of_getElem? (i := 0) rfl))
  refine Go.st st5 ?_
  show Go p e below _ (T5.setTop (mkF m 51 #[.val (.ref a1), .val (.ref a2), .val (.int (0 : Int32)), .val (.int (2 : Int32)), .val .null, .val (.ref b1_3)] []))
  refine Go.st (fun t k => XS.aloadN X5.here hx rfl (hb hby d3_51) rfl rfl k) ?_
  show Go p e below _ (T5.setTop (mkF m 52 #[.val (.ref a1), .val (.ref a2), .val (.int (0 : Int32)), .val (.int (2 : Int32)), .val .null, .val (.ref b1_3)] [(.ref a1)]))
  refine Go.st (fun t k => XS.aload X5.here hx rfl (hb hby d3_52) rfl rfl k) ?_
  show Go p e below _ (T5.setTop (mkF m 54 #[.val (.ref a1), .val (.ref a2), .val (.int (0 : Int32)), .val (.int (2 : Int32)), .val .null, .val (.ref b1_3)] [(.ref b1_3), (.ref a1)]))
  have c6 := ((P9.keep K3c nin0).other W5 (Or.inr (slot_ne (Or.inr (w20 hw)) (Or.inr (w21 hw)) (by decide) (t := (.array .byte)) (t' := .byte) (by decide) (by decide))))
  obtain ⟨T7, h7, X7, e7, W7, st7⟩ := putF X5 hx hZ hown (host := "") (Or.inl (w24 hw)) Via.refl e5 c6 ((P6.keep K3c).wr W5) (Or.inr ⟨(w20 hw), rfl, hnm⟩) (w5 hw) (ty := (.array .byte)) (by decide) rfl rfl (g := (mkF m 54 #[.val (.ref a1), .val (.ref a2), .val (.int (0 : Int32)), .val (.int (2 : Int32)), .val .null, .val (.ref b1_3)] [(.ref b1_3), (.ref a1)])) rfl rfl (hb hby d3_54)
  have F7 : Fld Z h7 a1 "java/lang/String" "value" "[B" (.ref b1_3) := c6.same W7
  have N7 := Fr.snoc X7 N5 P8
  have O7 : Old Z n0 h7 := O5.wr W7 P8
  have K7 : Keep h0 h7 [a1] := K5.wr W7 (Or.inl (List.mem_of_getElem? (i := 0) rfl))
  refine Go.st st7 ?_
  show Go p e below _ (T7.setTop (mkF m 57 #[.val (.ref a1), .val (.ref a2), .val (.int (0 : Int32)), .val (.int (2 : Int32)), .val .null, .val (.ref b1_3)] []))
  obtain ⟨fs, hr, hrun, hended, hWd, hsame⟩ := X7.leave (v := none) (fun _ => rfl)
  have c8 := (F5.other W7 (Or.inr (slot_ne (Or.inr (w21 hw)) (Or.inr (w20 hw)) (by decide) (t := .byte) (t' := (.array .byte)) (by decide) (by decide))))
  have c9 := ((r3_1.other W5 (Ne.symm (Nat.ne_of_lt (Nat.lt_of_lt_of_le P6.lt r3_0)))).other W7 (Ne.symm (Nat.ne_of_lt (Nat.lt_of_lt_of_le P6.lt r3_0))))
  refine ⟨_, _, ?_, hrun, hended, _, _, rfl, ?_, ⟨⟨_, rfl⟩, hWd, hsame.mono (by decide) (by decide)⟩⟩
  · exact X7.returnOut hx Bd.returns (hb hby d3_57) hr
  · show Q_rm3_3 Z a1 a2 p3 kz4 p5 p6 h0 n0 _ T7.heap _
    rw [e7]
    exact ⟨b1_3, k1_3, rfl, N7, K7, s_b1_3, c8, F7, c9⟩
def Q_rm2_3 (Z : State) (a1 : Addr) (a2 : Addr) (kz3 : ClassId) (p4 : Int32) (p5 : Int32) (p6 : Int32) (h0 : Heap) (n0 : Nat) (v : Option Value) (h : Heap) (L : List Loc) : Prop := ∃ (b1_3_2 : Addr) (k1_3_2 : ClassId), v = none ∧ Fr n0 L ∧ Keep h0 h [a1] ∧ h0.size ≤ b1_3_2 ∧ Fld Z h a1 "java/lang/String" "coder" "B" (.int (0 : Int32)) ∧ Fld Z h a1 "java/lang/String" "value" "[B" (.ref b1_3_2) ∧ Arv Z h b1_3_2 k1_3_2 .byte (2 : Int32) [(.int ((p4.toInt8.toInt32).toInt8.toInt32)), (.int ((p5.toInt8.toInt32).toInt8.toInt32))] (.int (0 : Int32))
set_option maxRecDepth 65536 in
set_option maxHeartbeats 40000000 in
theorem rm2_3 (l : Launch) (Z : State) (a0 : Array Value) (hw : ∀ d ∈ tables_1, d.before a0 Z = true) (ws : List Jvm.Cond) (a1 : Addr) (a2 : Addr) (kz3 : ClassId) (p4 : Int32) (p5 : Int32) (p6 : Int32) (h0 : Heap) (n0 : Nat) (O0 : Old Z n0 h0) (P1 : Arv Z h0 a2 kz3 .char (2 : Int32) [(.int p4), (.int p5)] (.int (0 : Int32))) (P2 : Sta Z Z.heap "java/lang/String" "COMPACT_STRINGS" "Z" (.int p6)) (P3 : ¬ (p6 = (0 : Int32))) (P4 : ¬ ((255 : Int32) < p4)) (P5 : ¬ ((255 : Int32) < p5)) (P6 : Exa Z h0 a1 "java/lang/String") (P7 : Fld Z h0 a1 "java/lang/String" "coder" "B" (.int (0 : Int32))) (P8 : n0 ≤ a1) (P9 : Fld Z h0 a1 "java/lang/String" "value" "[B" .null) :
    MetFree l (⟨"java/lang/String", "<init>", "([C)V"⟩ : MethodName) (head1 (Jvm.Cond.code (⟨"java/lang/String", "<init>", "([C)V"⟩ : MethodName) jdk_42_method_3_code 2 none :: ws) ({ frames := 3, cells := 1, slots := 2, locals := 52 } : Room)) (fun a U => a = #[(.ref a1), (.ref a2)] ∧ Z.Warmed39 U.vm ∧ U.heap = h0) (fun _ _ _ _ _ => True) (fun _ U o U' => ∃ v L, o = .returned v ∧ Q_rm2_3 Z a1 a2 kz3 p4 p5 p6 h0 n0 v U'.heap L ∧ FrameEnd U o U' L ({ frames := 3, cells := 1, slots := 2, locals := 52 } : Room).cells ({ frames := 3, cells := 1, slots := 2, locals := 52 } : Room).slots) := by
  refine MetFree.of_bodySF (plainFor_of_name pn_0) hisR ?_
  intro p e s m args below meth c s₁ Bd hml0 hP hK
  obtain ⟨rfl, hZ, hh⟩ := hP
  have hx := Bd.exec
  have hby := Bd.bytes
  have hml : c.maxLocals = 2 := hml0
  have hown : s.vm.findClass "java/lang/String" = some m.cls := findClass_of_methodNamed Bd.named
  have hnm := (name_of_methodNamed Bd.named Bd.method).1
  have X0 : Stand p l e ({ frames := 3, cells := 1, slots := 2, locals := 52 } : Room) s m #[(.ref a1), (.ref a2)] below meth c s₁ [] 0 0 := Stand.of_body Bd
  have e0 : s₁.heap = h0 := by rw [← hh, Bd.state]; rfl
  have N0 := Fr.nil n0
  refine Go.start (P := (fun o U' => ∃ v L, o = .returned v ∧ Q_rm2_3 Z a1 a2 kz3 p4 p5 p6 h0 n0 v U'.heap L ∧ FrameEnd s o U' L ({ frames := 3, cells := 1, slots := 2, locals := 52 } : Room).cells ({ frames := 3, cells := 1, slots := 2, locals := 52 } : Room).slots)) (castTop (g' := (mkF m 0 #[.val (.ref a1), .val (.ref a2)] [])) (by first | rfl | simp [entryFrame, mkF, argsToLocals, Value.category]) (T := s₁)) ?_
  refine Go.st (fun t k => XS.aloadN X0.here hx rfl (hb hby d2_0) rfl rfl k) ?_
  show Go p e below _ (s₁.setTop (mkF m 1 #[.val (.ref a1), .val (.ref a2)] [(.ref a1)]))
  refine Go.st (fun t k => XS.aloadN X0.here hx rfl (hb hby d2_1) rfl rfl k) ?_
  show Go p e below _ (s₁.setTop (mkF m 2 #[.val (.ref a1), .val (.ref a2)] [(.ref a2), (.ref a1)]))
  refine Go.st (fun t k => XS.iconst X0.here hx rfl (hb hby d2_2) k) ?_
  show Go p e below _ (s₁.setTop (mkF m 3 #[.val (.ref a1), .val (.ref a2)] [(.int (0 : Int32)), (.ref a2), (.ref a1)]))
  refine Go.st (fun t k => XS.aloadN X0.here hx rfl (hb hby d2_3) rfl rfl k) ?_
  show Go p e below _ (s₁.setTop (mkF m 4 #[.val (.ref a1), .val (.ref a2)] [(.ref a2), (.int (0 : Int32)), (.ref a2), (.ref a1)]))
  obtain ⟨cl1, Ar1, -, S1, M1, -, -⟩ := id P1
  refine Go.st (fun t k => X0.arraylength hx (by rw [e0]; exact Ar1.1) (State.isArrayOf_alike hZ.alike Ar1.2.1) (g := (mkF m 4 #[.val (.ref a1), .val (.ref a2)] [(.ref a2), (.int (0 : Int32)), (.ref a2), (.ref a1)])) rfl rfl (hb hby d2_4) t k) ?_
  rw [len_of S1 M1]
  show Go p e below _ (s₁.setTop (mkF m 5 #[.val (.ref a1), .val (.ref a2)] [(.int (2 : Int32)), (.int (0 : Int32)), (.ref a2), (.ref a1)]))
  refine Go.st (fun t k => XS.aconstNull X0.here hx rfl (hb hby d2_5) k) ?_
  show Go p e below _ (s₁.setTop (mkF m 6 #[.val (.ref a1), .val (.ref a2)] [.null, (.int (2 : Int32)), (.int (0 : Int32)), (.ref a2), (.ref a1)]))
  obtain ⟨_, _, ⟨T2, L2, k2, n2⟩, -, X2, ⟨Lc2, hQ2, l2, y2, z2⟩, st2⟩ := X0.specialBack hx (y := (⟨"java/lang/String", "<init>", "([CIILjava/lang/Void;)V"⟩ : MethodName)) rfl hown (mvT hZ (w11 hw)) (mvT hZ (w12 hw)) (mvT hZ (w14 hw)) (by decide) (backOf (W := 0) (rm3_3 l Z a0 hw [] a1 a2 p6 kz3 p4 p5 h0 n0 O0 P2 P3 P1 P4 P5 P6 P7 P8 P9) hZ (w14 hw) (w6 hw) (by decide) (by decide)) (g := (mkF m 6 #[.val (.ref a1), .val (.ref a2)] [.null, (.int (2 : Int32)), (.int (0 : Int32)), (.ref a2), (.ref a1)])) rfl (by rw [hml]; rfl) (Steps.refl _) (a := a1) (argsL := [(.ref a2), (.int (0 : Int32)), (.int (2 : Int32)), .null]) (rest := []) (lenOf pd_0 rfl) rfl (by show 2 * 0 + _ ≤ _; exact Nat.le_of_eq rfl) (hb hby d2_6) (fun vm₁ hw₁ => ⟨rfl, e0, (by decide : 0 + 1 ≤ _), (by decide : 0 + 2 ≤ _)⟩)
  dsimp only [Pt.U, Pt.locs, Pt.cells, Pt.slots] at X2 l2 y2 z2 st2 hQ2
  subst l2 y2 z2
  obtain ⟨b1_3_2, k1_3_2, rfl, M2, K2c, r2_0, r2_1, r2_2, r2_3⟩ := hQ2
  have N2 := Fr.app N0 M2
  have g_b1_3_2 : n0 ≤ b1_3_2 := Nat.le_trans (own_n0 O0) r2_0
  have s_b1_3_2 : h0.size ≤ b1_3_2 := Nat.le_trans (Keep.refl h0 [a1]).1 r2_0
  have O2 : Old Z n0 T2.heap := O0.keep K2c (allS P8 all0)
  have K2 : Keep h0 T2.heap [a1] := (Keep.refl h0 [a1]).trans K2c (allS (Or.inl (List.mem_of_getElem? (i := 0) rfl)) all0)
  refine Go.tr st2 ?_
  show Go p e below _ (T2.setTop (mkF m 9 #[.val (.ref a1), .val (.ref a2)] []))
  obtain ⟨fs, hr, hrun, hended, hWd, hsame⟩ := X2.leave (v := none) (fun _ => rfl)
  refine ⟨_, _, ?_, hrun, hended, _, _, rfl, ?_, ⟨⟨_, rfl⟩, hWd, hsame.mono (by decide) (by decide)⟩⟩
  · exact X2.returnOut hx Bd.returns (hb hby d2_9) hr
  · show Q_rm2_3 Z a1 a2 kz3 p4 p5 p6 h0 n0 _ T2.heap _
    exact ⟨b1_3_2, k1_3_2, rfl, N2, K2, s_b1_3_2, r2_1, r2_2, r2_3⟩
def Q_rmS (Z : State) (xv : Int32) (p2 : Int32) (h0 : Heap) (n0 : Nat) (v : Option Value) (h : Heap) (vm : Vm) (L : List Loc) : Prop := ∃ (bs : Addr), v = some (.ref bs) ∧ Fr n0 L ∧ Keep h0 h [] ∧ Exa Z h bs "java/lang/String" ∧ own_LT Z h vm
set_option maxRecDepth 65536 in
set_option maxHeartbeats 40000000 in
theorem rmS (l : Launch) (Z : State) (a0 : Array Value) (hw : ∀ d ∈ tables_1, d.before a0 Z = true) (ws : List Jvm.Cond) (xv : Int32) (p2 : Int32) (h0 : Heap) (n0 : Nat) (O0 : Old Z n0 h0) (HH_0 : Jvm.Lit.constHeld Z "java/lang/String" 7) (HC : Jvm.Lit.compactW.before a0 Z = true) (P3 : Sta Z Z.heap "java/lang/String" "COMPACT_STRINGS" "Z" (.int p2)) (P4 : ¬ (p2 = (0 : Int32))) :
    MetFree l (⟨"com/example/cropmark/cropmark/RowProblemsPinLaw", "reason", "(I)Ljava/lang/String;"⟩ : MethodName) (head1 (Jvm.Cond.code (⟨"com/example/cropmark/cropmark/RowProblemsPinLaw", "reason", "(I)Ljava/lang/String;"⟩ : MethodName) method_2_code 4 (some (.object "java/lang/String")) :: ws) ({ frames := 4, cells := 4, slots := 8, locals := 66 } : Room)) (fun a U => a = #[(.int xv)] ∧ Z.Warmed39 U.vm ∧ U.heap = h0 ∧ (own_LT Z h0 U.vm)) (fun _ _ _ _ _ => True) (fun _ U o U' => ∃ v L, o = .returned v ∧ Q_rmS Z xv p2 h0 n0 v U'.heap U'.vm L ∧ ReturnedEndW U o U' L ({ frames := 4, cells := 4, slots := 8, locals := 66 } : Room).cells ({ frames := 4, cells := 4, slots := 8, locals := 66 } : Room).slots) := by
  refine MetFree.of_bodySF (plainFor_of_name pn_3) hisR ?_
  intro p e s m args below meth c s₁ Bd hml0 hP hK
  obtain ⟨rfl, hZ, hh, VP1⟩ := hP
  have hx := Bd.exec
  have hby := Bd.bytes
  have hml : c.maxLocals = 4 := hml0
  have hown : s.vm.findClass "com/example/cropmark/cropmark/RowProblemsPinLaw" = some m.cls := findClass_of_methodNamed Bd.named
  have hnm := (name_of_methodNamed Bd.named Bd.method).1
  have X0 : Stand p l e ({ frames := 4, cells := 4, slots := 8, locals := 66 } : Room) s m #[(.int xv)] below meth c s₁ [] 0 0 := Stand.of_body Bd
  have e0 : s₁.heap = h0 := by rw [← hh, Bd.state]; rfl
  have N0 := Fr.nil n0
  refine Go.start (P := (fun o U' => ∃ v L, o = .returned v ∧ Q_rmS Z xv p2 h0 n0 v U'.heap U'.vm L ∧ ReturnedEndW s o U' L ({ frames := 4, cells := 4, slots := 8, locals := 66 } : Room).cells ({ frames := 4, cells := 4, slots := 8, locals := 66 } : Room).slots)) (castTop (g' := (mkF m 0 #[.val (.int xv), .unset, .unset, .unset] [])) (by first | rfl | simp [entryFrame, mkF, argsToLocals, Value.category]) (T := s₁)) ?_
  refine Go.st (fun t k => XS.iloadN X0.here hx rfl (hb hby d1_0) rfl k) ?_
  show Go p e below _ (s₁.setTop (mkF m 1 #[.val (.int xv), .unset, .unset, .unset] [(.int xv)]))
  refine Go.st (fun t k => XS.bipush X0.here hx rfl (hb hby d1_1) k) ?_
  show Go p e below _ (s₁.setTop (mkF m 3 #[.val (.int xv), .unset, .unset, .unset] [(.int (16 : Int32)), (.int xv)]))
  refine Go.st (fun t k => XS.iushr X0.here hx rfl (hb hby d1_3) rfl k) ?_
  show Go p e below _ (s₁.setTop (mkF m 4 #[.val (.int xv), .unset, .unset, .unset] [(.int ((xv.toUInt32 >>> ((16 : Int32) &&& 31).toUInt32).toInt32))]))
  refine Go.st (fun t k => XS.sipush X0.here hx rfl (hb hby d1_4) k) ?_
  show Go p e below _ (s₁.setTop (mkF m 7 #[.val (.int xv), .unset, .unset, .unset] [(.int (32767 : Int32)), (.int ((xv.toUInt32 >>> ((16 : Int32) &&& 31).toUInt32).toInt32))]))
  refine Go.st (fun t k => XS.iand X0.here hx rfl (hb hby d1_7) rfl k) ?_
  show Go p e below _ (s₁.setTop (mkF m 8 #[.val (.int xv), .unset, .unset, .unset] [(.int (((xv.toUInt32 >>> ((16 : Int32) &&& 31).toUInt32).toInt32) &&& (32767 : Int32)))]))
  refine Go.st (fun t k => XS.iconst X0.here hx rfl (hb hby d1_8) k) ?_
  show Go p e below _ (s₁.setTop (mkF m 9 #[.val (.int xv), .unset, .unset, .unset] [(.int (3 : Int32)), (.int (((xv.toUInt32 >>> ((16 : Int32) &&& 31).toUInt32).toInt32) &&& (32767 : Int32)))]))
  refine Go.st (fun t k => iremM X0 hx rfl (hb hby d1_9) rfl (by decide : ¬ ((3 : Int32) = (0 : Int32))) k) ?_
  show Go p e below _ (s₁.setTop (mkF m 10 #[.val (.int xv), .unset, .unset, .unset] [(.int ((((xv.toUInt32 >>> ((16 : Int32) &&& 31).toUInt32).toInt32) &&& (32767 : Int32)) % (3 : Int32)))]))
  refine Go.st (fun t k => XS.istoreN X0.here hx rfl (hb hby d1_10) rfl (l' := #[.val (.int xv), .val (.int ((((xv.toUInt32 >>> ((16 : Int32) &&& 31).toUInt32).toInt32) &&& (32767 : Int32)) % (3 : Int32))), .unset, .unset]) rfl k) ?_
  show Go p e below _ (s₁.setTop (mkF m 11 #[.val (.int xv), .val (.int ((((xv.toUInt32 >>> ((16 : Int32) &&& 31).toUInt32).toInt32) &&& (32767 : Int32)) % (3 : Int32))), .unset, .unset] []))
  refine Go.st (fun t k => XS.iloadN X0.here hx rfl (hb hby d1_11) rfl k) ?_
  show Go p e below _ (s₁.setTop (mkF m 12 #[.val (.int xv), .val (.int ((((xv.toUInt32 >>> ((16 : Int32) &&& 31).toUInt32).toInt32) &&& (32767 : Int32)) % (3 : Int32))), .unset, .unset] [(.int xv)]))
  refine Go.st (fun t k => XS.sipush X0.here hx rfl (hb hby d1_12) k) ?_
  show Go p e below _ (s₁.setTop (mkF m 15 #[.val (.int xv), .val (.int ((((xv.toUInt32 >>> ((16 : Int32) &&& 31).toUInt32).toInt32) &&& (32767 : Int32)) % (3 : Int32))), .unset, .unset] [(.int (255 : Int32)), (.int xv)]))
  refine Go.st (fun t k => XS.iand X0.here hx rfl (hb hby d1_15) rfl k) ?_
  show Go p e below _ (s₁.setTop (mkF m 16 #[.val (.int xv), .val (.int ((((xv.toUInt32 >>> ((16 : Int32) &&& 31).toUInt32).toInt32) &&& (32767 : Int32)) % (3 : Int32))), .unset, .unset] [(.int (xv &&& (255 : Int32)))]))
  refine Go.st (fun t k => XS.i2c X0.here hx rfl (hb hby d1_16) rfl k) ?_
  show Go p e below _ (s₁.setTop (mkF m 17 #[.val (.int xv), .val (.int ((((xv.toUInt32 >>> ((16 : Int32) &&& 31).toUInt32).toInt32) &&& (32767 : Int32)) % (3 : Int32))), .unset, .unset] [(.int ((xv &&& (255 : Int32)).toUInt32.toUInt16.toUInt32.toInt32))]))
  refine Go.st (fun t k => XS.istoreN X0.here hx rfl (hb hby d1_17) rfl (l' := #[.val (.int xv), .val (.int ((((xv.toUInt32 >>> ((16 : Int32) &&& 31).toUInt32).toInt32) &&& (32767 : Int32)) % (3 : Int32))), .val (.int ((xv &&& (255 : Int32)).toUInt32.toUInt16.toUInt32.toInt32)), .unset]) rfl k) ?_
  show Go p e below _ (s₁.setTop (mkF m 18 #[.val (.int xv), .val (.int ((((xv.toUInt32 >>> ((16 : Int32) &&& 31).toUInt32).toInt32) &&& (32767 : Int32)) % (3 : Int32))), .val (.int ((xv &&& (255 : Int32)).toUInt32.toUInt16.toUInt32.toInt32)), .unset] []))
  refine Go.st (fun t k => XS.iloadN X0.here hx rfl (hb hby d1_18) rfl k) ?_
  show Go p e below _ (s₁.setTop (mkF m 19 #[.val (.int xv), .val (.int ((((xv.toUInt32 >>> ((16 : Int32) &&& 31).toUInt32).toInt32) &&& (32767 : Int32)) % (3 : Int32))), .val (.int ((xv &&& (255 : Int32)).toUInt32.toUInt16.toUInt32.toInt32)), .unset] [(.int xv)]))
  refine Go.st (fun t k => XS.bipush X0.here hx rfl (hb hby d1_19) k) ?_
  show Go p e below _ (s₁.setTop (mkF m 21 #[.val (.int xv), .val (.int ((((xv.toUInt32 >>> ((16 : Int32) &&& 31).toUInt32).toInt32) &&& (32767 : Int32)) % (3 : Int32))), .val (.int ((xv &&& (255 : Int32)).toUInt32.toUInt16.toUInt32.toInt32)), .unset] [(.int (8 : Int32)), (.int xv)]))
  refine Go.st (fun t k => XS.iushr X0.here hx rfl (hb hby d1_21) rfl k) ?_
  show Go p e below _ (s₁.setTop (mkF m 22 #[.val (.int xv), .val (.int ((((xv.toUInt32 >>> ((16 : Int32) &&& 31).toUInt32).toInt32) &&& (32767 : Int32)) % (3 : Int32))), .val (.int ((xv &&& (255 : Int32)).toUInt32.toUInt16.toUInt32.toInt32)), .unset] [(.int ((xv.toUInt32 >>> ((8 : Int32) &&& 31).toUInt32).toInt32))]))
  refine Go.st (fun t k => XS.sipush X0.here hx rfl (hb hby d1_22) k) ?_
  show Go p e below _ (s₁.setTop (mkF m 25 #[.val (.int xv), .val (.int ((((xv.toUInt32 >>> ((16 : Int32) &&& 31).toUInt32).toInt32) &&& (32767 : Int32)) % (3 : Int32))), .val (.int ((xv &&& (255 : Int32)).toUInt32.toUInt16.toUInt32.toInt32)), .unset] [(.int (255 : Int32)), (.int ((xv.toUInt32 >>> ((8 : Int32) &&& 31).toUInt32).toInt32))]))
  refine Go.st (fun t k => XS.iand X0.here hx rfl (hb hby d1_25) rfl k) ?_
  show Go p e below _ (s₁.setTop (mkF m 26 #[.val (.int xv), .val (.int ((((xv.toUInt32 >>> ((16 : Int32) &&& 31).toUInt32).toInt32) &&& (32767 : Int32)) % (3 : Int32))), .val (.int ((xv &&& (255 : Int32)).toUInt32.toUInt16.toUInt32.toInt32)), .unset] [(.int (((xv.toUInt32 >>> ((8 : Int32) &&& 31).toUInt32).toInt32) &&& (255 : Int32)))]))
  refine Go.st (fun t k => XS.i2c X0.here hx rfl (hb hby d1_26) rfl k) ?_
  show Go p e below _ (s₁.setTop (mkF m 27 #[.val (.int xv), .val (.int ((((xv.toUInt32 >>> ((16 : Int32) &&& 31).toUInt32).toInt32) &&& (32767 : Int32)) % (3 : Int32))), .val (.int ((xv &&& (255 : Int32)).toUInt32.toUInt16.toUInt32.toInt32)), .unset] [(.int ((((xv.toUInt32 >>> ((8 : Int32) &&& 31).toUInt32).toInt32) &&& (255 : Int32)).toUInt32.toUInt16.toUInt32.toInt32))]))
  refine Go.st (fun t k => XS.istoreN X0.here hx rfl (hb hby d1_27) rfl (l' := #[.val (.int xv), .val (.int ((((xv.toUInt32 >>> ((16 : Int32) &&& 31).toUInt32).toInt32) &&& (32767 : Int32)) % (3 : Int32))), .val (.int ((xv &&& (255 : Int32)).toUInt32.toUInt16.toUInt32.toInt32)), .val (.int ((((xv.toUInt32 >>> ((8 : Int32) &&& 31).toUInt32).toInt32) &&& (255 : Int32)).toUInt32.toUInt16.toUInt32.toInt32))]) rfl k) ?_
  show Go p e below _ (s₁.setTop (mkF m 28 #[.val (.int xv), .val (.int ((((xv.toUInt32 >>> ((16 : Int32) &&& 31).toUInt32).toInt32) &&& (32767 : Int32)) % (3 : Int32))), .val (.int ((xv &&& (255 : Int32)).toUInt32.toUInt16.toUInt32.toInt32)), .val (.int ((((xv.toUInt32 >>> ((8 : Int32) &&& 31).toUInt32).toInt32) &&& (255 : Int32)).toUInt32.toUInt16.toUInt32.toInt32))] []))
  refine Go.st (fun t k => XS.iloadN X0.here hx rfl (hb hby d1_28) rfl k) ?_
  show Go p e below _ (s₁.setTop (mkF m 29 #[.val (.int xv), .val (.int ((((xv.toUInt32 >>> ((16 : Int32) &&& 31).toUInt32).toInt32) &&& (32767 : Int32)) % (3 : Int32))), .val (.int ((xv &&& (255 : Int32)).toUInt32.toUInt16.toUInt32.toInt32)), .val (.int ((((xv.toUInt32 >>> ((8 : Int32) &&& 31).toUInt32).toInt32) &&& (255 : Int32)).toUInt32.toUInt16.toUInt32.toInt32))] [(.int ((((xv.toUInt32 >>> ((16 : Int32) &&& 31).toUInt32).toInt32) &&& (32767 : Int32)) % (3 : Int32)))]))
  by_cases hc1 : ((((xv.toUInt32 >>> ((16 : Int32) &&& 31).toUInt32).toInt32) &&& (32767 : Int32)) % (3 : Int32)) = (0 : Int32)
  · refine Go.st (fun t k => XS.ifNo X0.here hx rfl (hb hby d1_29) rfl (Jvm.Free.XT.i0_ne_f hc1) k) ?_
    show Go p e below _ (s₁.setTop (mkF m 32 #[.val (.int xv), .val (.int ((((xv.toUInt32 >>> ((16 : Int32) &&& 31).toUInt32).toInt32) &&& (32767 : Int32)) % (3 : Int32))), .val (.int ((xv &&& (255 : Int32)).toUInt32.toUInt16.toUInt32.toInt32)), .val (.int ((((xv.toUInt32 >>> ((8 : Int32) &&& 31).toUInt32).toInt32) &&& (255 : Int32)).toUInt32.toUInt16.toUInt32.toInt32))] []))
    rcases VP1 with I0 | ⟨la, lb, lk, L0, lE, lC, lV, lA⟩
    · show Go p e below _ (s₁.setTop (mkF m 32 #[.val (.int xv), .val (.int ((((xv.toUInt32 >>> ((16 : Int32) &&& 31).toUInt32).toInt32) &&& (32767 : Int32)) % (3 : Int32))), .val (.int ((xv &&& (255 : Int32)).toUInt32.toUInt16.toUInt32.toInt32)), .val (.int ((((xv.toUInt32 >>> ((8 : Int32) &&& 31).toUInt32).toInt32) &&& (255 : Int32)).toUInt32.toUInt16.toUInt32.toInt32))] []))
      obtain ⟨T2, h2, X2, e2, E2, A2, D2, -, st2⟩ := newO X0 hx hZ hown (w4 hw) (w5 hw) (w6 hw) e0 (g := (mkF m 32 #[.val (.int xv), .val (.int ((((xv.toUInt32 >>> ((16 : Int32) &&& 31).toUInt32).toInt32) &&& (32767 : Int32)) % (3 : Int32))), .val (.int ((xv &&& (255 : Int32)).toUInt32.toUInt16.toUInt32.toInt32)), .val (.int ((((xv.toUInt32 >>> ((8 : Int32) &&& 31).toUInt32).toInt32) &&& (255 : Int32)).toUInt32.toUInt16.toUInt32.toInt32))] [])) rfl (hb hby d1_32) (by decide) (by decide)
      obtain ⟨b2, z2⟩ : ∃ z, z = h0.size := ⟨_, rfl⟩
      rw [← z2] at A2 D2 st2
      have g_b2 : n0 ≤ b2 := Nat.le_trans (own_n0 O0) (Nat.le_of_eq z2.symm)
      have s_b2 : h0.size ≤ b2 := Nat.le_trans (Keep.refl h0 []).1 (Nat.le_of_eq z2.symm)
      have O2 : Old Z n0 h2 := O0.ext E2
      have K2 : Keep h0 h2 [] := (Keep.refl h0 []).ext E2
      have f2_20 : Fld Z h2 b2 "java/lang/String" "value" "[B" .null := D2 (Or.inr (w20 hw)) (ty := (.array .byte)) (by decide)
      have f2_21 : Fld Z h2 b2 "java/lang/String" "coder" "B" (.int (0 : Int32)) := D2 (Or.inr (w21 hw)) (ty := .byte) (by decide)
      refine Go.st st2 ?_
      show Go p e below _ (T2.setTop (mkF m 35 #[.val (.int xv), .val (.int ((((xv.toUInt32 >>> ((16 : Int32) &&& 31).toUInt32).toInt32) &&& (32767 : Int32)) % (3 : Int32))), .val (.int ((xv &&& (255 : Int32)).toUInt32.toUInt16.toUInt32.toInt32)), .val (.int ((((xv.toUInt32 >>> ((8 : Int32) &&& 31).toUInt32).toInt32) &&& (255 : Int32)).toUInt32.toUInt16.toUInt32.toInt32))] [(.ref b2)]))
      refine Go.st (fun t k => XS.dup X2.here hx rfl (hb hby d1_35) rfl rfl k) ?_
      show Go p e below _ (T2.setTop (mkF m 36 #[.val (.int xv), .val (.int ((((xv.toUInt32 >>> ((16 : Int32) &&& 31).toUInt32).toInt32) &&& (32767 : Int32)) % (3 : Int32))), .val (.int ((xv &&& (255 : Int32)).toUInt32.toUInt16.toUInt32.toInt32)), .val (.int ((((xv.toUInt32 >>> ((8 : Int32) &&& 31).toUInt32).toInt32) &&& (255 : Int32)).toUInt32.toUInt16.toUInt32.toInt32))] [(.ref b2), (.ref b2)]))
      refine Go.st (fun t k => XS.iconst X2.here hx rfl (hb hby d1_36) k) ?_
      show Go p e below _ (T2.setTop (mkF m 37 #[.val (.int xv), .val (.int ((((xv.toUInt32 >>> ((16 : Int32) &&& 31).toUInt32).toInt32) &&& (32767 : Int32)) % (3 : Int32))), .val (.int ((xv &&& (255 : Int32)).toUInt32.toUInt16.toUInt32.toInt32)), .val (.int ((((xv.toUInt32 >>> ((8 : Int32) &&& 31).toUInt32).toInt32) &&& (255 : Int32)).toUInt32.toUInt16.toUInt32.toInt32))] [(.int (0 : Int32)), (.ref b2), (.ref b2)]))
      obtain ⟨T3, h3, k3, X3, e3, E3, A3, st3⟩ := newP X2 hx hZ (aty := .char) (w7 hw) e2 (g := (mkF m 37 #[.val (.int xv), .val (.int ((((xv.toUInt32 >>> ((16 : Int32) &&& 31).toUInt32).toInt32) &&& (32767 : Int32)) % (3 : Int32))), .val (.int ((xv &&& (255 : Int32)).toUInt32.toUInt16.toUInt32.toInt32)), .val (.int ((((xv.toUInt32 >>> ((8 : Int32) &&& 31).toUInt32).toInt32) &&& (255 : Int32)).toUInt32.toUInt16.toUInt32.toInt32))] [(.int (0 : Int32)), (.ref b2), (.ref b2)])) rfl (hb hby d1_37) rfl (by decide) (cap := 0) (by decide) (by decide) (by decide) (by decide)
      obtain ⟨b3, z3⟩ : ∃ z, z = h2.size := ⟨_, rfl⟩
      rw [← z3] at A3 st3
      have g_b3 : n0 ≤ b3 := Nat.le_trans (own_n0 O2) (Nat.le_of_eq z3.symm)
      have s_b3 : h0.size ≤ b3 := Nat.le_trans K2.1 (Nat.le_of_eq z3.symm)
      have V3 : Arv Z h3 b3 k3 .char (0 : Int32) [] (.int (0 : Int32)) := (Arv.new A3 (by decide)).pad (pad_rep [] (.int (0 : Int32)) 0)
      have O3 : Old Z n0 h3 := O2.ext E3
      have K3 : Keep h0 h3 [] := K2.ext E3
      refine Go.st st3 ?_
      show Go p e below _ (T3.setTop (mkF m 39 #[.val (.int xv), .val (.int ((((xv.toUInt32 >>> ((16 : Int32) &&& 31).toUInt32).toInt32) &&& (32767 : Int32)) % (3 : Int32))), .val (.int ((xv &&& (255 : Int32)).toUInt32.toUInt16.toUInt32.toInt32)), .val (.int ((((xv.toUInt32 >>> ((8 : Int32) &&& 31).toUInt32).toInt32) &&& (255 : Int32)).toUInt32.toUInt16.toUInt32.toInt32))] [(.ref b3), (.ref b2), (.ref b2)]))
      obtain ⟨_, _, ⟨T4, L4, k4, n4⟩, -, X4, hS4, hg4, ⟨Lc4, hQ4, l4, y4, z4⟩, st4⟩ := X3.specialBackS hx (y := (⟨"java/lang/String", "<init>", "([C)V"⟩ : MethodName)) rfl hown (mvT hZ (w8 hw)) (mvT hZ (w9 hw)) (mvT hZ (w10 hw)) (by decide) (own_backOfV (VP := fun vm => IB Z vm []) (Q := Q_rm2_1 Z b2 b3 k3 h3 n0) (rm := ({ frames := 2, cells := 2, slots := 4, locals := 29 } : Room)) (W := 1) (rm2_1 l Z a0 hw [] b2 b3 k3 h3 n0 O3 V3 HH_0 HC (A2.ext E3) (f2_20.ext E3) g_b2 (f2_21.ext E3)) hZ (w10 hw) (w6 hw) (by decide) (by decide)) (g := (mkF m 39 #[.val (.int xv), .val (.int ((((xv.toUInt32 >>> ((16 : Int32) &&& 31).toUInt32).toInt32) &&& (32767 : Int32)) % (3 : Int32))), .val (.int ((xv &&& (255 : Int32)).toUInt32.toUInt16.toUInt32.toInt32)), .val (.int ((((xv.toUInt32 >>> ((8 : Int32) &&& 31).toUInt32).toInt32) &&& (255 : Int32)).toUInt32.toUInt16.toUInt32.toInt32))] [(.ref b3), (.ref b2), (.ref b2)])) rfl (by rw [hml]; rfl) (Steps.refl _) (a := b2) (argsL := [(.ref b3)]) (rest := [(.ref b2)]) (lenOf pd_1 rfl) rfl (by show 2 * 0 + _ ≤ _; exact Nat.le_of_eq rfl) (hb hby d1_39) (fun vm₁ hw₁ => ⟨rfl, e3, (own_ibW I0 hw₁), (by decide : 2 + 2 ≤ _), (by decide : 4 + 4 ≤ _)⟩)
      dsimp only [Pt.U, Pt.locs, Pt.cells, Pt.slots] at X4 l4 y4 z4 st4 hQ4 hS4 hg4
      subst l4 y4 z4
      have hZ : Z.Warmed39 (s.setVm T4.vm).vm := State.Warmed39.trans (t := s) hZ hS4.1
      have hown : (s.setVm T4.vm).vm.findClass "com/example/cropmark/cropmark/RowProblemsPinLaw" = some m.cls := by rw [show (s.setVm T4.vm).vm = T4.vm from rfl, hS4.1.alike.findClass]; exact hown
      have hS40 := hS4.1
      obtain ⟨b2_2_4, t2_2_4, kk2_2_4, rfl, M4, K4c, r4_0, r4_1, r4_2, r4_3, r4_4, r4_5, vq4_0, vq4_1⟩ := hQ4
      have N4 := Fr.app N0 M4
      have O4 : Old Z n0 T4.heap := O3.keep K4c (allS g_b2 all0)
      have K4 : Keep h0 T4.heap [] := K3.trans K4c (allS (Or.inr s_b2) all0)
      refine Go.tr st4 ?_
      show Go p e below _ (T4.setTop (mkF m 42 #[.val (.int xv), .val (.int ((((xv.toUInt32 >>> ((16 : Int32) &&& 31).toUInt32).toInt32) &&& (32767 : Int32)) % (3 : Int32))), .val (.int ((xv &&& (255 : Int32)).toUInt32.toUInt16.toUInt32.toInt32)), .val (.int ((((xv.toUInt32 >>> ((8 : Int32) &&& 31).toUInt32).toInt32) &&& (255 : Int32)).toUInt32.toUInt16.toUInt32.toInt32))] [(.ref b2)]))
      obtain ⟨fs, hr, hrun, hended, hEnd⟩ := X4.leaveW hS4 (Nat.le_refl _) (v := some (.ref b2)) (fun h => by rw [Bd.returns] at h; cases h)
      refine ⟨_, _, ?_, hrun, hended, _, _, rfl, ?_, ⟨hEnd.1, hEnd.2.1, hEnd.2.2.1, hEnd.2.2.2.mono (by decide) (by decide)⟩⟩
      · exact own_retA X4 hx Bd.returns rfl rfl (hb hby d1_42) hr
      · show Q_rmS Z xv p2 h0 n0 _ T4.heap T4.vm _
        exact ⟨b2, rfl, N4, K4, ((A2.ext E3).keep K4c), (Or.inr ⟨b2_2_4, t2_2_4, kk2_2_4, own_litW vq4_1 X4.warmed, r4_2, r4_3, r4_4, r4_5⟩)⟩
    · show Go p e below _ (s₁.setTop (mkF m 32 #[.val (.int xv), .val (.int ((((xv.toUInt32 >>> ((16 : Int32) &&& 31).toUInt32).toInt32) &&& (32767 : Int32)) % (3 : Int32))), .val (.int ((xv &&& (255 : Int32)).toUInt32.toUInt16.toUInt32.toInt32)), .val (.int ((((xv.toUInt32 >>> ((8 : Int32) &&& 31).toUInt32).toInt32) &&& (255 : Int32)).toUInt32.toUInt16.toUInt32.toInt32))] []))
      obtain ⟨T5, h5, X5, e5, E5, A5, D5, -, st5⟩ := newO X0 hx hZ hown (w4 hw) (w5 hw) (w6 hw) e0 (g := (mkF m 32 #[.val (.int xv), .val (.int ((((xv.toUInt32 >>> ((16 : Int32) &&& 31).toUInt32).toInt32) &&& (32767 : Int32)) % (3 : Int32))), .val (.int ((xv &&& (255 : Int32)).toUInt32.toUInt16.toUInt32.toInt32)), .val (.int ((((xv.toUInt32 >>> ((8 : Int32) &&& 31).toUInt32).toInt32) &&& (255 : Int32)).toUInt32.toUInt16.toUInt32.toInt32))] [])) rfl (hb hby d1_32) (by decide) (by decide)
      obtain ⟨b5, z5⟩ : ∃ z, z = h0.size := ⟨_, rfl⟩
      rw [← z5] at A5 D5 st5
      have g_b5 : n0 ≤ b5 := Nat.le_trans (own_n0 O0) (Nat.le_of_eq z5.symm)
      have s_b5 : h0.size ≤ b5 := Nat.le_trans (Keep.refl h0 []).1 (Nat.le_of_eq z5.symm)
      have O5 : Old Z n0 h5 := O0.ext E5
      have K5 : Keep h0 h5 [] := (Keep.refl h0 []).ext E5
      have f5_20 : Fld Z h5 b5 "java/lang/String" "value" "[B" .null := D5 (Or.inr (w20 hw)) (ty := (.array .byte)) (by decide)
      have f5_21 : Fld Z h5 b5 "java/lang/String" "coder" "B" (.int (0 : Int32)) := D5 (Or.inr (w21 hw)) (ty := .byte) (by decide)
      refine Go.st st5 ?_
      show Go p e below _ (T5.setTop (mkF m 35 #[.val (.int xv), .val (.int ((((xv.toUInt32 >>> ((16 : Int32) &&& 31).toUInt32).toInt32) &&& (32767 : Int32)) % (3 : Int32))), .val (.int ((xv &&& (255 : Int32)).toUInt32.toUInt16.toUInt32.toInt32)), .val (.int ((((xv.toUInt32 >>> ((8 : Int32) &&& 31).toUInt32).toInt32) &&& (255 : Int32)).toUInt32.toUInt16.toUInt32.toInt32))] [(.ref b5)]))
      refine Go.st (fun t k => XS.dup X5.here hx rfl (hb hby d1_35) rfl rfl k) ?_
      show Go p e below _ (T5.setTop (mkF m 36 #[.val (.int xv), .val (.int ((((xv.toUInt32 >>> ((16 : Int32) &&& 31).toUInt32).toInt32) &&& (32767 : Int32)) % (3 : Int32))), .val (.int ((xv &&& (255 : Int32)).toUInt32.toUInt16.toUInt32.toInt32)), .val (.int ((((xv.toUInt32 >>> ((8 : Int32) &&& 31).toUInt32).toInt32) &&& (255 : Int32)).toUInt32.toUInt16.toUInt32.toInt32))] [(.ref b5), (.ref b5)]))
      refine Go.st (fun t k => XS.iconst X5.here hx rfl (hb hby d1_36) k) ?_
      show Go p e below _ (T5.setTop (mkF m 37 #[.val (.int xv), .val (.int ((((xv.toUInt32 >>> ((16 : Int32) &&& 31).toUInt32).toInt32) &&& (32767 : Int32)) % (3 : Int32))), .val (.int ((xv &&& (255 : Int32)).toUInt32.toUInt16.toUInt32.toInt32)), .val (.int ((((xv.toUInt32 >>> ((8 : Int32) &&& 31).toUInt32).toInt32) &&& (255 : Int32)).toUInt32.toUInt16.toUInt32.toInt32))] [(.int (0 : Int32)), (.ref b5), (.ref b5)]))
      obtain ⟨T6, h6, k6, X6, e6, E6, A6, st6⟩ := newP X5 hx hZ (aty := .char) (w7 hw) e5 (g := (mkF m 37 #[.val (.int xv), .val (.int ((((xv.toUInt32 >>> ((16 : Int32) &&& 31).toUInt32).toInt32) &&& (32767 : Int32)) % (3 : Int32))), .val (.int ((xv &&& (255 : Int32)).toUInt32.toUInt16.toUInt32.toInt32)), .val (.int ((((xv.toUInt32 >>> ((8 : Int32) &&& 31).toUInt32).toInt32) &&& (255 : Int32)).toUInt32.toUInt16.toUInt32.toInt32))] [(.int (0 : Int32)), (.ref b5), (.ref b5)])) rfl (hb hby d1_37) rfl (by decide) (cap := 0) (by decide) (by decide) (by decide) (by decide)
      obtain ⟨b6, z6⟩ : ∃ z, z = h5.size := ⟨_, rfl⟩
      rw [← z6] at A6 st6
      have g_b6 : n0 ≤ b6 := Nat.le_trans (own_n0 O5) (Nat.le_of_eq z6.symm)
      have s_b6 : h0.size ≤ b6 := Nat.le_trans K5.1 (Nat.le_of_eq z6.symm)
      have V6 : Arv Z h6 b6 k6 .char (0 : Int32) [] (.int (0 : Int32)) := (Arv.new A6 (by decide)).pad (pad_rep [] (.int (0 : Int32)) 0)
      have O6 : Old Z n0 h6 := O5.ext E6
      have K6 : Keep h0 h6 [] := K5.ext E6
      refine Go.st st6 ?_
      show Go p e below _ (T6.setTop (mkF m 39 #[.val (.int xv), .val (.int ((((xv.toUInt32 >>> ((16 : Int32) &&& 31).toUInt32).toInt32) &&& (32767 : Int32)) % (3 : Int32))), .val (.int ((xv &&& (255 : Int32)).toUInt32.toUInt16.toUInt32.toInt32)), .val (.int ((((xv.toUInt32 >>> ((8 : Int32) &&& 31).toUInt32).toInt32) &&& (255 : Int32)).toUInt32.toUInt16.toUInt32.toInt32))] [(.ref b6), (.ref b5), (.ref b5)]))
      obtain ⟨_, _, ⟨T7, L7, k7, n7⟩, -, X7, hS7, hg7, ⟨Lc7, hQ7, l7, y7, z7⟩, st7⟩ := X6.specialBackS hx (y := (⟨"java/lang/String", "<init>", "([C)V"⟩ : MethodName)) rfl hown (mvT hZ (w8 hw)) (mvT hZ (w9 hw)) (mvT hZ (w10 hw)) (by decide) (own_backOfV (VP := fun vm => Lit (Z.setVm vm) "java/lang/String" 7 la) (Q := Q_rm2_2 Z b5 b6 k6 la lb h6 n0) (rm := ({ frames := 2, cells := 0, slots := 0, locals := 29 } : Room)) (W := 1) (rm2_2 l Z a0 hw [] b5 b6 k6 la lb h6 n0 O6 V6 (A5.ext E6) (f5_20.ext E6) g_b5 (f5_21.ext E6) ((lV.ext E5).ext E6) ((lC.ext E5).ext E6) (Nat.ne_of_lt (Nat.lt_of_lt_of_le lE.lt (Nat.le_of_eq z5.symm)))) hZ (w10 hw) (w6 hw) (by decide) (by decide)) (g := (mkF m 39 #[.val (.int xv), .val (.int ((((xv.toUInt32 >>> ((16 : Int32) &&& 31).toUInt32).toInt32) &&& (32767 : Int32)) % (3 : Int32))), .val (.int ((xv &&& (255 : Int32)).toUInt32.toUInt16.toUInt32.toInt32)), .val (.int ((((xv.toUInt32 >>> ((8 : Int32) &&& 31).toUInt32).toInt32) &&& (255 : Int32)).toUInt32.toUInt16.toUInt32.toInt32))] [(.ref b6), (.ref b5), (.ref b5)])) rfl (by rw [hml]; rfl) (Steps.refl _) (a := b5) (argsL := [(.ref b6)]) (rest := [(.ref b5)]) (lenOf pd_1 rfl) rfl (by show 2 * 0 + _ ≤ _; exact Nat.le_of_eq rfl) (hb hby d1_39) (fun vm₁ hw₁ => ⟨rfl, e6, (own_litW L0 hw₁), (by decide : 2 + 0 ≤ _), (by decide : 4 + 0 ≤ _)⟩)
      dsimp only [Pt.U, Pt.locs, Pt.cells, Pt.slots] at X7 l7 y7 z7 st7 hQ7 hS7 hg7
      subst l7 y7 z7
      have hZ : Z.Warmed39 (s.setVm T7.vm).vm := State.Warmed39.trans (t := s) hZ hS7.1
      have hown : (s.setVm T7.vm).vm.findClass "com/example/cropmark/cropmark/RowProblemsPinLaw" = some m.cls := by rw [show (s.setVm T7.vm).vm = T7.vm from rfl, hS7.1.alike.findClass]; exact hown
      have hS70 := hS7.1
      obtain ⟨rfl, M7, K7c, r7_0, r7_1, vq7_0⟩ := hQ7
      have N7 := Fr.app N0 M7
      have O7 : Old Z n0 T7.heap := O6.keep K7c (allS g_b5 all0)
      have K7 : Keep h0 T7.heap [] := K6.trans K7c (allS (Or.inr s_b5) all0)
      refine Go.tr st7 ?_
      show Go p e below _ (T7.setTop (mkF m 42 #[.val (.int xv), .val (.int ((((xv.toUInt32 >>> ((16 : Int32) &&& 31).toUInt32).toInt32) &&& (32767 : Int32)) % (3 : Int32))), .val (.int ((xv &&& (255 : Int32)).toUInt32.toUInt16.toUInt32.toInt32)), .val (.int ((((xv.toUInt32 >>> ((8 : Int32) &&& 31).toUInt32).toInt32) &&& (255 : Int32)).toUInt32.toUInt16.toUInt32.toInt32))] [(.ref b5)]))
      obtain ⟨fs, hr, hrun, hended, hEnd⟩ := X7.leaveW hS7 (Nat.le_refl _) (v := some (.ref b5)) (fun h => by rw [Bd.returns] at h; cases h)
      have c8 := (((lC.ext E5).ext E6).keep K7c (ninS (Nat.ne_of_lt (Nat.lt_of_lt_of_le lE.lt (Nat.le_of_eq z5.symm))) nin0))
      have c9 := (((lV.ext E5).ext E6).keep K7c (ninS (Nat.ne_of_lt (Nat.lt_of_lt_of_le lE.lt (Nat.le_of_eq z5.symm))) nin0))
      have c10 := (((lA.ext E5).ext E6).keep K7c (ninS (Nat.ne_of_lt (Nat.lt_of_lt_of_le lA.lt (Nat.le_of_eq z5.symm))) nin0))
      refine ⟨_, _, ?_, hrun, hended, _, _, rfl, ?_, ⟨hEnd.1, hEnd.2.1, hEnd.2.2.1, hEnd.2.2.2.mono (by decide) (by decide)⟩⟩
      · exact own_retA X7 hx Bd.returns rfl rfl (hb hby d1_42) hr
      · show Q_rmS Z xv p2 h0 n0 _ T7.heap T7.vm _
        exact ⟨b5, rfl, N7, K7, ((A5.ext E6).keep K7c), (Or.inr ⟨la, lb, lk, own_litW vq7_0 X7.warmed, (((lE.ext E5).ext E6).keep K7c), c8, c9, c10⟩)⟩
  · refine Go.st (fun t k => XS.ifYes X0.here hx rfl (pc0 := 29) (pc' := 43) rfl (hb hby d1_29) rfl (Jvm.Free.XT.i0_ne_t hc1) (by decide) (by decide) k) ?_
    show Go p e below _ (s₁.setTop (mkF m 43 #[.val (.int xv), .val (.int ((((xv.toUInt32 >>> ((16 : Int32) &&& 31).toUInt32).toInt32) &&& (32767 : Int32)) % (3 : Int32))), .val (.int ((xv &&& (255 : Int32)).toUInt32.toUInt16.toUInt32.toInt32)), .val (.int ((((xv.toUInt32 >>> ((8 : Int32) &&& 31).toUInt32).toInt32) &&& (255 : Int32)).toUInt32.toUInt16.toUInt32.toInt32))] []))
    refine Go.st (fun t k => XS.iloadN X0.here hx rfl (hb hby d1_43) rfl k) ?_
    show Go p e below _ (s₁.setTop (mkF m 44 #[.val (.int xv), .val (.int ((((xv.toUInt32 >>> ((16 : Int32) &&& 31).toUInt32).toInt32) &&& (32767 : Int32)) % (3 : Int32))), .val (.int ((xv &&& (255 : Int32)).toUInt32.toUInt16.toUInt32.toInt32)), .val (.int ((((xv.toUInt32 >>> ((8 : Int32) &&& 31).toUInt32).toInt32) &&& (255 : Int32)).toUInt32.toUInt16.toUInt32.toInt32))] [(.int ((((xv.toUInt32 >>> ((16 : Int32) &&& 31).toUInt32).toInt32) &&& (32767 : Int32)) % (3 : Int32)))]))
    refine Go.st (fun t k => XS.iconst X0.here hx rfl (hb hby d1_44) k) ?_
    show Go p e below _ (s₁.setTop (mkF m 45 #[.val (.int xv), .val (.int ((((xv.toUInt32 >>> ((16 : Int32) &&& 31).toUInt32).toInt32) &&& (32767 : Int32)) % (3 : Int32))), .val (.int ((xv &&& (255 : Int32)).toUInt32.toUInt16.toUInt32.toInt32)), .val (.int ((((xv.toUInt32 >>> ((8 : Int32) &&& 31).toUInt32).toInt32) &&& (255 : Int32)).toUInt32.toUInt16.toUInt32.toInt32))] [(.int (1 : Int32)), (.int ((((xv.toUInt32 >>> ((16 : Int32) &&& 31).toUInt32).toInt32) &&& (32767 : Int32)) % (3 : Int32)))]))
    by_cases hc11 : ((((xv.toUInt32 >>> ((16 : Int32) &&& 31).toUInt32).toInt32) &&& (32767 : Int32)) % (3 : Int32)) = (1 : Int32)
    · refine Go.st (fun t k => XS.icmpNo X0.here hx rfl (hb hby d1_45) rfl (Jvm.Free.XT.ii_ne_f hc11) k) ?_
      show Go p e below _ (s₁.setTop (mkF m 48 #[.val (.int xv), .val (.int ((((xv.toUInt32 >>> ((16 : Int32) &&& 31).toUInt32).toInt32) &&& (32767 : Int32)) % (3 : Int32))), .val (.int ((xv &&& (255 : Int32)).toUInt32.toUInt16.toUInt32.toInt32)), .val (.int ((((xv.toUInt32 >>> ((8 : Int32) &&& 31).toUInt32).toInt32) &&& (255 : Int32)).toUInt32.toUInt16.toUInt32.toInt32))] []))
      refine Go.st (fun t k => XS.iloadN X0.here hx rfl (hb hby d1_48) rfl k) ?_
      show Go p e below _ (s₁.setTop (mkF m 49 #[.val (.int xv), .val (.int ((((xv.toUInt32 >>> ((16 : Int32) &&& 31).toUInt32).toInt32) &&& (32767 : Int32)) % (3 : Int32))), .val (.int ((xv &&& (255 : Int32)).toUInt32.toUInt16.toUInt32.toInt32)), .val (.int ((((xv.toUInt32 >>> ((8 : Int32) &&& 31).toUInt32).toInt32) &&& (255 : Int32)).toUInt32.toUInt16.toUInt32.toInt32))] [(.int ((xv &&& (255 : Int32)).toUInt32.toUInt16.toUInt32.toInt32))]))
      have hp12 : ¬ ((255 : Int32) < ((xv &&& (255 : Int32)).toUInt32.toUInt16.toUInt32.toInt32)) := by
        have j1 : (255 : Int) ≤ ((255 : Int32)).toInt ∧ ((255 : Int32)).toInt ≤ 255 := ⟨by decide, by decide⟩
        have j2 := own_c32 (xv)
        have j3 := own_maskE32 xv (255 : Int32) 8 256 (by decide) (by decide) (by decide) (by decide)
        have j4 : (0 : Int) ≤ ((xv &&& (255 : Int32))).toInt ∧ ((xv &&& (255 : Int32))).toInt ≤ 255 := j3.2
        have j5 := own_i2cE j4 (by decide)
        have j6 : (0 : Int) ≤ (((xv &&& (255 : Int32)).toUInt32.toUInt16.toUInt32.toInt32)).toInt ∧ (((xv &&& (255 : Int32)).toUInt32.toUInt16.toUInt32.toInt32)).toInt ≤ 255 := j5.2
        exact own_ltF32 j1 j6 (by decide)
      obtain ⟨_, _, ⟨T13, L13, k13, n13⟩, -, X13, ⟨Lc13, hQ13, l13, y13, z13⟩, st13⟩ := Jvm.LawKit.callS X0 hx (y := (⟨"java/lang/String", "valueOf", "(C)Ljava/lang/String;"⟩ : MethodName)) hown (mvT hZ (w175 hw)) (mvT hZ (w176 hw)) (mvT hZ (w6 hw)) (mvT hZ (w177 hw)) (by decide) (backOf (W := 0) (rm27_1 l Z a0 hw [] ((xv &&& (255 : Int32)).toUInt32.toUInt16.toUInt32.toInt32) p2 h0 n0 O0 P3 P4 hp12) hZ (w177 hw) (w6 hw) (by decide) (by decide)) (g := (mkF m 49 #[.val (.int xv), .val (.int ((((xv.toUInt32 >>> ((16 : Int32) &&& 31).toUInt32).toInt32) &&& (32767 : Int32)) % (3 : Int32))), .val (.int ((xv &&& (255 : Int32)).toUInt32.toUInt16.toUInt32.toInt32)), .val (.int ((((xv.toUInt32 >>> ((8 : Int32) &&& 31).toUInt32).toInt32) &&& (255 : Int32)).toUInt32.toUInt16.toUInt32.toInt32))] [(.int ((xv &&& (255 : Int32)).toUInt32.toUInt16.toUInt32.toInt32))])) rfl (by rw [hml]; rfl) (argsL := [(.int ((xv &&& (255 : Int32)).toUInt32.toUInt16.toUInt32.toInt32))]) (rest := []) (lenOf pd_5 rfl) rfl (by show 2 * 0 + _ ≤ _; exact Nat.le_of_eq rfl) (hb hby d1_49) (fun vm₁ hw₁ => ⟨rfl, e0, (by decide : 0 + 2 ≤ _), (by decide : 0 + 5 ≤ _)⟩)
      dsimp only [Pt.U, Pt.locs, Pt.cells, Pt.slots] at X13 l13 y13 z13 st13 hQ13
      subst l13 y13 z13
      obtain ⟨b3_13, b1_4_13, k1_4_13, rfl, M13, K13c, r13_0, r13_1, r13_2, r13_3, r13_4, r13_5, r13_6⟩ := hQ13
      have N13 := Fr.app N0 M13
      have g_b3_13 : n0 ≤ b3_13 := Nat.le_trans (own_n0 O0) r13_0
      have s_b3_13 : h0.size ≤ b3_13 := Nat.le_trans (Keep.refl h0 []).1 r13_0
      have g_b1_4_13 : n0 ≤ b1_4_13 := Nat.le_trans (own_n0 O0) r13_1
      have s_b1_4_13 : h0.size ≤ b1_4_13 := Nat.le_trans (Keep.refl h0 []).1 r13_1
      have O13 : Old Z n0 T13.heap := O0.keep K13c all0
      have K13 : Keep h0 T13.heap [] := (Keep.refl h0 []).trans K13c all0
      refine Go.st st13 ?_
      show Go p e below _ (T13.setTop (mkF m 52 #[.val (.int xv), .val (.int ((((xv.toUInt32 >>> ((16 : Int32) &&& 31).toUInt32).toInt32) &&& (32767 : Int32)) % (3 : Int32))), .val (.int ((xv &&& (255 : Int32)).toUInt32.toUInt16.toUInt32.toInt32)), .val (.int ((((xv.toUInt32 >>> ((8 : Int32) &&& 31).toUInt32).toInt32) &&& (255 : Int32)).toUInt32.toUInt16.toUInt32.toInt32))] [(.ref b3_13)]))
      obtain ⟨fs, hr, hrun, hended, hWd, hsame⟩ := X13.leave (v := some (.ref b3_13)) (fun h => by rw [Bd.returns] at h; cases h)
      refine ⟨_, _, ?_, hrun, hended, _, _, rfl, ?_, (ReturnedEndW.of_narrow ⟨_, rfl⟩ hWd (hsame.mono (by decide) (by decide)))⟩
      · exact own_retA X13 hx Bd.returns rfl rfl (hb hby d1_52) hr
      · show Q_rmS Z xv p2 h0 n0 _ T13.heap T13.vm _
        exact ⟨b3_13, rfl, N13, K13, r13_3, (own_ltK VP1 X13.warmed K13)⟩
    · refine Go.st (fun t k => XS.icmpYes X0.here hx rfl (pc0 := 45) (pc' := 53) rfl (hb hby d1_45) rfl (Jvm.Free.XT.ii_ne_t hc11) (by decide) (by decide) k) ?_
      show Go p e below _ (s₁.setTop (mkF m 53 #[.val (.int xv), .val (.int ((((xv.toUInt32 >>> ((16 : Int32) &&& 31).toUInt32).toInt32) &&& (32767 : Int32)) % (3 : Int32))), .val (.int ((xv &&& (255 : Int32)).toUInt32.toUInt16.toUInt32.toInt32)), .val (.int ((((xv.toUInt32 >>> ((8 : Int32) &&& 31).toUInt32).toInt32) &&& (255 : Int32)).toUInt32.toUInt16.toUInt32.toInt32))] []))
      obtain ⟨T14, h14, X14, e14, E14, A14, D14, -, st14⟩ := newO X0 hx hZ hown (w4 hw) (w5 hw) (w6 hw) e0 (g := (mkF m 53 #[.val (.int xv), .val (.int ((((xv.toUInt32 >>> ((16 : Int32) &&& 31).toUInt32).toInt32) &&& (32767 : Int32)) % (3 : Int32))), .val (.int ((xv &&& (255 : Int32)).toUInt32.toUInt16.toUInt32.toInt32)), .val (.int ((((xv.toUInt32 >>> ((8 : Int32) &&& 31).toUInt32).toInt32) &&& (255 : Int32)).toUInt32.toUInt16.toUInt32.toInt32))] [])) rfl (hb hby d1_53) (by decide) (by decide)
      obtain ⟨b14, z14⟩ : ∃ z, z = h0.size := ⟨_, rfl⟩
      rw [← z14] at A14 D14 st14
      have g_b14 : n0 ≤ b14 := Nat.le_trans (own_n0 O0) (Nat.le_of_eq z14.symm)
      have s_b14 : h0.size ≤ b14 := Nat.le_trans (Keep.refl h0 []).1 (Nat.le_of_eq z14.symm)
      have O14 : Old Z n0 h14 := O0.ext E14
      have K14 : Keep h0 h14 [] := (Keep.refl h0 []).ext E14
      have f14_20 : Fld Z h14 b14 "java/lang/String" "value" "[B" .null := D14 (Or.inr (w20 hw)) (ty := (.array .byte)) (by decide)
      have f14_21 : Fld Z h14 b14 "java/lang/String" "coder" "B" (.int (0 : Int32)) := D14 (Or.inr (w21 hw)) (ty := .byte) (by decide)
      refine Go.st st14 ?_
      show Go p e below _ (T14.setTop (mkF m 56 #[.val (.int xv), .val (.int ((((xv.toUInt32 >>> ((16 : Int32) &&& 31).toUInt32).toInt32) &&& (32767 : Int32)) % (3 : Int32))), .val (.int ((xv &&& (255 : Int32)).toUInt32.toUInt16.toUInt32.toInt32)), .val (.int ((((xv.toUInt32 >>> ((8 : Int32) &&& 31).toUInt32).toInt32) &&& (255 : Int32)).toUInt32.toUInt16.toUInt32.toInt32))] [(.ref b14)]))
      refine Go.st (fun t k => XS.dup X14.here hx rfl (hb hby d1_56) rfl rfl k) ?_
      show Go p e below _ (T14.setTop (mkF m 57 #[.val (.int xv), .val (.int ((((xv.toUInt32 >>> ((16 : Int32) &&& 31).toUInt32).toInt32) &&& (32767 : Int32)) % (3 : Int32))), .val (.int ((xv &&& (255 : Int32)).toUInt32.toUInt16.toUInt32.toInt32)), .val (.int ((((xv.toUInt32 >>> ((8 : Int32) &&& 31).toUInt32).toInt32) &&& (255 : Int32)).toUInt32.toUInt16.toUInt32.toInt32))] [(.ref b14), (.ref b14)]))
      refine Go.st (fun t k => XS.iconst X14.here hx rfl (hb hby d1_57) k) ?_
      show Go p e below _ (T14.setTop (mkF m 58 #[.val (.int xv), .val (.int ((((xv.toUInt32 >>> ((16 : Int32) &&& 31).toUInt32).toInt32) &&& (32767 : Int32)) % (3 : Int32))), .val (.int ((xv &&& (255 : Int32)).toUInt32.toUInt16.toUInt32.toInt32)), .val (.int ((((xv.toUInt32 >>> ((8 : Int32) &&& 31).toUInt32).toInt32) &&& (255 : Int32)).toUInt32.toUInt16.toUInt32.toInt32))] [(.int (2 : Int32)), (.ref b14), (.ref b14)]))
      obtain ⟨T15, h15, k15, X15, e15, E15, A15, st15⟩ := newP X14 hx hZ (aty := .char) (w7 hw) e14 (g := (mkF m 58 #[.val (.int xv), .val (.int ((((xv.toUInt32 >>> ((16 : Int32) &&& 31).toUInt32).toInt32) &&& (32767 : Int32)) % (3 : Int32))), .val (.int ((xv &&& (255 : Int32)).toUInt32.toUInt16.toUInt32.toInt32)), .val (.int ((((xv.toUInt32 >>> ((8 : Int32) &&& 31).toUInt32).toInt32) &&& (255 : Int32)).toUInt32.toUInt16.toUInt32.toInt32))] [(.int (2 : Int32)), (.ref b14), (.ref b14)])) rfl (hb hby d1_58) rfl (by decide) (cap := 2) (by decide) (by decide) (by decide) (by decide)
      obtain ⟨b15, z15⟩ : ∃ z, z = h14.size := ⟨_, rfl⟩
      rw [← z15] at A15 st15
      have g_b15 : n0 ≤ b15 := Nat.le_trans (own_n0 O14) (Nat.le_of_eq z15.symm)
      have s_b15 : h0.size ≤ b15 := Nat.le_trans K14.1 (Nat.le_of_eq z15.symm)
      have V15 : Arv Z h15 b15 k15 .char (2 : Int32) [(.int (0 : Int32)), (.int (0 : Int32))] (.int (0 : Int32)) := (Arv.new A15 (by decide)).pad (pad_rep [] (.int (0 : Int32)) 2)
      have O15 : Old Z n0 h15 := O14.ext E15
      have K15 : Keep h0 h15 [] := K14.ext E15
      refine Go.st st15 ?_
      show Go p e below _ (T15.setTop (mkF m 60 #[.val (.int xv), .val (.int ((((xv.toUInt32 >>> ((16 : Int32) &&& 31).toUInt32).toInt32) &&& (32767 : Int32)) % (3 : Int32))), .val (.int ((xv &&& (255 : Int32)).toUInt32.toUInt16.toUInt32.toInt32)), .val (.int ((((xv.toUInt32 >>> ((8 : Int32) &&& 31).toUInt32).toInt32) &&& (255 : Int32)).toUInt32.toUInt16.toUInt32.toInt32))] [(.ref b15), (.ref b14), (.ref b14)]))
      refine Go.st (fun t k => XS.dup X15.here hx rfl (hb hby d1_60) rfl rfl k) ?_
      show Go p e below _ (T15.setTop (mkF m 61 #[.val (.int xv), .val (.int ((((xv.toUInt32 >>> ((16 : Int32) &&& 31).toUInt32).toInt32) &&& (32767 : Int32)) % (3 : Int32))), .val (.int ((xv &&& (255 : Int32)).toUInt32.toUInt16.toUInt32.toInt32)), .val (.int ((((xv.toUInt32 >>> ((8 : Int32) &&& 31).toUInt32).toInt32) &&& (255 : Int32)).toUInt32.toUInt16.toUInt32.toInt32))] [(.ref b15), (.ref b15), (.ref b14), (.ref b14)]))
      refine Go.st (fun t k => XS.iconst X15.here hx rfl (hb hby d1_61) k) ?_
      show Go p e below _ (T15.setTop (mkF m 62 #[.val (.int xv), .val (.int ((((xv.toUInt32 >>> ((16 : Int32) &&& 31).toUInt32).toInt32) &&& (32767 : Int32)) % (3 : Int32))), .val (.int ((xv &&& (255 : Int32)).toUInt32.toUInt16.toUInt32.toInt32)), .val (.int ((((xv.toUInt32 >>> ((8 : Int32) &&& 31).toUInt32).toInt32) &&& (255 : Int32)).toUInt32.toUInt16.toUInt32.toInt32))] [(.int (0 : Int32)), (.ref b15), (.ref b15), (.ref b14), (.ref b14)]))
      refine Go.st (fun t k => XS.iloadN X15.here hx rfl (hb hby d1_62) rfl k) ?_
      show Go p e below _ (T15.setTop (mkF m 63 #[.val (.int xv), .val (.int ((((xv.toUInt32 >>> ((16 : Int32) &&& 31).toUInt32).toInt32) &&& (32767 : Int32)) % (3 : Int32))), .val (.int ((xv &&& (255 : Int32)).toUInt32.toUInt16.toUInt32.toInt32)), .val (.int ((((xv.toUInt32 >>> ((8 : Int32) &&& 31).toUInt32).toInt32) &&& (255 : Int32)).toUInt32.toUInt16.toUInt32.toInt32))] [(.int ((xv &&& (255 : Int32)).toUInt32.toUInt16.toUInt32.toInt32)), (.int (0 : Int32)), (.ref b15), (.ref b15), (.ref b14), (.ref b14)]))
      obtain ⟨cl16, Ar16, q16, S16, M16, H16, G16⟩ := id V15
      have hin16 : ¬ ((0 : Int32) < 0 ∨ cl16.slots.size ≤ ((0 : Int32)).toNatClampNeg) := inb_of S16 ⟨by decide, by decide⟩
      obtain ⟨T16, h16, X16, e16, W16, st16⟩ := stC X15 hx hZ e15 Ar16 (j := (0 : Int32)) hin16 (g := (mkF m 63 #[.val (.int xv), .val (.int ((((xv.toUInt32 >>> ((16 : Int32) &&& 31).toUInt32).toInt32) &&& (32767 : Int32)) % (3 : Int32))), .val (.int ((xv &&& (255 : Int32)).toUInt32.toUInt16.toUInt32.toInt32)), .val (.int ((((xv.toUInt32 >>> ((8 : Int32) &&& 31).toUInt32).toInt32) &&& (255 : Int32)).toUInt32.toUInt16.toUInt32.toInt32))] [(.int ((xv &&& (255 : Int32)).toUInt32.toUInt16.toUInt32.toInt32)), (.int (0 : Int32)), (.ref b15), (.ref b15), (.ref b14), (.ref b14)])) rfl rfl (hb hby d1_63)
      have V16 : Arv Z h16 b15 k15 .char (2 : Int32) [(.int (((xv &&& (255 : Int32)).toUInt32.toUInt16.toUInt32.toInt32).toUInt32.toUInt16.toUInt32.toInt32)), (.int (0 : Int32))] (.int (0 : Int32)) := Arv.set Ar16 q16 S16 M16 H16 G16 (fits_nar_char _) W16 0 rfl (Nat.le_of_ble_eq_true rfl)
      have N16 := Fr.snoc X16 N0 g_b15
      have O16 : Old Z n0 h16 := O15.wr W16 g_b15
      have K16 : Keep h0 h16 [] := K15.wr W16 (Or.inr s_b15)
      refine Go.st st16 ?_
      show Go p e below _ (T16.setTop (mkF m 64 #[.val (.int xv), .val (.int ((((xv.toUInt32 >>> ((16 : Int32) &&& 31).toUInt32).toInt32) &&& (32767 : Int32)) % (3 : Int32))), .val (.int ((xv &&& (255 : Int32)).toUInt32.toUInt16.toUInt32.toInt32)), .val (.int ((((xv.toUInt32 >>> ((8 : Int32) &&& 31).toUInt32).toInt32) &&& (255 : Int32)).toUInt32.toUInt16.toUInt32.toInt32))] [(.ref b15), (.ref b14), (.ref b14)]))
      refine Go.st (fun t k => XS.dup X16.here hx rfl (hb hby d1_64) rfl rfl k) ?_
      show Go p e below _ (T16.setTop (mkF m 65 #[.val (.int xv), .val (.int ((((xv.toUInt32 >>> ((16 : Int32) &&& 31).toUInt32).toInt32) &&& (32767 : Int32)) % (3 : Int32))), .val (.int ((xv &&& (255 : Int32)).toUInt32.toUInt16.toUInt32.toInt32)), .val (.int ((((xv.toUInt32 >>> ((8 : Int32) &&& 31).toUInt32).toInt32) &&& (255 : Int32)).toUInt32.toUInt16.toUInt32.toInt32))] [(.ref b15), (.ref b15), (.ref b14), (.ref b14)]))
      refine Go.st (fun t k => XS.iconst X16.here hx rfl (hb hby d1_65) k) ?_
      show Go p e below _ (T16.setTop (mkF m 66 #[.val (.int xv), .val (.int ((((xv.toUInt32 >>> ((16 : Int32) &&& 31).toUInt32).toInt32) &&& (32767 : Int32)) % (3 : Int32))), .val (.int ((xv &&& (255 : Int32)).toUInt32.toUInt16.toUInt32.toInt32)), .val (.int ((((xv.toUInt32 >>> ((8 : Int32) &&& 31).toUInt32).toInt32) &&& (255 : Int32)).toUInt32.toUInt16.toUInt32.toInt32))] [(.int (1 : Int32)), (.ref b15), (.ref b15), (.ref b14), (.ref b14)]))
      refine Go.st (fun t k => XS.iloadN X16.here hx rfl (hb hby d1_66) rfl k) ?_
      show Go p e below _ (T16.setTop (mkF m 67 #[.val (.int xv), .val (.int ((((xv.toUInt32 >>> ((16 : Int32) &&& 31).toUInt32).toInt32) &&& (32767 : Int32)) % (3 : Int32))), .val (.int ((xv &&& (255 : Int32)).toUInt32.toUInt16.toUInt32.toInt32)), .val (.int ((((xv.toUInt32 >>> ((8 : Int32) &&& 31).toUInt32).toInt32) &&& (255 : Int32)).toUInt32.toUInt16.toUInt32.toInt32))] [(.int ((((xv.toUInt32 >>> ((8 : Int32) &&& 31).toUInt32).toInt32) &&& (255 : Int32)).toUInt32.toUInt16.toUInt32.toInt32)), (.int (1 : Int32)), (.ref b15), (.ref b15), (.ref b14), (.ref b14)]))
      obtain ⟨cl17, Ar17, q17, S17, M17, H17, G17⟩ := id V16
      have hin17 : ¬ ((1 : Int32) < 0 ∨ cl17.slots.size ≤ ((1 : Int32)).toNatClampNeg) := inb_of S17 ⟨by decide, by decide⟩
      obtain ⟨T17, h17, X17, e17, W17, st17⟩ := stC X16 hx hZ e16 Ar17 (j := (1 : Int32)) hin17 (g := (mkF m 67 #[.val (.int xv), .val (.int ((((xv.toUInt32 >>> ((16 : Int32) &&& 31).toUInt32).toInt32) &&& (32767 : Int32)) % (3 : Int32))), .val (.int ((xv &&& (255 : Int32)).toUInt32.toUInt16.toUInt32.toInt32)), .val (.int ((((xv.toUInt32 >>> ((8 : Int32) &&& 31).toUInt32).toInt32) &&& (255 : Int32)).toUInt32.toUInt16.toUInt32.toInt32))] [(.int ((((xv.toUInt32 >>> ((8 : Int32) &&& 31).toUInt32).toInt32) &&& (255 : Int32)).toUInt32.toUInt16.toUInt32.toInt32)), (.int (1 : Int32)), (.ref b15), (.ref b15), (.ref b14), (.ref b14)])) rfl rfl (hb hby d1_67)
      have V17 : Arv Z h17 b15 k15 .char (2 : Int32) [(.int (((xv &&& (255 : Int32)).toUInt32.toUInt16.toUInt32.toInt32).toUInt32.toUInt16.toUInt32.toInt32)), (.int (((((xv.toUInt32 >>> ((8 : Int32) &&& 31).toUInt32).toInt32) &&& (255 : Int32)).toUInt32.toUInt16.toUInt32.toInt32).toUInt32.toUInt16.toUInt32.toInt32))] (.int (0 : Int32)) := Arv.set Ar17 q17 S17 M17 H17 G17 (fits_nar_char _) W17 1 rfl (Nat.le_of_ble_eq_true rfl)
      have N17 := Fr.snoc X17 N16 g_b15
      have O17 : Old Z n0 h17 := O16.wr W17 g_b15
      have K17 : Keep h0 h17 [] := K16.wr W17 (Or.inr s_b15)
      refine Go.st st17 ?_
      show Go p e below _ (T17.setTop (mkF m 68 #[.val (.int xv), .val (.int ((((xv.toUInt32 >>> ((16 : Int32) &&& 31).toUInt32).toInt32) &&& (32767 : Int32)) % (3 : Int32))), .val (.int ((xv &&& (255 : Int32)).toUInt32.toUInt16.toUInt32.toInt32)), .val (.int ((((xv.toUInt32 >>> ((8 : Int32) &&& 31).toUInt32).toInt32) &&& (255 : Int32)).toUInt32.toUInt16.toUInt32.toInt32))] [(.ref b15), (.ref b14), (.ref b14)]))
      have hp18 : ¬ ((255 : Int32) < (((xv &&& (255 : Int32)).toUInt32.toUInt16.toUInt32.toInt32).toUInt32.toUInt16.toUInt32.toInt32)) := by
        have j1 : (255 : Int) ≤ ((255 : Int32)).toInt ∧ ((255 : Int32)).toInt ≤ 255 := ⟨by decide, by decide⟩
        have j2 := own_c32 (xv)
        have j3 := own_maskE32 xv (255 : Int32) 8 256 (by decide) (by decide) (by decide) (by decide)
        have j4 : (0 : Int) ≤ ((xv &&& (255 : Int32))).toInt ∧ ((xv &&& (255 : Int32))).toInt ≤ 255 := j3.2
        have j5 := own_i2cE j4 (by decide)
        have j6 : (0 : Int) ≤ (((xv &&& (255 : Int32)).toUInt32.toUInt16.toUInt32.toInt32)).toInt ∧ (((xv &&& (255 : Int32)).toUInt32.toUInt16.toUInt32.toInt32)).toInt ≤ 255 := j5.2
        have j7 := own_i2cE j6 (by decide)
        have j8 : (0 : Int) ≤ ((((xv &&& (255 : Int32)).toUInt32.toUInt16.toUInt32.toInt32).toUInt32.toUInt16.toUInt32.toInt32)).toInt ∧ ((((xv &&& (255 : Int32)).toUInt32.toUInt16.toUInt32.toInt32).toUInt32.toUInt16.toUInt32.toInt32)).toInt ≤ 255 := j7.2
        exact own_ltF32 j1 j8 (by decide)
      have hp19 : ¬ ((255 : Int32) < (((((xv.toUInt32 >>> ((8 : Int32) &&& 31).toUInt32).toInt32) &&& (255 : Int32)).toUInt32.toUInt16.toUInt32.toInt32).toUInt32.toUInt16.toUInt32.toInt32)) := by
        have j1 : (255 : Int) ≤ ((255 : Int32)).toInt ∧ ((255 : Int32)).toInt ≤ 255 := ⟨by decide, by decide⟩
        have j2 := own_c32 (xv)
        have j3 := own_iushr xv (8 : Int32) 8 256 (by decide) (by decide) (by decide)
        have j4 : (0 : Int) ≤ (((xv.toUInt32 >>> ((8 : Int32) &&& 31).toUInt32).toInt32)).toInt ∧ (((xv.toUInt32 >>> ((8 : Int32) &&& 31).toUInt32).toInt32)).toInt ≤ 16777215 := by constructor <;> omega
        have j5 := own_maskE32 ((xv.toUInt32 >>> ((8 : Int32) &&& 31).toUInt32).toInt32) (255 : Int32) 8 256 (by decide) (by decide) (by decide) (by decide)
        have j6 : (0 : Int) ≤ ((((xv.toUInt32 >>> ((8 : Int32) &&& 31).toUInt32).toInt32) &&& (255 : Int32))).toInt ∧ ((((xv.toUInt32 >>> ((8 : Int32) &&& 31).toUInt32).toInt32) &&& (255 : Int32))).toInt ≤ 255 := j5.2
        have j7 := own_i2cE j6 (by decide)
        have j8 : (0 : Int) ≤ (((((xv.toUInt32 >>> ((8 : Int32) &&& 31).toUInt32).toInt32) &&& (255 : Int32)).toUInt32.toUInt16.toUInt32.toInt32)).toInt ∧ (((((xv.toUInt32 >>> ((8 : Int32) &&& 31).toUInt32).toInt32) &&& (255 : Int32)).toUInt32.toUInt16.toUInt32.toInt32)).toInt ≤ 255 := j7.2
        have j9 := own_i2cE j8 (by decide)
        have j10 : (0 : Int) ≤ ((((((xv.toUInt32 >>> ((8 : Int32) &&& 31).toUInt32).toInt32) &&& (255 : Int32)).toUInt32.toUInt16.toUInt32.toInt32).toUInt32.toUInt16.toUInt32.toInt32)).toInt ∧ ((((((xv.toUInt32 >>> ((8 : Int32) &&& 31).toUInt32).toInt32) &&& (255 : Int32)).toUInt32.toUInt16.toUInt32.toInt32).toUInt32.toUInt16.toUInt32.toInt32)).toInt ≤ 255 := j9.2
        exact own_ltF32 j1 j10 (by decide)
      have c20 := (((f14_21.ext E15).other W16 (Or.inl (Nat.ne_of_lt (Nat.lt_of_lt_of_le A14.lt (Nat.le_of_eq z15.symm))))).other W17 (Or.inl (Nat.ne_of_lt (Nat.lt_of_lt_of_le A14.lt (Nat.le_of_eq z15.symm)))))
      have c21 := (((f14_20.ext E15).other W16 (Or.inl (Nat.ne_of_lt (Nat.lt_of_lt_of_le A14.lt (Nat.le_of_eq z15.symm))))).other W17 (Or.inl (Nat.ne_of_lt (Nat.lt_of_lt_of_le A14.lt (Nat.le_of_eq z15.symm)))))
      obtain ⟨_, _, ⟨T22, L22, k22, n22⟩, -, X22, ⟨Lc22, hQ22, l22, y22, z22⟩, st22⟩ := X17.specialBack hx (y := (⟨"java/lang/String", "<init>", "([C)V"⟩ : MethodName)) rfl hown (mvT hZ (w8 hw)) (mvT hZ (w9 hw)) (mvT hZ (w10 hw)) (by decide) (backOf (W := 1) (rm2_3 l Z a0 hw [] b14 b15 k15 (((xv &&& (255 : Int32)).toUInt32.toUInt16.toUInt32.toInt32).toUInt32.toUInt16.toUInt32.toInt32) (((((xv.toUInt32 >>> ((8 : Int32) &&& 31).toUInt32).toInt32) &&& (255 : Int32)).toUInt32.toUInt16.toUInt32.toInt32).toUInt32.toUInt16.toUInt32.toInt32) p2 h17 n0 O17 V17 P3 P4 hp18 hp19 (((A14.ext E15).wr W16).wr W17) c20 g_b14 c21) hZ (w10 hw) (w6 hw) (by decide) (by decide)) (g := (mkF m 68 #[.val (.int xv), .val (.int ((((xv.toUInt32 >>> ((16 : Int32) &&& 31).toUInt32).toInt32) &&& (32767 : Int32)) % (3 : Int32))), .val (.int ((xv &&& (255 : Int32)).toUInt32.toUInt16.toUInt32.toInt32)), .val (.int ((((xv.toUInt32 >>> ((8 : Int32) &&& 31).toUInt32).toInt32) &&& (255 : Int32)).toUInt32.toUInt16.toUInt32.toInt32))] [(.ref b15), (.ref b14), (.ref b14)])) rfl (by rw [hml]; rfl) (Steps.refl _) (a := b14) (argsL := [(.ref b15)]) (rest := [(.ref b14)]) (lenOf pd_1 rfl) rfl (by show 2 * 0 + _ ≤ _; exact Nat.le_of_eq rfl) (hb hby d1_68) (fun vm₁ hw₁ => ⟨rfl, e17, (by decide : 2 + 1 ≤ _), (by decide : 6 + 2 ≤ _)⟩)
      dsimp only [Pt.U, Pt.locs, Pt.cells, Pt.slots] at X22 l22 y22 z22 st22 hQ22
      subst l22 y22 z22
      obtain ⟨b1_3_2_22, k1_3_2_22, rfl, M22, K22c, r22_0, r22_1, r22_2, r22_3⟩ := hQ22
      have N22 := Fr.app N17 M22
      have g_b1_3_2_22 : n0 ≤ b1_3_2_22 := Nat.le_trans (own_n0 O17) r22_0
      have s_b1_3_2_22 : h0.size ≤ b1_3_2_22 := Nat.le_trans K17.1 r22_0
      have O22 : Old Z n0 T22.heap := O17.keep K22c (allS g_b14 all0)
      have K22 : Keep h0 T22.heap [] := K17.trans K22c (allS (Or.inr s_b14) all0)
      refine Go.tr st22 ?_
      show Go p e below _ (T22.setTop (mkF m 71 #[.val (.int xv), .val (.int ((((xv.toUInt32 >>> ((16 : Int32) &&& 31).toUInt32).toInt32) &&& (32767 : Int32)) % (3 : Int32))), .val (.int ((xv &&& (255 : Int32)).toUInt32.toUInt16.toUInt32.toInt32)), .val (.int ((((xv.toUInt32 >>> ((8 : Int32) &&& 31).toUInt32).toInt32) &&& (255 : Int32)).toUInt32.toUInt16.toUInt32.toInt32))] [(.ref b14)]))
      obtain ⟨fs, hr, hrun, hended, hWd, hsame⟩ := X22.leave (v := some (.ref b14)) (fun h => by rw [Bd.returns] at h; cases h)
      have c23 := ((((A14.ext E15).wr W16).wr W17).keep K22c)
      refine ⟨_, _, ?_, hrun, hended, _, _, rfl, ?_, (ReturnedEndW.of_narrow ⟨_, rfl⟩ hWd (hsame.mono (by decide) (by decide)))⟩
      · exact own_retA X22 hx Bd.returns rfl rfl (hb hby d1_71) hr
      · show Q_rmS Z xv p2 h0 n0 _ T22.heap T22.vm _
        exact ⟨b14, rfl, N22, K22, c23, (own_ltK VP1 X22.warmed K22)⟩
def Q_rm5_1 (Z : State) (a1 : Addr) (p2 : Int32) (a3 : Addr) (a4 : Addr) (a5 : Addr) (h0 : Heap) (n0 : Nat) (v : Option Value) (h : Heap) (L : List Loc) : Prop := v = none ∧ Fr n0 L ∧ Keep h0 h [a1] ∧ Fld Z h a1 "com/example/cropmark/cropmark/Row" "line" "I" (.int p2) ∧ Fld Z h a1 "com/example/cropmark/cropmark/Row" "columns" "Ljava/util/Map;" .null ∧ Fld Z h a1 "com/example/cropmark/cropmark/Row" "bytes" "[B" (.ref a3) ∧ Fld Z h a1 "com/example/cropmark/cropmark/Row" "starts" "[I" (.ref a4) ∧ Fld Z h a1 "com/example/cropmark/cropmark/Row" "ends" "[I" (.ref a5) ∧ Fld Z h a1 "com/example/cropmark/cropmark/Row" "problems" "Ljava/util/List;" .null
set_option maxRecDepth 65536 in
set_option maxHeartbeats 40000000 in
theorem rm5_1 (l : Launch) (Z : State) (a0 : Array Value) (hw : ∀ d ∈ tables_1, d.before a0 Z = true) (ws : List Jvm.Cond) (a1 : Addr) (p2 : Int32) (a3 : Addr) (a4 : Addr) (a5 : Addr) (h0 : Heap) (n0 : Nat) (O0 : Old Z n0 h0) (P1 : Exa Z h0 a1 "com/example/cropmark/cropmark/Row") (P2 : Fld Z h0 a1 "com/example/cropmark/cropmark/Row" "line" "I" (.int (0 : Int32))) (P3 : n0 ≤ a1) (P4 : Fld Z h0 a1 "com/example/cropmark/cropmark/Row" "columns" "Ljava/util/Map;" .null) (P5 : Fld Z h0 a1 "com/example/cropmark/cropmark/Row" "bytes" "[B" .null) (P6 : Fld Z h0 a1 "com/example/cropmark/cropmark/Row" "starts" "[I" .null) (P7 : Fld Z h0 a1 "com/example/cropmark/cropmark/Row" "ends" "[I" .null) (P8 : Fld Z h0 a1 "com/example/cropmark/cropmark/Row" "problems" "Ljava/util/List;" .null) :
    MetFree l (⟨"com/example/cropmark/cropmark/Row", "<init>", "(ILjava/util/Map;[B[I[I)V"⟩ : MethodName) (head1 (Jvm.Cond.code (⟨"com/example/cropmark/cropmark/Row", "<init>", "(ILjava/util/Map;[B[I[I)V"⟩ : MethodName) prog_67_method_2_code 6 none :: ws) ({ frames := 1, cells := 0, slots := 0, locals := 12 } : Room)) (fun a U => a = #[(.ref a1), (.int p2), .null, (.ref a3), (.ref a4), (.ref a5)] ∧ Z.Warmed39 U.vm ∧ U.heap = h0) (fun _ _ _ _ _ => True) (fun _ U o U' => ∃ v L, o = .returned v ∧ Q_rm5_1 Z a1 p2 a3 a4 a5 h0 n0 v U'.heap L ∧ FrameEnd U o U' L ({ frames := 1, cells := 0, slots := 0, locals := 12 } : Room).cells ({ frames := 1, cells := 0, slots := 0, locals := 12 } : Room).slots) := by
  refine MetFree.of_bodySF (plainFor_of_name pn_4) hisR ?_
  intro p e s m args below meth c s₁ Bd hml0 hP hK
  obtain ⟨rfl, hZ, hh⟩ := hP
  have hx := Bd.exec
  have hby := Bd.bytes
  have hml : c.maxLocals = 6 := hml0
  have hown : s.vm.findClass "com/example/cropmark/cropmark/Row" = some m.cls := findClass_of_methodNamed Bd.named
  have hnm := (name_of_methodNamed Bd.named Bd.method).1
  have X0 : Stand p l e ({ frames := 1, cells := 0, slots := 0, locals := 12 } : Room) s m #[(.ref a1), (.int p2), .null, (.ref a3), (.ref a4), (.ref a5)] below meth c s₁ [] 0 0 := Stand.of_body Bd
  have e0 : s₁.heap = h0 := by rw [← hh, Bd.state]; rfl
  have N0 := Fr.nil n0
  refine Go.start (P := (fun o U' => ∃ v L, o = .returned v ∧ Q_rm5_1 Z a1 p2 a3 a4 a5 h0 n0 v U'.heap L ∧ FrameEnd s o U' L ({ frames := 1, cells := 0, slots := 0, locals := 12 } : Room).cells ({ frames := 1, cells := 0, slots := 0, locals := 12 } : Room).slots)) (castTop (g' := (mkF m 0 #[.val (.ref a1), .val (.int p2), .val .null, .val (.ref a3), .val (.ref a4), .val (.ref a5)] [])) (by first | rfl | simp [entryFrame, mkF, argsToLocals, Value.category]) (T := s₁)) ?_
  refine Go.st (fun t k => XS.aloadN X0.here hx rfl (hb hby d5_0) rfl rfl k) ?_
  show Go p e below _ (s₁.setTop (mkF m 1 #[.val (.ref a1), .val (.int p2), .val .null, .val (.ref a3), .val (.ref a4), .val (.ref a5)] [(.ref a1)]))
  obtain ⟨T1, X1, e1, st1⟩ := initO X0 hx hZ hown (w33 hw) (w16 hw) (w17 hw) e0 (g := (mkF m 1 #[.val (.ref a1), .val (.int p2), .val .null, .val (.ref a3), .val (.ref a4), .val (.ref a5)] [(.ref a1)])) rfl (by rw [hml]; rfl) rfl (hb hby d5_1) (by decide) (W := 0) (by show 2 * 0 + _ ≤ _; exact Nat.le_of_eq rfl) (by decide)
  refine Go.st st1 ?_
  show Go p e below _ (T1.setTop (mkF m 4 #[.val (.ref a1), .val (.int p2), .val .null, .val (.ref a3), .val (.ref a4), .val (.ref a5)] []))
  refine Go.st (fun t k => XS.aloadN X1.here hx rfl (hb hby d5_4) rfl rfl k) ?_
  show Go p e below _ (T1.setTop (mkF m 5 #[.val (.ref a1), .val (.int p2), .val .null, .val (.ref a3), .val (.ref a4), .val (.ref a5)] [(.ref a1)]))
  refine Go.st (fun t k => XS.iloadN X1.here hx rfl (hb hby d5_5) rfl k) ?_
  show Go p e below _ (T1.setTop (mkF m 6 #[.val (.ref a1), .val (.int p2), .val .null, .val (.ref a3), .val (.ref a4), .val (.ref a5)] [(.int p2), (.ref a1)]))
  obtain ⟨T2, h2, X2, e2, W2, st2⟩ := putF X1 hx hZ hown (host := "") (Or.inl (w34 hw)) Via.refl e1 P2 P1 (Or.inr ⟨(w35 hw), rfl, hnm⟩) (w27 hw) (ty := .int) (by decide) rfl rfl (g := (mkF m 6 #[.val (.ref a1), .val (.int p2), .val .null, .val (.ref a3), .val (.ref a4), .val (.ref a5)] [(.int p2), (.ref a1)])) rfl rfl (hb hby d5_6)
  have F2 : Fld Z h2 a1 "com/example/cropmark/cropmark/Row" "line" "I" (.int p2) := P2.same W2
  have N2 := Fr.snoc X2 N0 P3
  have O2 : Old Z n0 h2 := O0.wr W2 P3
  have K2 : Keep h0 h2 [a1] := (Keep.refl h0 [a1]).wr W2 (Or.inl (List.mem_of_getElem? (i := 0) rfl))
  refine Go.st st2 ?_
  show Go p e below _ (T2.setTop (mkF m 9 #[.val (.ref a1), .val (.int p2), .val .null, .val (.ref a3), .val (.ref a4), .val (.ref a5)] []))
  refine Go.st (fun t k => XS.aloadN X2.here hx rfl (hb hby d5_9) rfl rfl k) ?_
  show Go p e below _ (T2.setTop (mkF m 10 #[.val (.ref a1), .val (.int p2), .val .null, .val (.ref a3), .val (.ref a4), .val (.ref a5)] [(.ref a1)]))
  refine Go.st (fun t k => XS.aloadN X2.here hx rfl (hb hby d5_10) rfl rfl k) ?_
  show Go p e below _ (T2.setTop (mkF m 11 #[.val (.ref a1), .val (.int p2), .val .null, .val (.ref a3), .val (.ref a4), .val (.ref a5)] [.null, (.ref a1)]))
  have c3 := (P4.other W2 (Or.inr (slot_ne (Or.inr (w37 hw)) (Or.inr (w35 hw)) (by decide) (t := (.object "java/util/Map")) (t' := .int) (by decide) (by decide))))
  obtain ⟨T4, h4, X4, e4, W4, st4⟩ := putF X2 hx hZ hown (host := "") (Or.inl (w36 hw)) Via.refl e2 c3 (P1.wr W2) (Or.inr ⟨(w37 hw), rfl, hnm⟩) (w27 hw) (ty := (.object "java/util/Map")) (by decide) rfl rfl (g := (mkF m 11 #[.val (.ref a1), .val (.int p2), .val .null, .val (.ref a3), .val (.ref a4), .val (.ref a5)] [.null, (.ref a1)])) rfl rfl (hb hby d5_11)
  have F4 : Fld Z h4 a1 "com/example/cropmark/cropmark/Row" "columns" "Ljava/util/Map;" .null := c3.same W4
  have N4 := Fr.snoc X4 N2 P3
  have O4 : Old Z n0 h4 := O2.wr W4 P3
  have K4 : Keep h0 h4 [a1] := K2.wr W4 (Or.inl (List.mem_of_getElem? (i := 0) rfl))
  refine Go.st st4 ?_
  show Go p e below _ (T4.setTop (mkF m 14 #[.val (.ref a1), .val (.int p2), .val .null, .val (.ref a3), .val (.ref a4), .val (.ref a5)] []))
  refine Go.st (fun t k => XS.aloadN X4.here hx rfl (hb hby d5_14) rfl rfl k) ?_
  show Go p e below _ (T4.setTop (mkF m 15 #[.val (.ref a1), .val (.int p2), .val .null, .val (.ref a3), .val (.ref a4), .val (.ref a5)] [(.ref a1)]))
  refine Go.st (fun t k => XS.aloadN X4.here hx rfl (hb hby d5_15) rfl rfl k) ?_
  show Go p e below _ (T4.setTop (mkF m 16 #[.val (.ref a1), .val (.int p2), .val .null, .val (.ref a3), .val (.ref a4), .val (.ref a5)] [(.ref a3), (.ref a1)]))
  have c5 := ((P5.other W2 (Or.inr (slot_ne (Or.inr (w39 hw)) (Or.inr (w35 hw)) (by decide) (t := (.array .byte)) (t' := .int) (by decide) (by decide)))).other W4 (Or.inr (slot_ne (Or.inr (w39 hw)) (Or.inr (w37 hw)) (by decide) (t := (.array .byte)) (t' := (.object "java/util/Map")) (by decide) (by decide))))
  obtain ⟨T6, h6, X6, e6, W6, st6⟩ := putF X4 hx hZ hown (host := "") (Or.inl (w38 hw)) Via.refl e4 c5 ((P1.wr W2).wr W4) (Or.inr ⟨(w39 hw), rfl, hnm⟩) (w27 hw) (ty := (.array .byte)) (by decide) rfl rfl (g := (mkF m 16 #[.val (.ref a1), .val (.int p2), .val .null, .val (.ref a3), .val (.ref a4), .val (.ref a5)] [(.ref a3), (.ref a1)])) rfl rfl (hb hby d5_16)
  have F6 : Fld Z h6 a1 "com/example/cropmark/cropmark/Row" "bytes" "[B" (.ref a3) := c5.same W6
  have N6 := Fr.snoc X6 N4 P3
  have O6 : Old Z n0 h6 := O4.wr W6 P3
  have K6 : Keep h0 h6 [a1] := K4.wr W6 (Or.inl (List.mem_of_getElem? (i := 0) rfl))
  refine Go.st st6 ?_
  show Go p e below _ (T6.setTop (mkF m 19 #[.val (.ref a1), .val (.int p2), .val .null, .val (.ref a3), .val (.ref a4), .val (.ref a5)] []))
  refine Go.st (fun t k => XS.aloadN X6.here hx rfl (hb hby d5_19) rfl rfl k) ?_
  show Go p e below _ (T6.setTop (mkF m 20 #[.val (.ref a1), .val (.int p2), .val .null, .val (.ref a3), .val (.ref a4), .val (.ref a5)] [(.ref a1)]))
  refine Go.st (fun t k => XS.aload X6.here hx rfl (hb hby d5_20) rfl rfl k) ?_
  show Go p e below _ (T6.setTop (mkF m 22 #[.val (.ref a1), .val (.int p2), .val .null, .val (.ref a3), .val (.ref a4), .val (.ref a5)] [(.ref a4), (.ref a1)]))
  have c7 := (((P6.other W2 (Or.inr (slot_ne (Or.inr (w41 hw)) (Or.inr (w35 hw)) (by decide) (t := (.array .int)) (t' := .int) (by decide) (by decide)))).other W4 (Or.inr (slot_ne (Or.inr (w41 hw)) (Or.inr (w37 hw)) (by decide) (t := (.array .int)) (t' := (.object "java/util/Map")) (by decide) (by decide)))).other W6 (Or.inr (slot_ne (Or.inr (w41 hw)) (Or.inr (w39 hw)) (by decide) (t := (.array .int)) (t' := (.array .byte)) (by decide) (by decide))))
  obtain ⟨T8, h8, X8, e8, W8, st8⟩ := putF X6 hx hZ hown (host := "") (Or.inl (w40 hw)) Via.refl e6 c7 (((P1.wr W2).wr W4).wr W6) (Or.inr ⟨(w41 hw), rfl, hnm⟩) (w27 hw) (ty := (.array .int)) (by decide) rfl rfl (g := (mkF m 22 #[.val (.ref a1), .val (.int p2), .val .null, .val (.ref a3), .val (.ref a4), .val (.ref a5)] [(.ref a4), (.ref a1)])) rfl rfl (hb hby d5_22)
  have F8 : Fld Z h8 a1 "com/example/cropmark/cropmark/Row" "starts" "[I" (.ref a4) := c7.same W8
  have N8 := Fr.snoc X8 N6 P3
  have O8 : Old Z n0 h8 := O6.wr W8 P3
  have K8 : Keep h0 h8 [a1] := K6.wr W8 (Or.inl (List.mem_of_getElem? (i := 0) rfl))
  refine Go.st st8 ?_
  show Go p e below _ (T8.setTop (mkF m 25 #[.val (.ref a1), .val (.int p2), .val .null, .val (.ref a3), .val (.ref a4), .val (.ref a5)] []))
  refine Go.st (fun t k => XS.aloadN X8.here hx rfl (hb hby d5_25) rfl rfl k) ?_
  show Go p e below _ (T8.setTop (mkF m 26 #[.val (.ref a1), .val (.int p2), .val .null, .val (.ref a3), .val (.ref a4), .val (.ref a5)] [(.ref a1)]))
  refine Go.st (fun t k => XS.aload X8.here hx rfl (hb hby d5_26) rfl rfl k) ?_
  show Go p e below _ (T8.setTop (mkF m 28 #[.val (.ref a1), .val (.int p2), .val .null, .val (.ref a3), .val (.ref a4), .val (.ref a5)] [(.ref a5), (.ref a1)]))
  have c9 := ((((P7.other W2 (Or.inr (slot_ne (Or.inr (w43 hw)) (Or.inr (w35 hw)) (by decide) (t := (.array .int)) (t' := .int) (by decide) (by decide)))).other W4 (Or.inr (slot_ne (Or.inr (w43 hw)) (Or.inr (w37 hw)) (by decide) (t := (.array .int)) (t' := (.object "java/util/Map")) (by decide) (by decide)))).other W6 (Or.inr (slot_ne (Or.inr (w43 hw)) (Or.inr (w39 hw)) (by decide) (t := (.array .int)) (t' := (.array .byte)) (by decide) (by decide)))).other W8 (Or.inr (slot_ne (Or.inr (w43 hw)) (Or.inr (w41 hw)) (by decide) (t := (.array .int)) (t' := (.array .int)) (by decide) (by decide))))
  obtain ⟨T10, h10, X10, e10, W10, st10⟩ := putF X8 hx hZ hown (host := "") (Or.inl (w42 hw)) Via.refl e8 c9 ((((P1.wr W2).wr W4).wr W6).wr W8) (Or.inr ⟨(w43 hw), rfl, hnm⟩) (w27 hw) (ty := (.array .int)) (by decide) rfl rfl (g := (mkF m 28 #[.val (.ref a1), .val (.int p2), .val .null, .val (.ref a3), .val (.ref a4), .val (.ref a5)] [(.ref a5), (.ref a1)])) rfl rfl (hb hby d5_28)
  have F10 : Fld Z h10 a1 "com/example/cropmark/cropmark/Row" "ends" "[I" (.ref a5) := c9.same W10
  have N10 := Fr.snoc X10 N8 P3
  have O10 : Old Z n0 h10 := O8.wr W10 P3
  have K10 : Keep h0 h10 [a1] := K8.wr W10 (Or.inl (List.mem_of_getElem? (i := 0) rfl))
  refine Go.st st10 ?_
  show Go p e below _ (T10.setTop (mkF m 31 #[.val (.ref a1), .val (.int p2), .val .null, .val (.ref a3), .val (.ref a4), .val (.ref a5)] []))
  obtain ⟨fs, hr, hrun, hended, hWd, hsame⟩ := X10.leave (v := none) (fun _ => rfl)
  have c11 := ((((F2.other W4 (Or.inr (slot_ne (Or.inr (w35 hw)) (Or.inr (w37 hw)) (by decide) (t := .int) (t' := (.object "java/util/Map")) (by decide) (by decide)))).other W6 (Or.inr (slot_ne (Or.inr (w35 hw)) (Or.inr (w39 hw)) (by decide) (t := .int) (t' := (.array .byte)) (by decide) (by decide)))).other W8 (Or.inr (slot_ne (Or.inr (w35 hw)) (Or.inr (w41 hw)) (by decide) (t := .int) (t' := (.array .int)) (by decide) (by decide)))).other W10 (Or.inr (slot_ne (Or.inr (w35 hw)) (Or.inr (w43 hw)) (by decide) (t := .int) (t' := (.array .int)) (by decide) (by decide))))
  have c12 := (((F4.other W6 (Or.inr (slot_ne (Or.inr (w37 hw)) (Or.inr (w39 hw)) (by decide) (t := (.object "java/util/Map")) (t' := (.array .byte)) (by decide) (by decide)))).other W8 (Or.inr (slot_ne (Or.inr (w37 hw)) (Or.inr (w41 hw)) (by decide) (t := (.object "java/util/Map")) (t' := (.array .int)) (by decide) (by decide)))).other W10 (Or.inr (slot_ne (Or.inr (w37 hw)) (Or.inr (w43 hw)) (by decide) (t := (.object "java/util/Map")) (t' := (.array .int)) (by decide) (by decide))))
  have c13 := ((F6.other W8 (Or.inr (slot_ne (Or.inr (w39 hw)) (Or.inr (w41 hw)) (by decide) (t := (.array .byte)) (t' := (.array .int)) (by decide) (by decide)))).other W10 (Or.inr (slot_ne (Or.inr (w39 hw)) (Or.inr (w43 hw)) (by decide) (t := (.array .byte)) (t' := (.array .int)) (by decide) (by decide))))
  have c14 := (F8.other W10 (Or.inr (slot_ne (Or.inr (w41 hw)) (Or.inr (w43 hw)) (by decide) (t := (.array .int)) (t' := (.array .int)) (by decide) (by decide))))
  have c15 := (((((P8.other W2 (Or.inr (slot_ne (Or.inl (w50 hw)) (Or.inr (w35 hw)) (by decide) (t := (.object "java/util/List")) (t' := .int) (by decide) (by decide)))).other W4 (Or.inr (slot_ne (Or.inl (w50 hw)) (Or.inr (w37 hw)) (by decide) (t := (.object "java/util/List")) (t' := (.object "java/util/Map")) (by decide) (by decide)))).other W6 (Or.inr (slot_ne (Or.inl (w50 hw)) (Or.inr (w39 hw)) (by decide) (t := (.object "java/util/List")) (t' := (.array .byte)) (by decide) (by decide)))).other W8 (Or.inr (slot_ne (Or.inl (w50 hw)) (Or.inr (w41 hw)) (by decide) (t := (.object "java/util/List")) (t' := (.array .int)) (by decide) (by decide)))).other W10 (Or.inr (slot_ne (Or.inl (w50 hw)) (Or.inr (w43 hw)) (by decide) (t := (.object "java/util/List")) (t' := (.array .int)) (by decide) (by decide))))
  refine ⟨_, _, ?_, hrun, hended, _, _, rfl, ?_, ⟨⟨_, rfl⟩, hWd, hsame.mono (by decide) (by decide)⟩⟩
  · exact X10.returnOut hx Bd.returns (hb hby d5_31) hr
  · show Q_rm5_1 Z a1 p2 a3 a4 a5 h0 n0 _ T10.heap _
    rw [e10]
    exact ⟨rfl, N10, K10, c11, c12, c13, c14, F10, c15⟩
def Q_rm7_1 (Z : State) (a1 : Addr) (h0 : Heap) (n0 : Nat) (v : Option Value) (h : Heap) (L : List Loc) : Prop := v = some (.ref a1) ∧ Fr n0 L ∧ h = h0
set_option maxRecDepth 65536 in
set_option maxHeartbeats 40000000 in
theorem rm7_1 (l : Launch) (Z : State) (a0 : Array Value) (hw : ∀ d ∈ tables_1, d.before a0 Z = true) (ws : List Jvm.Cond) (a1 : Addr) (h0 : Heap) (n0 : Nat) (O0 : Old Z n0 h0) (P1 : Sta Z Z.heap "java/util/ImmutableCollections" "EMPTY_LIST" "Ljava/util/ImmutableCollections$ListN;" (.ref a1)) :
    MetFree l (⟨"java/util/List", "of", "()Ljava/util/List;"⟩ : MethodName) (head1 (Jvm.Cond.code (⟨"java/util/List", "of", "()Ljava/util/List;"⟩ : MethodName) jdk_40_method_36_code 0 (some (.object "java/util/List")) :: ws) ({ frames := 0, cells := 0, slots := 0, locals := 0 } : Room)) (fun a U => a = #[] ∧ Z.Warmed39 U.vm ∧ U.heap = h0) (fun _ _ _ _ _ => True) (fun _ U o U' => ∃ v L, o = .returned v ∧ Q_rm7_1 Z a1 h0 n0 v U'.heap L ∧ FrameEnd U o U' L ({ frames := 0, cells := 0, slots := 0, locals := 0 } : Room).cells ({ frames := 0, cells := 0, slots := 0, locals := 0 } : Room).slots) := by
  refine MetFree.of_bodySF (plainFor_of_name pn_5) hisR ?_
  intro p e s m args below meth c s₁ Bd hml0 hP hK
  obtain ⟨rfl, hZ, hh⟩ := hP
  have hx := Bd.exec
  have hby := Bd.bytes
  have hml : c.maxLocals = 0 := hml0
  have hown : s.vm.findClass "java/util/List" = some m.cls := findClass_of_methodNamed Bd.named
  have hnm := (name_of_methodNamed Bd.named Bd.method).1
  have X0 : Stand p l e ({ frames := 0, cells := 0, slots := 0, locals := 0 } : Room) s m #[] below meth c s₁ [] 0 0 := Stand.of_body Bd
  have e0 : s₁.heap = h0 := by rw [← hh, Bd.state]; rfl
  have N0 := Fr.nil n0
  refine Go.start (P := (fun o U' => ∃ v L, o = .returned v ∧ Q_rm7_1 Z a1 h0 n0 v U'.heap L ∧ FrameEnd s o U' L ({ frames := 0, cells := 0, slots := 0, locals := 0 } : Room).cells ({ frames := 0, cells := 0, slots := 0, locals := 0 } : Room).slots)) (castTop (g' := (mkF m 0 #[] [])) (by first | rfl | simp [entryFrame, mkF, argsToLocals, Value.category]) (T := s₁)) ?_
  obtain ⟨T1, X1, e1, st1⟩ := getS2 X0 hx hZ hown (host := "") (Or.inl (w55 hw)) Via.refl e0 (P1.ext O0.2) (g := (mkF m 0 #[] [])) rfl (hb hby d7_0)
  refine Go.st st1 ?_
  show Go p e below _ (T1.setTop (mkF m 3 #[] [(.ref a1)]))
  obtain ⟨fs, hr, hrun, hended, hWd, hsame⟩ := X1.leave (v := some (.ref a1)) (fun h => by rw [Bd.returns] at h; cases h)
  refine ⟨_, _, ?_, hrun, hended, _, _, rfl, ?_, ⟨⟨_, rfl⟩, hWd, hsame.mono (by decide) (by decide)⟩⟩
  · exact own_retA X1 hx Bd.returns rfl rfl (hb hby d7_3) hr
  · show Q_rm7_1 Z a1 h0 n0 _ T1.heap _
    rw [e1]
    exact ⟨rfl, N0, rfl⟩
def Q_rm6_1 (Z : State) (a1 : Addr) (a2 : Addr) (h0 : Heap) (n0 : Nat) (v : Option Value) (h : Heap) (L : List Loc) : Prop := v = some (.ref a2) ∧ Fr n0 L ∧ h = h0
set_option maxRecDepth 65536 in
set_option maxHeartbeats 40000000 in
theorem rm6_1 (l : Launch) (Z : State) (a0 : Array Value) (hw : ∀ d ∈ tables_1, d.before a0 Z = true) (ws : List Jvm.Cond) (a1 : Addr) (a2 : Addr) (h0 : Heap) (n0 : Nat) (O0 : Old Z n0 h0) (P1 : Fld Z h0 a1 "com/example/cropmark/cropmark/Row" "problems" "Ljava/util/List;" .null) (P2 : Sta Z Z.heap "java/util/ImmutableCollections" "EMPTY_LIST" "Ljava/util/ImmutableCollections$ListN;" (.ref a2)) :
    MetFree l (⟨"com/example/cropmark/cropmark/Row", "problems", "()Ljava/util/List;"⟩ : MethodName) (head1 (Jvm.Cond.code (⟨"com/example/cropmark/cropmark/Row", "problems", "()Ljava/util/List;"⟩ : MethodName) prog_67_method_19_code 1 (some (.object "java/util/List")) :: ws) ({ frames := 1, cells := 0, slots := 0, locals := 11 } : Room)) (fun a U => a = #[(.ref a1)] ∧ Z.Warmed39 U.vm ∧ U.heap = h0) (fun _ _ _ _ _ => True) (fun _ U o U' => ∃ v L, o = .returned v ∧ Q_rm6_1 Z a1 a2 h0 n0 v U'.heap L ∧ FrameEnd U o U' L ({ frames := 1, cells := 0, slots := 0, locals := 11 } : Room).cells ({ frames := 1, cells := 0, slots := 0, locals := 11 } : Room).slots) := by
  refine MetFree.of_bodySF (plainFor_of_name pn_4) hisR ?_
  intro p e s m args below meth c s₁ Bd hml0 hP hK
  obtain ⟨rfl, hZ, hh⟩ := hP
  have hx := Bd.exec
  have hby := Bd.bytes
  have hml : c.maxLocals = 1 := hml0
  have hown : s.vm.findClass "com/example/cropmark/cropmark/Row" = some m.cls := findClass_of_methodNamed Bd.named
  have hnm := (name_of_methodNamed Bd.named Bd.method).1
  have X0 : Stand p l e ({ frames := 1, cells := 0, slots := 0, locals := 11 } : Room) s m #[(.ref a1)] below meth c s₁ [] 0 0 := Stand.of_body Bd
  have e0 : s₁.heap = h0 := by rw [← hh, Bd.state]; rfl
  have N0 := Fr.nil n0
  refine Go.start (P := (fun o U' => ∃ v L, o = .returned v ∧ Q_rm6_1 Z a1 a2 h0 n0 v U'.heap L ∧ FrameEnd s o U' L ({ frames := 1, cells := 0, slots := 0, locals := 11 } : Room).cells ({ frames := 1, cells := 0, slots := 0, locals := 11 } : Room).slots)) (castTop (g' := (mkF m 0 #[.val (.ref a1)] [])) (by first | rfl | simp [entryFrame, mkF, argsToLocals, Value.category]) (T := s₁)) ?_
  refine Go.st (fun t k => XS.aloadN X0.here hx rfl (hb hby d6_0) rfl rfl k) ?_
  show Go p e below _ (s₁.setTop (mkF m 1 #[.val (.ref a1)] [(.ref a1)]))
  obtain ⟨T1, X1, e1, st1⟩ := getF X0 hx hZ hown (host := "") (Or.inl (w49 hw)) Via.refl e0 P1 (g := (mkF m 1 #[.val (.ref a1)] [(.ref a1)])) rfl rfl (hb hby d6_1)
  refine Go.st st1 ?_
  show Go p e below _ (T1.setTop (mkF m 4 #[.val (.ref a1)] [.null]))
  refine Go.st (fun t k => XS.ifnonnullNo X1.here hx rfl (hb hby d6_4) rfl k) ?_
  show Go p e below _ (T1.setTop (mkF m 7 #[.val (.ref a1)] []))
  obtain ⟨_, _, ⟨T2, L2, k2, n2⟩, -, X2, ⟨Lc2, hQ2, l2, y2, z2⟩, st2⟩ := Jvm.LawKit.callS X1 hx (y := (⟨"java/util/List", "of", "()Ljava/util/List;"⟩ : MethodName)) hown (mvT hZ (w51 hw)) (mvT hZ (w52 hw)) (mvT hZ (w53 hw)) (mvT hZ (w54 hw)) (by decide) (backOf (W := 0) (rm7_1 l Z a0 hw [] a2 h0 n0 O0 P2) hZ (w54 hw) (w53 hw) (by decide) (by decide)) (g := (mkF m 7 #[.val (.ref a1)] [])) rfl (by rw [hml]; rfl) (argsL := []) (rest := []) (lenOf pd_11 rfl) rfl (by show 2 * 0 + _ ≤ _; exact Nat.le_of_eq rfl) (hb hby d6_7) (fun vm₁ hw₁ => ⟨rfl, e1, (by decide : 0 + 0 ≤ _), (by decide : 0 + 0 ≤ _)⟩)
  dsimp only [Pt.U, Pt.locs, Pt.cells, Pt.slots] at X2 l2 y2 z2 st2 hQ2
  subst l2 y2 z2
  obtain ⟨rfl, M2, eh2⟩ := hQ2
  have N2 := Fr.app N0 M2
  refine Go.st st2 ?_
  show Go p e below _ (T2.setTop (mkF m 10 #[.val (.ref a1)] [(.ref a2)]))
  refine Go.st (fun t k => XS.goto X2.here hx rfl (pc0 := 10) (pc' := 17) rfl (hb hby d6_10) (by decide) (by decide) k) ?_
  show Go p e below _ (T2.setTop (mkF m 17 #[.val (.ref a1)] [(.ref a2)]))
  obtain ⟨fs, hr, hrun, hended, hWd, hsame⟩ := X2.leave (v := some (.ref a2)) (fun h => by rw [Bd.returns] at h; cases h)
  refine ⟨_, _, ?_, hrun, hended, _, _, rfl, ?_, ⟨⟨_, rfl⟩, hWd, hsame.mono (by decide) (by decide)⟩⟩
  · exact own_retA X2 hx Bd.returns rfl rfl (hb hby d6_17) hr
  · show Q_rm6_1 Z a1 a2 h0 n0 _ T2.heap _
    rw [eh2]
    exact ⟨rfl, N2, rfl⟩
def Q_rm8_1 (Z : State) (a1 : Addr) (a2 : Addr) (kz3 : ClassId) (h0 : Heap) (n0 : Nat) (v : Option Value) (h : Heap) (L : List Loc) : Prop := v = some (.int (0 : Int32)) ∧ Fr n0 L ∧ h = h0
set_option maxRecDepth 65536 in
set_option maxHeartbeats 40000000 in
theorem rm8_1 (l : Launch) (Z : State) (a0 : Array Value) (hw : ∀ d ∈ tables_1, d.before a0 Z = true) (ws : List Jvm.Cond) (a1 : Addr) (a2 : Addr) (kz3 : ClassId) (h0 : Heap) (n0 : Nat) (O0 : Old Z n0 h0) (P1 : Fld Z Z.heap a1 "java/util/ImmutableCollections$ListN" "elements" "[Ljava/lang/Object;" (.ref a2)) (P2 : Arv Z Z.heap a2 kz3 (.object "java/lang/Object") (0 : Int32) [] .null) :
    MetFree l (⟨"java/util/ImmutableCollections$ListN", "size", "()I"⟩ : MethodName) (head1 (Jvm.Cond.code (⟨"java/util/ImmutableCollections$ListN", "size", "()I"⟩ : MethodName) jdk_45_method_3_code 1 (some .int) :: ws) ({ frames := 0, cells := 0, slots := 0, locals := 0 } : Room)) (fun a U => a = #[(.ref a1)] ∧ Z.Warmed39 U.vm ∧ U.heap = h0) (fun _ _ _ _ _ => True) (fun _ U o U' => ∃ v L, o = .returned v ∧ Q_rm8_1 Z a1 a2 kz3 h0 n0 v U'.heap L ∧ FrameEnd U o U' L ({ frames := 0, cells := 0, slots := 0, locals := 0 } : Room).cells ({ frames := 0, cells := 0, slots := 0, locals := 0 } : Room).slots) := by
  refine MetFree.of_bodySF (plainFor_of_name pn_6) hisR ?_
  intro p e s m args below meth c s₁ Bd hml0 hP hK
  obtain ⟨rfl, hZ, hh⟩ := hP
  have hx := Bd.exec
  have hby := Bd.bytes
  have hml : c.maxLocals = 1 := hml0
  have hown : s.vm.findClass "java/util/ImmutableCollections$ListN" = some m.cls := findClass_of_methodNamed Bd.named
  have hnm := (name_of_methodNamed Bd.named Bd.method).1
  have X0 : Stand p l e ({ frames := 0, cells := 0, slots := 0, locals := 0 } : Room) s m #[(.ref a1)] below meth c s₁ [] 0 0 := Stand.of_body Bd
  have e0 : s₁.heap = h0 := by rw [← hh, Bd.state]; rfl
  have N0 := Fr.nil n0
  refine Go.start (P := (fun o U' => ∃ v L, o = .returned v ∧ Q_rm8_1 Z a1 a2 kz3 h0 n0 v U'.heap L ∧ FrameEnd s o U' L ({ frames := 0, cells := 0, slots := 0, locals := 0 } : Room).cells ({ frames := 0, cells := 0, slots := 0, locals := 0 } : Room).slots)) (castTop (g' := (mkF m 0 #[.val (.ref a1)] [])) (by first | rfl | simp [entryFrame, mkF, argsToLocals, Value.category]) (T := s₁)) ?_
  refine Go.st (fun t k => XS.aloadN X0.here hx rfl (hb hby d8_0) rfl rfl k) ?_
  show Go p e below _ (s₁.setTop (mkF m 1 #[.val (.ref a1)] [(.ref a1)]))
  obtain ⟨T1, X1, e1, st1⟩ := getF X0 hx hZ hown (host := "") (Or.inl (w67 hw)) Via.refl e0 (P1.ext O0.2) (g := (mkF m 1 #[.val (.ref a1)] [(.ref a1)])) rfl rfl (hb hby d8_1)
  refine Go.st st1 ?_
  show Go p e below _ (T1.setTop (mkF m 4 #[.val (.ref a1)] [(.ref a2)]))
  obtain ⟨cl2, Ar2, -, S2, M2, -, -⟩ := id (P2.ext O0.2)
  refine Go.st (fun t k => X1.arraylength hx (by rw [e1]; exact Ar2.1) (State.isArrayOf_alike hZ.alike Ar2.2.1) (g := (mkF m 4 #[.val (.ref a1)] [(.ref a2)])) rfl rfl (hb hby d8_4) t k) ?_
  rw [len_of S2 M2]
  show Go p e below _ (T1.setTop (mkF m 5 #[.val (.ref a1)] [(.int (0 : Int32))]))
  obtain ⟨fs, hr, hrun, hended, hWd, hsame⟩ := X1.leave (v := some (.int (0 : Int32))) (fun h => by rw [Bd.returns] at h; cases h)
  refine ⟨_, _, ?_, hrun, hended, _, _, rfl, ?_, ⟨⟨_, rfl⟩, hWd, hsame.mono (by decide) (by decide)⟩⟩
  · exact retI X1 hx Bd.returns (hb hby d8_5) hr
  · show Q_rm8_1 Z a1 a2 kz3 h0 n0 _ T1.heap _
    rw [e1]
    exact ⟨rfl, N0, rfl⟩
def Q_rm12_1 (Z : State) (a1 : Addr) (h0 : Heap) (n0 : Nat) (v : Option Value) (h : Heap) (L : List Loc) : Prop := v = none ∧ Fr n0 L ∧ h = h0
set_option maxRecDepth 65536 in
set_option maxHeartbeats 40000000 in
theorem rm12_1 (l : Launch) (Z : State) (a0 : Array Value) (hw : ∀ d ∈ tables_1, d.before a0 Z = true) (ws : List Jvm.Cond) (a1 : Addr) (h0 : Heap) (n0 : Nat) (O0 : Old Z n0 h0) :
    MetFree l (⟨"java/util/AbstractCollection", "<init>", "()V"⟩ : MethodName) (head1 (Jvm.Cond.code (⟨"java/util/AbstractCollection", "<init>", "()V"⟩ : MethodName) jdk_22_method_1_code 1 none :: ws) ({ frames := 1, cells := 0, slots := 0, locals := 12 } : Room)) (fun a U => a = #[(.ref a1)] ∧ Z.Warmed39 U.vm ∧ U.heap = h0) (fun _ _ _ _ _ => True) (fun _ U o U' => ∃ v L, o = .returned v ∧ Q_rm12_1 Z a1 h0 n0 v U'.heap L ∧ FrameEnd U o U' L ({ frames := 1, cells := 0, slots := 0, locals := 12 } : Room).cells ({ frames := 1, cells := 0, slots := 0, locals := 12 } : Room).slots) := by
  refine MetFree.of_bodySF (plainFor_of_name pn_7) hisR ?_
  intro p e s m args below meth c s₁ Bd hml0 hP hK
  obtain ⟨rfl, hZ, hh⟩ := hP
  have hx := Bd.exec
  have hby := Bd.bytes
  have hml : c.maxLocals = 1 := hml0
  have hown : s.vm.findClass "java/util/AbstractCollection" = some m.cls := findClass_of_methodNamed Bd.named
  have hnm := (name_of_methodNamed Bd.named Bd.method).1
  have X0 : Stand p l e ({ frames := 1, cells := 0, slots := 0, locals := 12 } : Room) s m #[(.ref a1)] below meth c s₁ [] 0 0 := Stand.of_body Bd
  have e0 : s₁.heap = h0 := by rw [← hh, Bd.state]; rfl
  have N0 := Fr.nil n0
  refine Go.start (P := (fun o U' => ∃ v L, o = .returned v ∧ Q_rm12_1 Z a1 h0 n0 v U'.heap L ∧ FrameEnd s o U' L ({ frames := 1, cells := 0, slots := 0, locals := 12 } : Room).cells ({ frames := 1, cells := 0, slots := 0, locals := 12 } : Room).slots)) (castTop (g' := (mkF m 0 #[.val (.ref a1)] [])) (by first | rfl | simp [entryFrame, mkF, argsToLocals, Value.category]) (T := s₁)) ?_
  refine Go.st (fun t k => XS.aloadN X0.here hx rfl (hb hby d12_0) rfl rfl k) ?_
  show Go p e below _ (s₁.setTop (mkF m 1 #[.val (.ref a1)] [(.ref a1)]))
  obtain ⟨T1, X1, e1, st1⟩ := initO X0 hx hZ hown (w92 hw) (w16 hw) (w17 hw) e0 (g := (mkF m 1 #[.val (.ref a1)] [(.ref a1)])) rfl (by rw [hml]; rfl) rfl (hb hby d12_1) (by decide) (W := 0) (by show 2 * 0 + _ ≤ _; exact Nat.le_of_eq rfl) (by decide)
  refine Go.st st1 ?_
  show Go p e below _ (T1.setTop (mkF m 4 #[.val (.ref a1)] []))
  obtain ⟨fs, hr, hrun, hended, hWd, hsame⟩ := X1.leave (v := none) (fun _ => rfl)
  refine ⟨_, _, ?_, hrun, hended, _, _, rfl, ?_, ⟨⟨_, rfl⟩, hWd, hsame.mono (by decide) (by decide)⟩⟩
  · exact X1.returnOut hx Bd.returns (hb hby d12_4) hr
  · show Q_rm12_1 Z a1 h0 n0 _ T1.heap _
    rw [e1]
    exact ⟨rfl, N0, rfl⟩
def Q_rm11_1 (Z : State) (a1 : Addr) (h0 : Heap) (n0 : Nat) (v : Option Value) (h : Heap) (L : List Loc) : Prop := v = none ∧ Fr n0 L ∧ Keep h0 h [a1] ∧ Fld Z h a1 "java/util/AbstractList" "modCount" "I" (.int (0 : Int32)) ∧ Fld Z h a1 "java/util/ArrayList" "elementData" "[Ljava/lang/Object;" .null ∧ Fld Z h a1 "java/util/ArrayList" "size" "I" (.int (0 : Int32))
set_option maxRecDepth 65536 in
set_option maxHeartbeats 40000000 in
theorem rm11_1 (l : Launch) (Z : State) (a0 : Array Value) (hw : ∀ d ∈ tables_1, d.before a0 Z = true) (ws : List Jvm.Cond) (a1 : Addr) (h0 : Heap) (n0 : Nat) (O0 : Old Z n0 h0) (P1 : Exa Z h0 a1 "java/util/ArrayList") (P2 : Fld Z h0 a1 "java/util/AbstractList" "modCount" "I" (.int (0 : Int32))) (P3 : n0 ≤ a1) (P4 : Fld Z h0 a1 "java/util/ArrayList" "elementData" "[Ljava/lang/Object;" .null) (P5 : Fld Z h0 a1 "java/util/ArrayList" "size" "I" (.int (0 : Int32))) :
    MetFree l (⟨"java/util/AbstractList", "<init>", "()V"⟩ : MethodName) (head1 (Jvm.Cond.code (⟨"java/util/AbstractList", "<init>", "()V"⟩ : MethodName) jdk_39_method_1_code 1 none :: ws) ({ frames := 2, cells := 0, slots := 0, locals := 24 } : Room)) (fun a U => a = #[(.ref a1)] ∧ Z.Warmed39 U.vm ∧ U.heap = h0) (fun _ _ _ _ _ => True) (fun _ U o U' => ∃ v L, o = .returned v ∧ Q_rm11_1 Z a1 h0 n0 v U'.heap L ∧ FrameEnd U o U' L ({ frames := 2, cells := 0, slots := 0, locals := 24 } : Room).cells ({ frames := 2, cells := 0, slots := 0, locals := 24 } : Room).slots) := by
  refine MetFree.of_bodySF (plainFor_of_name pn_8) hisR ?_
  intro p e s m args below meth c s₁ Bd hml0 hP hK
  obtain ⟨rfl, hZ, hh⟩ := hP
  have hx := Bd.exec
  have hby := Bd.bytes
  have hml : c.maxLocals = 1 := hml0
  have hown : s.vm.findClass "java/util/AbstractList" = some m.cls := findClass_of_methodNamed Bd.named
  have hnm := (name_of_methodNamed Bd.named Bd.method).1
  have X0 : Stand p l e ({ frames := 2, cells := 0, slots := 0, locals := 24 } : Room) s m #[(.ref a1)] below meth c s₁ [] 0 0 := Stand.of_body Bd
  have e0 : s₁.heap = h0 := by rw [← hh, Bd.state]; rfl
  have N0 := Fr.nil n0
  refine Go.start (P := (fun o U' => ∃ v L, o = .returned v ∧ Q_rm11_1 Z a1 h0 n0 v U'.heap L ∧ FrameEnd s o U' L ({ frames := 2, cells := 0, slots := 0, locals := 24 } : Room).cells ({ frames := 2, cells := 0, slots := 0, locals := 24 } : Room).slots)) (castTop (g' := (mkF m 0 #[.val (.ref a1)] [])) (by first | rfl | simp [entryFrame, mkF, argsToLocals, Value.category]) (T := s₁)) ?_
  refine Go.st (fun t k => XS.aloadN X0.here hx rfl (hb hby d11_0) rfl rfl k) ?_
  show Go p e below _ (s₁.setTop (mkF m 1 #[.val (.ref a1)] [(.ref a1)]))
  obtain ⟨_, _, ⟨T1, L1, k1, n1⟩, -, X1, ⟨Lc1, hQ1, l1, y1, z1⟩, st1⟩ := X0.specialBack hx (y := (⟨"java/util/AbstractCollection", "<init>", "()V"⟩ : MethodName)) rfl hown (mvT hZ (w86 hw)) (mvT hZ (w87 hw)) (mvT hZ (w91 hw)) (by decide) (backOf (W := 0) (rm12_1 l Z a0 hw [] a1 h0 n0 O0 ) hZ (w91 hw) (w90 hw) (by decide) (by decide)) (g := (mkF m 1 #[.val (.ref a1)] [(.ref a1)])) rfl (by rw [hml]; rfl) (Steps.refl _) (a := a1) (argsL := []) (rest := []) (lenOf pd_13 rfl) rfl (by show 2 * 0 + _ ≤ _; exact Nat.le_of_eq rfl) (hb hby d11_1) (fun vm₁ hw₁ => ⟨rfl, e0, (by decide : 0 + 0 ≤ _), (by decide : 0 + 0 ≤ _)⟩)
  dsimp only [Pt.U, Pt.locs, Pt.cells, Pt.slots] at X1 l1 y1 z1 st1 hQ1
  subst l1 y1 z1
  obtain ⟨rfl, M1, eh1⟩ := hQ1
  have N1 := Fr.app N0 M1
  refine Go.tr st1 ?_
  show Go p e below _ (T1.setTop (mkF m 4 #[.val (.ref a1)] []))
  refine Go.st (fun t k => XS.aloadN X1.here hx rfl (hb hby d11_4) rfl rfl k) ?_
  show Go p e below _ (T1.setTop (mkF m 5 #[.val (.ref a1)] [(.ref a1)]))
  refine Go.st (fun t k => XS.iconst X1.here hx rfl (hb hby d11_5) k) ?_
  show Go p e below _ (T1.setTop (mkF m 6 #[.val (.ref a1)] [(.int (0 : Int32)), (.ref a1)]))
  obtain ⟨T2, h2, X2, e2, W2, st2⟩ := putF X1 hx hZ hown (host := "") (Or.inl (w93 hw)) Via.refl eh1 P2 P1 (Or.inl (w94 hw)) (w75 hw) (ty := .int) (by decide) rfl rfl (g := (mkF m 6 #[.val (.ref a1)] [(.int (0 : Int32)), (.ref a1)])) rfl rfl (hb hby d11_6)
  have F2 : Fld Z h2 a1 "java/util/AbstractList" "modCount" "I" (.int (0 : Int32)) := P2.same W2
  have N2 := Fr.snoc X2 N1 P3
  have O2 : Old Z n0 h2 := O0.wr W2 P3
  have K2 : Keep h0 h2 [a1] := (Keep.refl h0 [a1]).wr W2 (Or.inl (List.mem_of_getElem? (i := 0) rfl))
  refine Go.st st2 ?_
  show Go p e below _ (T2.setTop (mkF m 9 #[.val (.ref a1)] []))
  obtain ⟨fs, hr, hrun, hended, hWd, hsame⟩ := X2.leave (v := none) (fun _ => rfl)
  have c3 := (P4.other W2 (Or.inr (slot_ne (Or.inl (w97 hw)) (Or.inl (w94 hw)) (by decide) (t := (.array (.object "java/lang/Object"))) (t' := .int) (by decide) (by decide))))
  have c4 := (P5.other W2 (Or.inr (slot_ne (Or.inl (w110 hw)) (Or.inl (w94 hw)) (by decide) (t := .int) (t' := .int) (by decide) (by decide))))
  refine ⟨_, _, ?_, hrun, hended, _, _, rfl, ?_, ⟨⟨_, rfl⟩, hWd, hsame.mono (by decide) (by decide)⟩⟩
  · exact X2.returnOut hx Bd.returns (hb hby d11_9) hr
  · show Q_rm11_1 Z a1 h0 n0 _ T2.heap _
    rw [e2]
    exact ⟨rfl, N2, K2, F2, c3, c4⟩
def Q_rm10_1 (Z : State) (a1 : Addr) (a2 : Addr) (h0 : Heap) (n0 : Nat) (v : Option Value) (h : Heap) (L : List Loc) : Prop := v = none ∧ Fr n0 L ∧ Keep h0 h [a1] ∧ Fld Z h a1 "java/util/AbstractList" "modCount" "I" (.int (0 : Int32)) ∧ Fld Z h a1 "java/util/ArrayList" "elementData" "[Ljava/lang/Object;" (.ref a2) ∧ Fld Z h a1 "java/util/ArrayList" "size" "I" (.int (0 : Int32))
set_option maxRecDepth 65536 in
set_option maxHeartbeats 40000000 in
theorem rm10_1 (l : Launch) (Z : State) (a0 : Array Value) (hw : ∀ d ∈ tables_1, d.before a0 Z = true) (ws : List Jvm.Cond) (a1 : Addr) (a2 : Addr) (h0 : Heap) (n0 : Nat) (O0 : Old Z n0 h0) (P1 : Exa Z h0 a1 "java/util/ArrayList") (P2 : Fld Z h0 a1 "java/util/AbstractList" "modCount" "I" (.int (0 : Int32))) (P3 : n0 ≤ a1) (P4 : Fld Z h0 a1 "java/util/ArrayList" "elementData" "[Ljava/lang/Object;" .null) (P5 : Fld Z h0 a1 "java/util/ArrayList" "size" "I" (.int (0 : Int32))) (P6 : Sta Z Z.heap "java/util/ArrayList" "DEFAULTCAPACITY_EMPTY_ELEMENTDATA" "[Ljava/lang/Object;" (.ref a2)) :
    MetFree l (⟨"java/util/ArrayList", "<init>", "()V"⟩ : MethodName) (head1 (Jvm.Cond.code (⟨"java/util/ArrayList", "<init>", "()V"⟩ : MethodName) jdk_38_method_2_code 1 none :: ws) ({ frames := 3, cells := 0, slots := 0, locals := 36 } : Room)) (fun a U => a = #[(.ref a1)] ∧ Z.Warmed39 U.vm ∧ U.heap = h0) (fun _ _ _ _ _ => True) (fun _ U o U' => ∃ v L, o = .returned v ∧ Q_rm10_1 Z a1 a2 h0 n0 v U'.heap L ∧ FrameEnd U o U' L ({ frames := 3, cells := 0, slots := 0, locals := 36 } : Room).cells ({ frames := 3, cells := 0, slots := 0, locals := 36 } : Room).slots) := by
  refine MetFree.of_bodySF (plainFor_of_name pn_9) hisR ?_
  intro p e s m args below meth c s₁ Bd hml0 hP hK
  obtain ⟨rfl, hZ, hh⟩ := hP
  have hx := Bd.exec
  have hby := Bd.bytes
  have hml : c.maxLocals = 1 := hml0
  have hown : s.vm.findClass "java/util/ArrayList" = some m.cls := findClass_of_methodNamed Bd.named
  have hnm := (name_of_methodNamed Bd.named Bd.method).1
  have X0 : Stand p l e ({ frames := 3, cells := 0, slots := 0, locals := 36 } : Room) s m #[(.ref a1)] below meth c s₁ [] 0 0 := Stand.of_body Bd
  have e0 : s₁.heap = h0 := by rw [← hh, Bd.state]; rfl
  have N0 := Fr.nil n0
  refine Go.start (P := (fun o U' => ∃ v L, o = .returned v ∧ Q_rm10_1 Z a1 a2 h0 n0 v U'.heap L ∧ FrameEnd s o U' L ({ frames := 3, cells := 0, slots := 0, locals := 36 } : Room).cells ({ frames := 3, cells := 0, slots := 0, locals := 36 } : Room).slots)) (castTop (g' := (mkF m 0 #[.val (.ref a1)] [])) (by first | rfl | simp [entryFrame, mkF, argsToLocals, Value.category]) (T := s₁)) ?_
  refine Go.st (fun t k => XS.aloadN X0.here hx rfl (hb hby d10_0) rfl rfl k) ?_
  show Go p e below _ (s₁.setTop (mkF m 1 #[.val (.ref a1)] [(.ref a1)]))
  obtain ⟨_, _, ⟨T1, L1, k1, n1⟩, -, X1, ⟨Lc1, hQ1, l1, y1, z1⟩, st1⟩ := X0.specialBack hx (y := (⟨"java/util/AbstractList", "<init>", "()V"⟩ : MethodName)) rfl hown (mvT hZ (w80 hw)) (mvT hZ (w81 hw)) (mvT hZ (w85 hw)) (by decide) (backOf (W := 0) (rm11_1 l Z a0 hw [] a1 h0 n0 O0 P1 P2 P3 P4 P5) hZ (w85 hw) (w84 hw) (by decide) (by decide)) (g := (mkF m 1 #[.val (.ref a1)] [(.ref a1)])) rfl (by rw [hml]; rfl) (Steps.refl _) (a := a1) (argsL := []) (rest := []) (lenOf pd_13 rfl) rfl (by show 2 * 0 + _ ≤ _; exact Nat.le_of_eq rfl) (hb hby d10_1) (fun vm₁ hw₁ => ⟨rfl, e0, (by decide : 0 + 0 ≤ _), (by decide : 0 + 0 ≤ _)⟩)
  dsimp only [Pt.U, Pt.locs, Pt.cells, Pt.slots] at X1 l1 y1 z1 st1 hQ1
  subst l1 y1 z1
  obtain ⟨rfl, M1, K1c, r1_0, r1_1, r1_2⟩ := hQ1
  have N1 := Fr.app N0 M1
  have O1 : Old Z n0 T1.heap := O0.keep K1c (allS P3 all0)
  have K1 : Keep h0 T1.heap [a1] := (Keep.refl h0 [a1]).trans K1c (allS (Or.inl (List.mem_of_getElem? (i := 0) rfl)) all0)
  refine Go.tr st1 ?_
  show Go p e below _ (T1.setTop (mkF m 4 #[.val (.ref a1)] []))
  refine Go.st (fun t k => XS.aloadN X1.here hx rfl (hb hby d10_4) rfl rfl k) ?_
  show Go p e below _ (T1.setTop (mkF m 5 #[.val (.ref a1)] [(.ref a1)]))
  obtain ⟨T2, X2, e2, st2⟩ := getS2 X1 hx hZ hown (host := "") (Or.inl (w95 hw)) Via.refl rfl (P6.ext O1.2) (g := (mkF m 5 #[.val (.ref a1)] [(.ref a1)])) rfl (hb hby d10_5)
  refine Go.st st2 ?_
  show Go p e below _ (T2.setTop (mkF m 8 #[.val (.ref a1)] [(.ref a2), (.ref a1)]))
  obtain ⟨T3, h3, X3, e3, W3, st3⟩ := putF X2 hx hZ hown (host := "") (Or.inl (w96 hw)) Via.refl e2 r1_1 (P1.keep K1c) (Or.inl (w97 hw)) (w75 hw) (ty := (.array (.object "java/lang/Object"))) (by decide) rfl rfl (g := (mkF m 8 #[.val (.ref a1)] [(.ref a2), (.ref a1)])) rfl rfl (hb hby d10_8)
  have F3 : Fld Z h3 a1 "java/util/ArrayList" "elementData" "[Ljava/lang/Object;" (.ref a2) := r1_1.same W3
  have N3 := Fr.snoc X3 N1 P3
  have O3 : Old Z n0 h3 := O1.wr W3 P3
  have K3 : Keep h0 h3 [a1] := K1.wr W3 (Or.inl (List.mem_of_getElem? (i := 0) rfl))
  refine Go.st st3 ?_
  show Go p e below _ (T3.setTop (mkF m 11 #[.val (.ref a1)] []))
  obtain ⟨fs, hr, hrun, hended, hWd, hsame⟩ := X3.leave (v := none) (fun _ => rfl)
  have c4 := (r1_0.other W3 (Or.inr (slot_ne (Or.inl (w94 hw)) (Or.inl (w97 hw)) (by decide) (t := .int) (t' := (.array (.object "java/lang/Object"))) (by decide) (by decide))))
  have c5 := (r1_2.other W3 (Or.inr (slot_ne (Or.inl (w110 hw)) (Or.inl (w97 hw)) (by decide) (t := .int) (t' := (.array (.object "java/lang/Object"))) (by decide) (by decide))))
  refine ⟨_, _, ?_, hrun, hended, _, _, rfl, ?_, ⟨⟨_, rfl⟩, hWd, hsame.mono (by decide) (by decide)⟩⟩
  · exact X3.returnOut hx Bd.returns (hb hby d10_11) hr
  · show Q_rm10_1 Z a1 a2 h0 n0 _ T3.heap _
    rw [e3]
    exact ⟨rfl, N3, K3, c4, F3, c5⟩
def Q_rm17_1 (Z : State)  (h0 : Heap) (n0 : Nat) (v : Option Value) (h : Heap) (L : List Loc) : Prop := v = some (.int (10 : Int32)) ∧ Fr n0 L ∧ h = h0
set_option maxRecDepth 65536 in
set_option maxHeartbeats 40000000 in
theorem rm17_1 (l : Launch) (Z : State) (a0 : Array Value) (hw : ∀ d ∈ tables_1, d.before a0 Z = true) (ws : List Jvm.Cond)  (h0 : Heap) (n0 : Nat) (O0 : Old Z n0 h0) :
    MetFree l (⟨"java/lang/Math", "max", "(II)I"⟩ : MethodName) (head1 (Jvm.Cond.code (⟨"java/lang/Math", "max", "(II)I"⟩ : MethodName) jdk_29_method_65_code 2 (some .int) :: ws) ({ frames := 0, cells := 0, slots := 0, locals := 0 } : Room)) (fun a U => a = #[(.int (10 : Int32)), (.int (1 : Int32))] ∧ Z.Warmed39 U.vm ∧ U.heap = h0) (fun _ _ _ _ _ => True) (fun _ U o U' => ∃ v L, o = .returned v ∧ Q_rm17_1 Z  h0 n0 v U'.heap L ∧ FrameEnd U o U' L ({ frames := 0, cells := 0, slots := 0, locals := 0 } : Room).cells ({ frames := 0, cells := 0, slots := 0, locals := 0 } : Room).slots) := by
  refine MetFree.of_bodySF (Jvm.Free.JP.mathPlain rfl (by decide +kernel)) hisR ?_
  intro p e s m args below meth c s₁ Bd hml0 hP hK
  obtain ⟨rfl, hZ, hh⟩ := hP
  have hx := Bd.exec
  have hby := Bd.bytes
  have hml : c.maxLocals = 2 := hml0
  have hown : s.vm.findClass "java/lang/Math" = some m.cls := findClass_of_methodNamed Bd.named
  have hnm := (name_of_methodNamed Bd.named Bd.method).1
  have X0 : Stand p l e ({ frames := 0, cells := 0, slots := 0, locals := 0 } : Room) s m #[(.int (10 : Int32)), (.int (1 : Int32))] below meth c s₁ [] 0 0 := Stand.of_body Bd
  have e0 : s₁.heap = h0 := by rw [← hh, Bd.state]; rfl
  have N0 := Fr.nil n0
  refine Go.start (P := (fun o U' => ∃ v L, o = .returned v ∧ Q_rm17_1 Z  h0 n0 v U'.heap L ∧ FrameEnd s o U' L ({ frames := 0, cells := 0, slots := 0, locals := 0 } : Room).cells ({ frames := 0, cells := 0, slots := 0, locals := 0 } : Room).slots)) (castTop (g' := (mkF m 0 #[.val (.int (10 : Int32)), .val (.int (1 : Int32))] [])) (by first | rfl | simp [entryFrame, mkF, argsToLocals, Value.category]) (T := s₁)) ?_
  refine Go.st (fun t k => XS.iloadN X0.here hx rfl (hb hby d17_0) rfl k) ?_
  show Go p e below _ (s₁.setTop (mkF m 1 #[.val (.int (10 : Int32)), .val (.int (1 : Int32))] [(.int (10 : Int32))]))
  refine Go.st (fun t k => XS.iloadN X0.here hx rfl (hb hby d17_1) rfl k) ?_
  show Go p e below _ (s₁.setTop (mkF m 2 #[.val (.int (10 : Int32)), .val (.int (1 : Int32))] [(.int (1 : Int32)), (.int (10 : Int32))]))
  refine Go.st (fun t k => XS.icmpNo X0.here hx rfl (hb hby d17_2) rfl (Jvm.Free.XT.ii_lt_f (by decide : ¬ ((10 : Int32) < (1 : Int32)))) k) ?_
  show Go p e below _ (s₁.setTop (mkF m 5 #[.val (.int (10 : Int32)), .val (.int (1 : Int32))] []))
  refine Go.st (fun t k => XS.iloadN X0.here hx rfl (hb hby d17_5) rfl k) ?_
  show Go p e below _ (s₁.setTop (mkF m 6 #[.val (.int (10 : Int32)), .val (.int (1 : Int32))] [(.int (10 : Int32))]))
  refine Go.st (fun t k => XS.goto X0.here hx rfl (pc0 := 6) (pc' := 10) rfl (hb hby d17_6) (by decide) (by decide) k) ?_
  show Go p e below _ (s₁.setTop (mkF m 10 #[.val (.int (10 : Int32)), .val (.int (1 : Int32))] [(.int (10 : Int32))]))
  obtain ⟨fs, hr, hrun, hended, hWd, hsame⟩ := X0.leave (v := some (.int (10 : Int32))) (fun h => by rw [Bd.returns] at h; cases h)
  refine ⟨_, _, ?_, hrun, hended, _, _, rfl, ?_, ⟨⟨_, rfl⟩, hWd, hsame.mono (by decide) (by decide)⟩⟩
  · exact retI X0 hx Bd.returns (hb hby d17_10) hr
  · show Q_rm17_1 Z  h0 n0 _ s₁.heap _
    rw [e0]
    exact ⟨rfl, N0, rfl⟩
def Q_rm16_1 (Z : State) (a1 : Addr) (a2 : Addr) (kz3 : ClassId) (h0 : Heap) (n0 : Nat) (v : Option Value) (h : Heap) (L : List Loc) : Prop := ∃ (b6 : Addr) (k6 : ClassId), v = some (.ref b6) ∧ Fr n0 L ∧ Keep h0 h [a1] ∧ h0.size ≤ b6 ∧ Arv Z h b6 k6 (.object "java/lang/Object") (10 : Int32) [.null, .null, .null, .null, .null, .null, .null, .null, .null, .null] .null ∧ Ovr Z k6 "java/lang/Object" ∧ Fld Z h a1 "java/util/ArrayList" "elementData" "[Ljava/lang/Object;" (.ref b6) ∧ Fld Z h a1 "java/util/ArrayList" "size" "I" (.int (0 : Int32)) ∧ Fld Z h a1 "java/util/AbstractList" "modCount" "I" (.int (1 : Int32))
set_option maxRecDepth 65536 in
set_option maxHeartbeats 40000000 in
theorem rm16_1 (l : Launch) (Z : State) (a0 : Array Value) (hw : ∀ d ∈ tables_1, d.before a0 Z = true) (ws : List Jvm.Cond) (a1 : Addr) (a2 : Addr) (kz3 : ClassId) (h0 : Heap) (n0 : Nat) (O0 : Old Z n0 h0) (P1 : Fld Z h0 a1 "java/util/ArrayList" "elementData" "[Ljava/lang/Object;" (.ref a2)) (P2 : Arv Z Z.heap a2 kz3 (.object "java/lang/Object") (0 : Int32) [] .null) (P3 : Sta Z Z.heap "java/util/ArrayList" "DEFAULTCAPACITY_EMPTY_ELEMENTDATA" "[Ljava/lang/Object;" (.ref a2)) (P4 : Exa Z h0 a1 "java/util/ArrayList") (P5 : n0 ≤ a1) (P6 : Fld Z h0 a1 "java/util/ArrayList" "size" "I" (.int (0 : Int32))) (P7 : Fld Z h0 a1 "java/util/AbstractList" "modCount" "I" (.int (1 : Int32))) :
    MetFree l (⟨"java/util/ArrayList", "grow", "(I)[Ljava/lang/Object;"⟩ : MethodName) (head1 (Jvm.Cond.code (⟨"java/util/ArrayList", "grow", "(I)[Ljava/lang/Object;"⟩ : MethodName) jdk_38_method_6_code 4 (some (.array (.object "java/lang/Object"))) :: ws) ({ frames := 1, cells := 1, slots := 10, locals := 14 } : Room)) (fun a U => a = #[(.ref a1), (.int (1 : Int32))] ∧ Z.Warmed39 U.vm ∧ U.heap = h0) (fun _ _ _ _ _ => True) (fun _ U o U' => ∃ v L, o = .returned v ∧ Q_rm16_1 Z a1 a2 kz3 h0 n0 v U'.heap L ∧ FrameEnd U o U' L ({ frames := 1, cells := 1, slots := 10, locals := 14 } : Room).cells ({ frames := 1, cells := 1, slots := 10, locals := 14 } : Room).slots) := by
  refine MetFree.of_bodySF (plainFor_of_name pn_9) hisR ?_
  intro p e s m args below meth c s₁ Bd hml0 hP hK
  obtain ⟨rfl, hZ, hh⟩ := hP
  have hx := Bd.exec
  have hby := Bd.bytes
  have hml : c.maxLocals = 4 := hml0
  have hown : s.vm.findClass "java/util/ArrayList" = some m.cls := findClass_of_methodNamed Bd.named
  have hnm := (name_of_methodNamed Bd.named Bd.method).1
  have X0 : Stand p l e ({ frames := 1, cells := 1, slots := 10, locals := 14 } : Room) s m #[(.ref a1), (.int (1 : Int32))] below meth c s₁ [] 0 0 := Stand.of_body Bd
  have e0 : s₁.heap = h0 := by rw [← hh, Bd.state]; rfl
  have N0 := Fr.nil n0
  refine Go.start (P := (fun o U' => ∃ v L, o = .returned v ∧ Q_rm16_1 Z a1 a2 kz3 h0 n0 v U'.heap L ∧ FrameEnd s o U' L ({ frames := 1, cells := 1, slots := 10, locals := 14 } : Room).cells ({ frames := 1, cells := 1, slots := 10, locals := 14 } : Room).slots)) (castTop (g' := (mkF m 0 #[.val (.ref a1), .val (.int (1 : Int32)), .unset, .unset] [])) (by first | rfl | simp [entryFrame, mkF, argsToLocals, Value.category]) (T := s₁)) ?_
  refine Go.st (fun t k => XS.aloadN X0.here hx rfl (hb hby d16_0) rfl rfl k) ?_
  show Go p e below _ (s₁.setTop (mkF m 1 #[.val (.ref a1), .val (.int (1 : Int32)), .unset, .unset] [(.ref a1)]))
  obtain ⟨T1, X1, e1, st1⟩ := getF X0 hx hZ hown (host := "") (Or.inl (w96 hw)) Via.refl e0 P1 (g := (mkF m 1 #[.val (.ref a1), .val (.int (1 : Int32)), .unset, .unset] [(.ref a1)])) rfl rfl (hb hby d16_1)
  refine Go.st st1 ?_
  show Go p e below _ (T1.setTop (mkF m 4 #[.val (.ref a1), .val (.int (1 : Int32)), .unset, .unset] [(.ref a2)]))
  obtain ⟨cl2, Ar2, -, S2, M2, -, -⟩ := id (P2.ext O0.2)
  refine Go.st (fun t k => X1.arraylength hx (by rw [e1]; exact Ar2.1) (State.isArrayOf_alike hZ.alike Ar2.2.1) (g := (mkF m 4 #[.val (.ref a1), .val (.int (1 : Int32)), .unset, .unset] [(.ref a2)])) rfl rfl (hb hby d16_4) t k) ?_
  rw [len_of S2 M2]
  show Go p e below _ (T1.setTop (mkF m 5 #[.val (.ref a1), .val (.int (1 : Int32)), .unset, .unset] [(.int (0 : Int32))]))
  refine Go.st (fun t k => XS.istoreN X1.here hx rfl (hb hby d16_5) rfl (l' := #[.val (.ref a1), .val (.int (1 : Int32)), .val (.int (0 : Int32)), .unset]) rfl k) ?_
  show Go p e below _ (T1.setTop (mkF m 6 #[.val (.ref a1), .val (.int (1 : Int32)), .val (.int (0 : Int32)), .unset] []))
  refine Go.st (fun t k => XS.iloadN X1.here hx rfl (hb hby d16_6) rfl k) ?_
  show Go p e below _ (T1.setTop (mkF m 7 #[.val (.ref a1), .val (.int (1 : Int32)), .val (.int (0 : Int32)), .unset] [(.int (0 : Int32))]))
  refine Go.st (fun t k => XS.ifNo X1.here hx rfl (hb hby d16_7) rfl (Jvm.Free.XT.i0_gt_f (by decide : ¬ ((0 : Int32) < (0 : Int32)))) k) ?_
  show Go p e below _ (T1.setTop (mkF m 10 #[.val (.ref a1), .val (.int (1 : Int32)), .val (.int (0 : Int32)), .unset] []))
  refine Go.st (fun t k => XS.aloadN X1.here hx rfl (hb hby d16_10) rfl rfl k) ?_
  show Go p e below _ (T1.setTop (mkF m 11 #[.val (.ref a1), .val (.int (1 : Int32)), .val (.int (0 : Int32)), .unset] [(.ref a1)]))
  obtain ⟨T3, X3, e3, st3⟩ := getF X1 hx hZ hown (host := "") (Or.inl (w96 hw)) Via.refl e1 P1 (g := (mkF m 11 #[.val (.ref a1), .val (.int (1 : Int32)), .val (.int (0 : Int32)), .unset] [(.ref a1)])) rfl rfl (hb hby d16_11)
  refine Go.st st3 ?_
  show Go p e below _ (T3.setTop (mkF m 14 #[.val (.ref a1), .val (.int (1 : Int32)), .val (.int (0 : Int32)), .unset] [(.ref a2)]))
  obtain ⟨T4, X4, e4, st4⟩ := getS2 X3 hx hZ hown (host := "") (Or.inl (w95 hw)) Via.refl e3 (P3.ext O0.2) (g := (mkF m 14 #[.val (.ref a1), .val (.int (1 : Int32)), .val (.int (0 : Int32)), .unset] [(.ref a2)])) rfl (hb hby d16_14)
  refine Go.st st4 ?_
  show Go p e below _ (T4.setTop (mkF m 17 #[.val (.ref a1), .val (.int (1 : Int32)), .val (.int (0 : Int32)), .unset] [(.ref a2), (.ref a2)]))
  refine Go.st (fun t k => Jvm.RoadKit.acmp (g := (mkF m 17 #[.val (.ref a1), .val (.int (1 : Int32)), .val (.int (0 : Int32)), .unset] [(.ref a2), (.ref a2)])) X4 hx rfl rfl rfl (pc0 := 17) (pc' := 45) (same := true) rfl (hb hby d16_17) rfl (decide_eq_true (congrArg Value.ref rfl)) (by decide) (by decide) k) ?_
  show Go p e below _ (T4.setTop (mkF m 45 #[.val (.ref a1), .val (.int (1 : Int32)), .val (.int (0 : Int32)), .unset] []))
  refine Go.st (fun t k => XS.aloadN X4.here hx rfl (hb hby d16_45) rfl rfl k) ?_
  show Go p e below _ (T4.setTop (mkF m 46 #[.val (.ref a1), .val (.int (1 : Int32)), .val (.int (0 : Int32)), .unset] [(.ref a1)]))
  refine Go.st (fun t k => XS.bipush X4.here hx rfl (hb hby d16_46) k) ?_
  show Go p e below _ (T4.setTop (mkF m 48 #[.val (.ref a1), .val (.int (1 : Int32)), .val (.int (0 : Int32)), .unset] [(.int (10 : Int32)), (.ref a1)]))
  refine Go.st (fun t k => XS.iloadN X4.here hx rfl (hb hby d16_48) rfl k) ?_
  show Go p e below _ (T4.setTop (mkF m 49 #[.val (.ref a1), .val (.int (1 : Int32)), .val (.int (0 : Int32)), .unset] [(.int (1 : Int32)), (.int (10 : Int32)), (.ref a1)]))
  obtain ⟨_, _, ⟨T5, L5, k5, n5⟩, -, X5, ⟨Lc5, hQ5, l5, y5, z5⟩, st5⟩ := Jvm.LawKit.callS X4 hx (y := (⟨"java/lang/Math", "max", "(II)I"⟩ : MethodName)) hown (mvT hZ (w126 hw)) (mvT hZ (w127 hw)) (mvT hZ (w128 hw)) (mvT hZ (w129 hw)) (by decide) (backOf (W := 1) (rm17_1 l Z a0 hw []  h0 n0 O0 ) hZ (w129 hw) (w128 hw) (by decide) (by decide)) (g := (mkF m 49 #[.val (.ref a1), .val (.int (1 : Int32)), .val (.int (0 : Int32)), .unset] [(.int (1 : Int32)), (.int (10 : Int32)), (.ref a1)])) rfl (by rw [hml]; rfl) (argsL := [(.int (10 : Int32)), (.int (1 : Int32))]) (rest := [(.ref a1)]) (lenOf pd_14 rfl) rfl (by show 2 * 0 + _ ≤ _; exact Nat.le_of_eq rfl) (hb hby d16_49) (fun vm₁ hw₁ => ⟨rfl, e4, (by decide : 0 + 0 ≤ _), (by decide : 0 + 0 ≤ _)⟩)
  dsimp only [Pt.U, Pt.locs, Pt.cells, Pt.slots] at X5 l5 y5 z5 st5 hQ5
  subst l5 y5 z5
  obtain ⟨rfl, M5, eh5⟩ := hQ5
  have N5 := Fr.app N0 M5
  refine Go.st st5 ?_
  show Go p e below _ (T5.setTop (mkF m 52 #[.val (.ref a1), .val (.int (1 : Int32)), .val (.int (0 : Int32)), .unset] [(.int (10 : Int32)), (.ref a1)]))
  obtain ⟨T6, h6, k6, X6, e6, E6, A6, U6, st6⟩ := newR X5 hx hZ hown (w130 hw) (w131 hw) eh5 (g := (mkF m 52 #[.val (.ref a1), .val (.int (1 : Int32)), .val (.int (0 : Int32)), .unset] [(.int (10 : Int32)), (.ref a1)])) rfl (hb hby d16_52) rfl (by decide) (cap := 10) (by decide) (by decide) (by decide) (by decide)
  obtain ⟨b6, z6⟩ : ∃ z, z = h0.size := ⟨_, rfl⟩
  rw [← z6] at A6 st6
  have g_b6 : n0 ≤ b6 := Nat.le_trans (own_n0 O0) (Nat.le_of_eq z6.symm)
  have s_b6 : h0.size ≤ b6 := Nat.le_trans (Keep.refl h0 [a1]).1 (Nat.le_of_eq z6.symm)
  have V6 : Arv Z h6 b6 k6 (.object "java/lang/Object") (10 : Int32) [.null, .null, .null, .null, .null, .null, .null, .null, .null, .null] .null := (Arv.new A6 (by decide)).pad (pad_rep [] .null 10)
  have O6 : Old Z n0 h6 := O0.ext E6
  have K6 : Keep h0 h6 [a1] := (Keep.refl h0 [a1]).ext E6
  refine Go.st st6 ?_
  show Go p e below _ (T6.setTop (mkF m 55 #[.val (.ref a1), .val (.int (1 : Int32)), .val (.int (0 : Int32)), .unset] [(.ref b6), (.ref a1)]))
  refine Go.st (fun t k => XS.dupX1 X6.here hx rfl (hb hby d16_55) rfl rfl rfl k) ?_
  show Go p e below _ (T6.setTop (mkF m 56 #[.val (.ref a1), .val (.int (1 : Int32)), .val (.int (0 : Int32)), .unset] [(.ref b6), (.ref a1), (.ref b6)]))
  obtain ⟨T7, h7, X7, e7, W7, st7⟩ := putF X6 hx hZ hown (host := "") (Or.inl (w96 hw)) Via.refl e6 (P1.ext E6) (P4.ext E6) (Or.inl (w97 hw)) (w75 hw) (ty := (.array (.object "java/lang/Object"))) (by decide) rfl rfl (g := (mkF m 56 #[.val (.ref a1), .val (.int (1 : Int32)), .val (.int (0 : Int32)), .unset] [(.ref b6), (.ref a1), (.ref b6)])) rfl rfl (hb hby d16_56)
  have F7 : Fld Z h7 a1 "java/util/ArrayList" "elementData" "[Ljava/lang/Object;" (.ref b6) := (P1.ext E6).same W7
  have N7 := Fr.snoc X7 N5 P5
  have O7 : Old Z n0 h7 := O6.wr W7 P5
  have K7 : Keep h0 h7 [a1] := K6.wr W7 (Or.inl (List.mem_of_getElem? (i := 0) rfl))
  refine Go.st st7 ?_
  show Go p e below _ (T7.setTop (mkF m 59 #[.val (.ref a1), .val (.int (1 : Int32)), .val (.int (0 : Int32)), .unset] [(.ref b6)]))
  obtain ⟨fs, hr, hrun, hended, hWd, hsame⟩ := X7.leave (v := some (.ref b6)) (fun h => by rw [Bd.returns] at h; cases h)
  have c8 := (V6.other W7 (Ne.symm (Nat.ne_of_lt (Nat.lt_of_lt_of_le P1.lt (Nat.le_of_eq z6.symm)))))
  have c9 := ((P6.ext E6).other W7 (Or.inr (slot_ne (Or.inl (w110 hw)) (Or.inl (w97 hw)) (by decide) (t := .int) (t' := (.array (.object "java/lang/Object"))) (by decide) (by decide))))
  have c10 := ((P7.ext E6).other W7 (Or.inr (slot_ne (Or.inl (w94 hw)) (Or.inl (w97 hw)) (by decide) (t := .int) (t' := (.array (.object "java/lang/Object"))) (by decide) (by decide))))
  refine ⟨_, _, ?_, hrun, hended, _, _, rfl, ?_, ⟨⟨_, rfl⟩, hWd, hsame.mono (by decide) (by decide)⟩⟩
  · exact own_retA X7 hx Bd.returns rfl rfl (hb hby d16_59) hr
  · show Q_rm16_1 Z a1 a2 kz3 h0 n0 _ T7.heap _
    rw [e7]
    exact ⟨b6, k6, rfl, N7, K7, s_b6, c8, U6, F7, c9, c10⟩
def Q_rm15_1 (Z : State) (a1 : Addr) (a2 : Addr) (kz3 : ClassId) (h0 : Heap) (n0 : Nat) (v : Option Value) (h : Heap) (L : List Loc) : Prop := ∃ (b6_2 : Addr) (k6_2 : ClassId), v = some (.ref b6_2) ∧ Fr n0 L ∧ Keep h0 h [a1] ∧ h0.size ≤ b6_2 ∧ Arv Z h b6_2 k6_2 (.object "java/lang/Object") (10 : Int32) [.null, .null, .null, .null, .null, .null, .null, .null, .null, .null] .null ∧ Ovr Z k6_2 "java/lang/Object" ∧ Fld Z h a1 "java/util/ArrayList" "size" "I" (.int (0 : Int32)) ∧ Fld Z h a1 "java/util/ArrayList" "elementData" "[Ljava/lang/Object;" (.ref b6_2) ∧ Fld Z h a1 "java/util/AbstractList" "modCount" "I" (.int (1 : Int32))
set_option maxRecDepth 65536 in
set_option maxHeartbeats 40000000 in
theorem rm15_1 (l : Launch) (Z : State) (a0 : Array Value) (hw : ∀ d ∈ tables_1, d.before a0 Z = true) (ws : List Jvm.Cond) (a1 : Addr) (a2 : Addr) (kz3 : ClassId) (h0 : Heap) (n0 : Nat) (O0 : Old Z n0 h0) (P1 : Fld Z h0 a1 "java/util/ArrayList" "size" "I" (.int (0 : Int32))) (P2 : Exa Z h0 a1 "java/util/ArrayList") (P3 : Fld Z h0 a1 "java/util/ArrayList" "elementData" "[Ljava/lang/Object;" (.ref a2)) (P4 : Arv Z Z.heap a2 kz3 (.object "java/lang/Object") (0 : Int32) [] .null) (P5 : Sta Z Z.heap "java/util/ArrayList" "DEFAULTCAPACITY_EMPTY_ELEMENTDATA" "[Ljava/lang/Object;" (.ref a2)) (P6 : n0 ≤ a1) (P7 : Fld Z h0 a1 "java/util/AbstractList" "modCount" "I" (.int (1 : Int32))) :
    MetFree l (⟨"java/util/ArrayList", "grow", "()[Ljava/lang/Object;"⟩ : MethodName) (head1 (Jvm.Cond.code (⟨"java/util/ArrayList", "grow", "()[Ljava/lang/Object;"⟩ : MethodName) jdk_38_method_7_code 1 (some (.array (.object "java/lang/Object"))) :: ws) ({ frames := 2, cells := 1, slots := 10, locals := 29 } : Room)) (fun a U => a = #[(.ref a1)] ∧ Z.Warmed39 U.vm ∧ U.heap = h0) (fun _ _ _ _ _ => True) (fun _ U o U' => ∃ v L, o = .returned v ∧ Q_rm15_1 Z a1 a2 kz3 h0 n0 v U'.heap L ∧ FrameEnd U o U' L ({ frames := 2, cells := 1, slots := 10, locals := 29 } : Room).cells ({ frames := 2, cells := 1, slots := 10, locals := 29 } : Room).slots) := by
  refine MetFree.of_bodySF (plainFor_of_name pn_9) hisR ?_
  intro p e s m args below meth c s₁ Bd hml0 hP hK
  obtain ⟨rfl, hZ, hh⟩ := hP
  have hx := Bd.exec
  have hby := Bd.bytes
  have hml : c.maxLocals = 1 := hml0
  have hown : s.vm.findClass "java/util/ArrayList" = some m.cls := findClass_of_methodNamed Bd.named
  have hnm := (name_of_methodNamed Bd.named Bd.method).1
  have X0 : Stand p l e ({ frames := 2, cells := 1, slots := 10, locals := 29 } : Room) s m #[(.ref a1)] below meth c s₁ [] 0 0 := Stand.of_body Bd
  have e0 : s₁.heap = h0 := by rw [← hh, Bd.state]; rfl
  have N0 := Fr.nil n0
  refine Go.start (P := (fun o U' => ∃ v L, o = .returned v ∧ Q_rm15_1 Z a1 a2 kz3 h0 n0 v U'.heap L ∧ FrameEnd s o U' L ({ frames := 2, cells := 1, slots := 10, locals := 29 } : Room).cells ({ frames := 2, cells := 1, slots := 10, locals := 29 } : Room).slots)) (castTop (g' := (mkF m 0 #[.val (.ref a1)] [])) (by first | rfl | simp [entryFrame, mkF, argsToLocals, Value.category]) (T := s₁)) ?_
  refine Go.st (fun t k => XS.aloadN X0.here hx rfl (hb hby d15_0) rfl rfl k) ?_
  show Go p e below _ (s₁.setTop (mkF m 1 #[.val (.ref a1)] [(.ref a1)]))
  refine Go.st (fun t k => XS.aloadN X0.here hx rfl (hb hby d15_1) rfl rfl k) ?_
  show Go p e below _ (s₁.setTop (mkF m 2 #[.val (.ref a1)] [(.ref a1), (.ref a1)]))
  obtain ⟨T1, X1, e1, st1⟩ := getF X0 hx hZ hown (host := "") (Or.inl (w109 hw)) Via.refl e0 P1 (g := (mkF m 2 #[.val (.ref a1)] [(.ref a1), (.ref a1)])) rfl rfl (hb hby d15_2)
  refine Go.st st1 ?_
  show Go p e below _ (T1.setTop (mkF m 5 #[.val (.ref a1)] [(.int (0 : Int32)), (.ref a1)]))
  refine Go.st (fun t k => XS.iconst X1.here hx rfl (hb hby d15_5) k) ?_
  show Go p e below _ (T1.setTop (mkF m 6 #[.val (.ref a1)] [(.int (1 : Int32)), (.int (0 : Int32)), (.ref a1)]))
  refine Go.st (fun t k => XS.iadd X1.here hx rfl (hb hby d15_6) rfl k) ?_
  show Go p e below _ (T1.setTop (mkF m 7 #[.val (.ref a1)] [(.int (1 : Int32)), (.ref a1)]))
  obtain ⟨cq2, u2, u2'⟩ := P2.cell
  obtain ⟨_, _, ⟨T2, L2, k2, n2⟩, -, X2, ⟨Lc2, hQ2, l2, y2, z2⟩, st2⟩ := X1.privateBack hx (y := (⟨"java/util/ArrayList", "grow", "(I)[Ljava/lang/Object;"⟩ : MethodName)) hown (mvT hZ (w121 hw)) (mvT hZ (w122 hw)) (mvT hZ (w124 hw)) (Cond.privateMethod_at (mvP hZ (w123 hw) (args := #[]))) (mvT hZ (w125 hw)) (by decide) (backOf (W := 0) (rm16_1 l Z a0 hw [] a1 a2 kz3 h0 n0 O0 P3 P4 P5 P2 P6 P1 P7) hZ (w125 hw) (w76 hw) (by decide) (by decide)) (g := (mkF m 7 #[.val (.ref a1)] [(.int (1 : Int32)), (.ref a1)])) rfl (by rw [hml]; rfl) (Steps.refl _) (a := a1) (by rw [e1]; exact u2) u2' (argsL := [(.int (1 : Int32))]) (rest := []) (lenOf pd_15 rfl) rfl (by show 2 * 0 + _ ≤ _; exact Nat.le_of_eq rfl) (hb hby d15_7) (fun vm₁ hw₁ => ⟨rfl, e1, (by decide : 0 + 1 ≤ _), (by decide : 0 + 10 ≤ _)⟩)
  dsimp only [Pt.U, Pt.locs, Pt.cells, Pt.slots] at X2 l2 y2 z2 st2 hQ2
  subst l2 y2 z2
  obtain ⟨b6_2, k6_2, rfl, M2, K2c, r2_0, r2_1, r2_2, r2_3, r2_4, r2_5⟩ := hQ2
  have N2 := Fr.app N0 M2
  have g_b6_2 : n0 ≤ b6_2 := Nat.le_trans (own_n0 O0) r2_0
  have s_b6_2 : h0.size ≤ b6_2 := Nat.le_trans (Keep.refl h0 [a1]).1 r2_0
  have O2 : Old Z n0 T2.heap := O0.keep K2c (allS P6 all0)
  have K2 : Keep h0 T2.heap [a1] := (Keep.refl h0 [a1]).trans K2c (allS (Or.inl (List.mem_of_getElem? (i := 0) rfl)) all0)
  refine Go.tr st2 ?_
  show Go p e below _ (T2.setTop (mkF m 10 #[.val (.ref a1)] [(.ref b6_2)]))
  obtain ⟨fs, hr, hrun, hended, hWd, hsame⟩ := X2.leave (v := some (.ref b6_2)) (fun h => by rw [Bd.returns] at h; cases h)
  refine ⟨_, _, ?_, hrun, hended, _, _, rfl, ?_, ⟨⟨_, rfl⟩, hWd, hsame.mono (by decide) (by decide)⟩⟩
  · exact own_retA X2 hx Bd.returns rfl rfl (hb hby d15_10) hr
  · show Q_rm15_1 Z a1 a2 kz3 h0 n0 _ T2.heap _
    exact ⟨b6_2, k6_2, rfl, N2, K2, s_b6_2, r2_1, r2_2, r2_4, r2_3, r2_5⟩
def Q_rm14_1 (Z : State) (a1 : Addr) (a2 : Addr) (a3 : Addr) (kz4 : ClassId) (h0 : Heap) (n0 : Nat) (v : Option Value) (h : Heap) (L : List Loc) : Prop := ∃ (b6_2_2 : Addr) (k6_2_2 : ClassId), v = none ∧ Fr n0 L ∧ Keep h0 h [a1] ∧ h0.size ≤ b6_2_2 ∧ Fld Z h a1 "java/util/ArrayList" "size" "I" (.int (1 : Int32)) ∧ Fld Z h a1 "java/util/ArrayList" "elementData" "[Ljava/lang/Object;" (.ref b6_2_2) ∧ Fld Z h a1 "java/util/AbstractList" "modCount" "I" (.int (1 : Int32)) ∧ Arv Z h b6_2_2 k6_2_2 (.object "java/lang/Object") (10 : Int32) [(.ref a2), .null, .null, .null, .null, .null, .null, .null, .null, .null] .null ∧ Ovr Z k6_2_2 "java/lang/Object"
set_option maxRecDepth 65536 in
set_option maxHeartbeats 40000000 in
theorem rm14_1 (l : Launch) (Z : State) (a0 : Array Value) (hw : ∀ d ∈ tables_1, d.before a0 Z = true) (ws : List Jvm.Cond) (a1 : Addr) (a2 : Addr) (a3 : Addr) (kz4 : ClassId) (h0 : Heap) (n0 : Nat) (O0 : Old Z n0 h0) (P1 : Arv Z Z.heap a3 kz4 (.object "java/lang/Object") (0 : Int32) [] .null) (P2 : Exa Z h0 a1 "java/util/ArrayList") (P3 : Fld Z h0 a1 "java/util/ArrayList" "size" "I" (.int (0 : Int32))) (P4 : Fld Z h0 a1 "java/util/ArrayList" "elementData" "[Ljava/lang/Object;" (.ref a3)) (P5 : Sta Z Z.heap "java/util/ArrayList" "DEFAULTCAPACITY_EMPTY_ELEMENTDATA" "[Ljava/lang/Object;" (.ref a3)) (P6 : n0 ≤ a1) (P7 : Fld Z h0 a1 "java/util/AbstractList" "modCount" "I" (.int (1 : Int32))) (P8 : Exa Z h0 a2 "java/lang/String") :
    MetFree l (⟨"java/util/ArrayList", "add", "(Ljava/lang/Object;[Ljava/lang/Object;I)V"⟩ : MethodName) (head1 (Jvm.Cond.code (⟨"java/util/ArrayList", "add", "(Ljava/lang/Object;[Ljava/lang/Object;I)V"⟩ : MethodName) jdk_38_method_24_code 4 none :: ws) ({ frames := 3, cells := 1, slots := 10, locals := 41 } : Room)) (fun a U => a = #[(.ref a1), (.ref a2), (.ref a3), (.int (0 : Int32))] ∧ Z.Warmed39 U.vm ∧ U.heap = h0) (fun _ _ _ _ _ => True) (fun _ U o U' => ∃ v L, o = .returned v ∧ Q_rm14_1 Z a1 a2 a3 kz4 h0 n0 v U'.heap L ∧ FrameEnd U o U' L ({ frames := 3, cells := 1, slots := 10, locals := 41 } : Room).cells ({ frames := 3, cells := 1, slots := 10, locals := 41 } : Room).slots) := by
  refine MetFree.of_bodySF (plainFor_of_name pn_9) hisR ?_
  intro p e s m args below meth c s₁ Bd hml0 hP hK
  obtain ⟨rfl, hZ, hh⟩ := hP
  have hx := Bd.exec
  have hby := Bd.bytes
  have hml : c.maxLocals = 4 := hml0
  have hown : s.vm.findClass "java/util/ArrayList" = some m.cls := findClass_of_methodNamed Bd.named
  have hnm := (name_of_methodNamed Bd.named Bd.method).1
  have X0 : Stand p l e ({ frames := 3, cells := 1, slots := 10, locals := 41 } : Room) s m #[(.ref a1), (.ref a2), (.ref a3), (.int (0 : Int32))] below meth c s₁ [] 0 0 := Stand.of_body Bd
  have e0 : s₁.heap = h0 := by rw [← hh, Bd.state]; rfl
  have N0 := Fr.nil n0
  refine Go.start (P := (fun o U' => ∃ v L, o = .returned v ∧ Q_rm14_1 Z a1 a2 a3 kz4 h0 n0 v U'.heap L ∧ FrameEnd s o U' L ({ frames := 3, cells := 1, slots := 10, locals := 41 } : Room).cells ({ frames := 3, cells := 1, slots := 10, locals := 41 } : Room).slots)) (castTop (g' := (mkF m 0 #[.val (.ref a1), .val (.ref a2), .val (.ref a3), .val (.int (0 : Int32))] [])) (by first | rfl | simp [entryFrame, mkF, argsToLocals, Value.category]) (T := s₁)) ?_
  refine Go.st (fun t k => XS.iloadN X0.here hx rfl (hb hby d14_0) rfl k) ?_
  show Go p e below _ (s₁.setTop (mkF m 1 #[.val (.ref a1), .val (.ref a2), .val (.ref a3), .val (.int (0 : Int32))] [(.int (0 : Int32))]))
  refine Go.st (fun t k => XS.aloadN X0.here hx rfl (hb hby d14_1) rfl rfl k) ?_
  show Go p e below _ (s₁.setTop (mkF m 2 #[.val (.ref a1), .val (.ref a2), .val (.ref a3), .val (.int (0 : Int32))] [(.ref a3), (.int (0 : Int32))]))
  obtain ⟨cl1, Ar1, -, S1, M1, -, -⟩ := id (P1.ext O0.2)
  refine Go.st (fun t k => X0.arraylength hx (by rw [e0]; exact Ar1.1) (State.isArrayOf_alike hZ.alike Ar1.2.1) (g := (mkF m 2 #[.val (.ref a1), .val (.ref a2), .val (.ref a3), .val (.int (0 : Int32))] [(.ref a3), (.int (0 : Int32))])) rfl rfl (hb hby d14_2) t k) ?_
  rw [len_of S1 M1]
  show Go p e below _ (s₁.setTop (mkF m 3 #[.val (.ref a1), .val (.ref a2), .val (.ref a3), .val (.int (0 : Int32))] [(.int (0 : Int32)), (.int (0 : Int32))]))
  refine Go.st (fun t k => XS.icmpNo X0.here hx rfl (hb hby d14_3) rfl (Jvm.Free.XT.ii_ne_f (by decide : (0 : Int32) = (0 : Int32))) k) ?_
  show Go p e below _ (s₁.setTop (mkF m 6 #[.val (.ref a1), .val (.ref a2), .val (.ref a3), .val (.int (0 : Int32))] []))
  refine Go.st (fun t k => XS.aloadN X0.here hx rfl (hb hby d14_6) rfl rfl k) ?_
  show Go p e below _ (s₁.setTop (mkF m 7 #[.val (.ref a1), .val (.ref a2), .val (.ref a3), .val (.int (0 : Int32))] [(.ref a1)]))
  obtain ⟨cq2, u2, u2'⟩ := P2.cell
  obtain ⟨_, _, ⟨T2, L2, k2, n2⟩, -, X2, ⟨Lc2, hQ2, l2, y2, z2⟩, st2⟩ := X0.privateBack hx (y := (⟨"java/util/ArrayList", "grow", "()[Ljava/lang/Object;"⟩ : MethodName)) hown (mvT hZ (w116 hw)) (mvT hZ (w117 hw)) (mvT hZ (w119 hw)) (Cond.privateMethod_at (mvP hZ (w118 hw) (args := #[]))) (mvT hZ (w120 hw)) (by decide) (backOf (W := 0) (rm15_1 l Z a0 hw [] a1 a3 kz4 h0 n0 O0 P3 P2 P4 P1 P5 P6 P7) hZ (w120 hw) (w76 hw) (by decide) (by decide)) (g := (mkF m 7 #[.val (.ref a1), .val (.ref a2), .val (.ref a3), .val (.int (0 : Int32))] [(.ref a1)])) rfl (by rw [hml]; rfl) (Steps.refl _) (a := a1) (by rw [e0]; exact u2) u2' (argsL := []) (rest := []) (lenOf pd_16 rfl) rfl (by show 2 * 0 + _ ≤ _; exact Nat.le_of_eq rfl) (hb hby d14_7) (fun vm₁ hw₁ => ⟨rfl, e0, (by decide : 0 + 1 ≤ _), (by decide : 0 + 10 ≤ _)⟩)
  dsimp only [Pt.U, Pt.locs, Pt.cells, Pt.slots] at X2 l2 y2 z2 st2 hQ2
  subst l2 y2 z2
  obtain ⟨b6_2_2, k6_2_2, rfl, M2, K2c, r2_0, r2_1, r2_2, r2_3, r2_4, r2_5⟩ := hQ2
  have N2 := Fr.app N0 M2
  have g_b6_2_2 : n0 ≤ b6_2_2 := Nat.le_trans (own_n0 O0) r2_0
  have s_b6_2_2 : h0.size ≤ b6_2_2 := Nat.le_trans (Keep.refl h0 [a1]).1 r2_0
  have O2 : Old Z n0 T2.heap := O0.keep K2c (allS P6 all0)
  have K2 : Keep h0 T2.heap [a1] := (Keep.refl h0 [a1]).trans K2c (allS (Or.inl (List.mem_of_getElem? (i := 0) rfl)) all0)
  refine Go.tr st2 ?_
  show Go p e below _ (T2.setTop (mkF m 10 #[.val (.ref a1), .val (.ref a2), .val (.ref a3), .val (.int (0 : Int32))] [(.ref b6_2_2)]))
  refine Go.st (fun t k => XS.astoreN X2.here hx rfl (hb hby d14_10) rfl rfl (l' := #[.val (.ref a1), .val (.ref a2), .val (.ref b6_2_2), .val (.int (0 : Int32))]) rfl k) ?_
  show Go p e below _ (T2.setTop (mkF m 11 #[.val (.ref a1), .val (.ref a2), .val (.ref b6_2_2), .val (.int (0 : Int32))] []))
  refine Go.st (fun t k => XS.aloadN X2.here hx rfl (hb hby d14_11) rfl rfl k) ?_
  show Go p e below _ (T2.setTop (mkF m 12 #[.val (.ref a1), .val (.ref a2), .val (.ref b6_2_2), .val (.int (0 : Int32))] [(.ref b6_2_2)]))
  refine Go.st (fun t k => XS.iloadN X2.here hx rfl (hb hby d14_12) rfl k) ?_
  show Go p e below _ (T2.setTop (mkF m 13 #[.val (.ref a1), .val (.ref a2), .val (.ref b6_2_2), .val (.int (0 : Int32))] [(.int (0 : Int32)), (.ref b6_2_2)]))
  refine Go.st (fun t k => XS.aloadN X2.here hx rfl (hb hby d14_13) rfl rfl k) ?_
  show Go p e below _ (T2.setTop (mkF m 14 #[.val (.ref a1), .val (.ref a2), .val (.ref b6_2_2), .val (.int (0 : Int32))] [(.ref a2), (.int (0 : Int32)), (.ref b6_2_2)]))
  obtain ⟨cl3, Ar3, q3, S3, M3, H3, G3⟩ := id r2_1
  have hin3 : ¬ ((0 : Int32) < 0 ∨ cl3.slots.size ≤ ((0 : Int32)).toNatClampNeg) := inb_of S3 ⟨by decide, by decide⟩
  obtain ⟨T3, h3, X3, e3, W3, st3⟩ := stR X2 hx hZ rfl Ar3 (j := (0 : Int32)) hin3 rfl (Sto.ofV Ar3 q3 r2_2 (Ins.of_exa (P8.keep K2c) (w132 hw))) (g := (mkF m 14 #[.val (.ref a1), .val (.ref a2), .val (.ref b6_2_2), .val (.int (0 : Int32))] [(.ref a2), (.int (0 : Int32)), (.ref b6_2_2)])) rfl rfl (hb hby d14_14)
  have V3 : Arv Z h3 b6_2_2 k6_2_2 (.object "java/lang/Object") (10 : Int32) [(.ref a2), .null, .null, .null, .null, .null, .null, .null, .null, .null] .null := Arv.set Ar3 q3 S3 M3 H3 G3 rfl W3 0 rfl (Nat.le_of_ble_eq_true rfl)
  have N3 := Fr.snoc X3 N2 g_b6_2_2
  have O3 : Old Z n0 h3 := O2.wr W3 g_b6_2_2
  have K3 : Keep h0 h3 [a1] := K2.wr W3 (Or.inr s_b6_2_2)
  refine Go.st st3 ?_
  show Go p e below _ (T3.setTop (mkF m 15 #[.val (.ref a1), .val (.ref a2), .val (.ref b6_2_2), .val (.int (0 : Int32))] []))
  refine Go.st (fun t k => XS.aloadN X3.here hx rfl (hb hby d14_15) rfl rfl k) ?_
  show Go p e below _ (T3.setTop (mkF m 16 #[.val (.ref a1), .val (.ref a2), .val (.ref b6_2_2), .val (.int (0 : Int32))] [(.ref a1)]))
  refine Go.st (fun t k => XS.iloadN X3.here hx rfl (hb hby d14_16) rfl k) ?_
  show Go p e below _ (T3.setTop (mkF m 17 #[.val (.ref a1), .val (.ref a2), .val (.ref b6_2_2), .val (.int (0 : Int32))] [(.int (0 : Int32)), (.ref a1)]))
  refine Go.st (fun t k => XS.iconst X3.here hx rfl (hb hby d14_17) k) ?_
  show Go p e below _ (T3.setTop (mkF m 18 #[.val (.ref a1), .val (.ref a2), .val (.ref b6_2_2), .val (.int (0 : Int32))] [(.int (1 : Int32)), (.int (0 : Int32)), (.ref a1)]))
  refine Go.st (fun t k => XS.iadd X3.here hx rfl (hb hby d14_18) rfl k) ?_
  show Go p e below _ (T3.setTop (mkF m 19 #[.val (.ref a1), .val (.ref a2), .val (.ref b6_2_2), .val (.int (0 : Int32))] [(.int (1 : Int32)), (.ref a1)]))
  have c4 := (r2_3.other W3 (Or.inl (Nat.ne_of_lt (Nat.lt_of_lt_of_le P2.lt r2_0))))
  obtain ⟨T5, h5, X5, e5, W5, st5⟩ := putF X3 hx hZ hown (host := "") (Or.inl (w109 hw)) Via.refl e3 c4 ((P2.keep K2c).wr W3) (Or.inl (w110 hw)) (w75 hw) (ty := .int) (by decide) rfl rfl (g := (mkF m 19 #[.val (.ref a1), .val (.ref a2), .val (.ref b6_2_2), .val (.int (0 : Int32))] [(.int (1 : Int32)), (.ref a1)])) rfl rfl (hb hby d14_19)
  have F5 : Fld Z h5 a1 "java/util/ArrayList" "size" "I" (.int (1 : Int32)) := c4.same W5
  have N5 := Fr.snoc X5 N3 P6
  have O5 : Old Z n0 h5 := O3.wr W5 P6
  have K5 : Keep h0 h5 [a1] := K3.wr W5 (Or.inl (List.mem_of_getElem? (i := 0) rfl))
  refine Go.st st5 ?_
  show Go p e below _ (T5.setTop (mkF m 22 #[.val (.ref a1), .val (.ref a2), .val (.ref b6_2_2), .val (.int (0 : Int32))] []))
  obtain ⟨fs, hr, hrun, hended, hWd, hsame⟩ := X5.leave (v := none) (fun _ => rfl)
  have c6 := ((r2_4.other W3 (Or.inl (Nat.ne_of_lt (Nat.lt_of_lt_of_le P2.lt r2_0)))).other W5 (Or.inr (slot_ne (Or.inl (w97 hw)) (Or.inl (w110 hw)) (by decide) (t := (.array (.object "java/lang/Object"))) (t' := .int) (by decide) (by decide))))
  have c7 := ((r2_5.other W3 (Or.inl (Nat.ne_of_lt (Nat.lt_of_lt_of_le P2.lt r2_0)))).other W5 (Or.inr (slot_ne (Or.inl (w94 hw)) (Or.inl (w110 hw)) (by decide) (t := .int) (t' := .int) (by decide) (by decide))))
  have c8 := (V3.other W5 (Ne.symm (Nat.ne_of_lt (Nat.lt_of_lt_of_le P2.lt r2_0))))
  refine ⟨_, _, ?_, hrun, hended, _, _, rfl, ?_, ⟨⟨_, rfl⟩, hWd, hsame.mono (by decide) (by decide)⟩⟩
  · exact X5.returnOut hx Bd.returns (hb hby d14_22) hr
  · show Q_rm14_1 Z a1 a2 a3 kz4 h0 n0 _ T5.heap _
    rw [e5]
    exact ⟨b6_2_2, k6_2_2, rfl, N5, K5, s_b6_2_2, F5, c6, c7, c8, r2_2⟩
def Q_rm13_1 (Z : State) (a1 : Addr) (a2 : Addr) (a3 : Addr) (kz4 : ClassId) (h0 : Heap) (n0 : Nat) (v : Option Value) (h : Heap) (L : List Loc) : Prop := ∃ (b6_2_2_7 : Addr) (k6_2_2_7 : ClassId), v = some (.int (1 : Int32)) ∧ Fr n0 L ∧ Keep h0 h [a1] ∧ h0.size ≤ b6_2_2_7 ∧ Fld Z h a1 "java/util/AbstractList" "modCount" "I" (.int (1 : Int32)) ∧ Fld Z h a1 "java/util/ArrayList" "elementData" "[Ljava/lang/Object;" (.ref b6_2_2_7) ∧ Fld Z h a1 "java/util/ArrayList" "size" "I" (.int (1 : Int32)) ∧ Arv Z h b6_2_2_7 k6_2_2_7 (.object "java/lang/Object") (10 : Int32) [(.ref a2), .null, .null, .null, .null, .null, .null, .null, .null, .null] .null ∧ Ovr Z k6_2_2_7 "java/lang/Object"
set_option maxRecDepth 65536 in
set_option maxHeartbeats 40000000 in
theorem rm13_1 (l : Launch) (Z : State) (a0 : Array Value) (hw : ∀ d ∈ tables_1, d.before a0 Z = true) (ws : List Jvm.Cond) (a1 : Addr) (a2 : Addr) (a3 : Addr) (kz4 : ClassId) (h0 : Heap) (n0 : Nat) (O0 : Old Z n0 h0) (P1 : Fld Z h0 a1 "java/util/AbstractList" "modCount" "I" (.int (0 : Int32))) (P2 : Exa Z h0 a1 "java/util/ArrayList") (P3 : n0 ≤ a1) (P4 : Fld Z h0 a1 "java/util/ArrayList" "elementData" "[Ljava/lang/Object;" (.ref a3)) (P5 : Fld Z h0 a1 "java/util/ArrayList" "size" "I" (.int (0 : Int32))) (P6 : Arv Z Z.heap a3 kz4 (.object "java/lang/Object") (0 : Int32) [] .null) (P7 : Sta Z Z.heap "java/util/ArrayList" "DEFAULTCAPACITY_EMPTY_ELEMENTDATA" "[Ljava/lang/Object;" (.ref a3)) (P8 : Exa Z h0 a2 "java/lang/String") :
    MetFree l (⟨"java/util/ArrayList", "add", "(Ljava/lang/Object;)Z"⟩ : MethodName) (head1 (Jvm.Cond.code (⟨"java/util/ArrayList", "add", "(Ljava/lang/Object;)Z"⟩ : MethodName) jdk_38_method_25_code 2 (some .boolean) :: ws) ({ frames := 4, cells := 1, slots := 10, locals := 56 } : Room)) (fun a U => a = #[(.ref a1), (.ref a2)] ∧ Z.Warmed39 U.vm ∧ U.heap = h0) (fun _ _ _ _ _ => True) (fun _ U o U' => ∃ v L, o = .returned v ∧ Q_rm13_1 Z a1 a2 a3 kz4 h0 n0 v U'.heap L ∧ FrameEnd U o U' L ({ frames := 4, cells := 1, slots := 10, locals := 56 } : Room).cells ({ frames := 4, cells := 1, slots := 10, locals := 56 } : Room).slots) := by
  refine MetFree.of_bodySF (plainFor_of_name pn_9) hisR ?_
  intro p e s m args below meth c s₁ Bd hml0 hP hK
  obtain ⟨rfl, hZ, hh⟩ := hP
  have hx := Bd.exec
  have hby := Bd.bytes
  have hml : c.maxLocals = 2 := hml0
  have hown : s.vm.findClass "java/util/ArrayList" = some m.cls := findClass_of_methodNamed Bd.named
  have hnm := (name_of_methodNamed Bd.named Bd.method).1
  have X0 : Stand p l e ({ frames := 4, cells := 1, slots := 10, locals := 56 } : Room) s m #[(.ref a1), (.ref a2)] below meth c s₁ [] 0 0 := Stand.of_body Bd
  have e0 : s₁.heap = h0 := by rw [← hh, Bd.state]; rfl
  have N0 := Fr.nil n0
  refine Go.start (P := (fun o U' => ∃ v L, o = .returned v ∧ Q_rm13_1 Z a1 a2 a3 kz4 h0 n0 v U'.heap L ∧ FrameEnd s o U' L ({ frames := 4, cells := 1, slots := 10, locals := 56 } : Room).cells ({ frames := 4, cells := 1, slots := 10, locals := 56 } : Room).slots)) (castTop (g' := (mkF m 0 #[.val (.ref a1), .val (.ref a2)] [])) (by first | rfl | simp [entryFrame, mkF, argsToLocals, Value.category]) (T := s₁)) ?_
  refine Go.st (fun t k => XS.aloadN X0.here hx rfl (hb hby d13_0) rfl rfl k) ?_
  show Go p e below _ (s₁.setTop (mkF m 1 #[.val (.ref a1), .val (.ref a2)] [(.ref a1)]))
  refine Go.st (fun t k => XS.dup X0.here hx rfl (hb hby d13_1) rfl rfl k) ?_
  show Go p e below _ (s₁.setTop (mkF m 2 #[.val (.ref a1), .val (.ref a2)] [(.ref a1), (.ref a1)]))
  obtain ⟨T1, X1, e1, st1⟩ := getF X0 hx hZ hown (host := "") (Or.inl (w107 hw)) (Via.of (w108 hw)) e0 P1 (g := (mkF m 2 #[.val (.ref a1), .val (.ref a2)] [(.ref a1), (.ref a1)])) rfl rfl (hb hby d13_2)
  refine Go.st st1 ?_
  show Go p e below _ (T1.setTop (mkF m 5 #[.val (.ref a1), .val (.ref a2)] [(.int (0 : Int32)), (.ref a1)]))
  refine Go.st (fun t k => XS.iconst X1.here hx rfl (hb hby d13_5) k) ?_
  show Go p e below _ (T1.setTop (mkF m 6 #[.val (.ref a1), .val (.ref a2)] [(.int (1 : Int32)), (.int (0 : Int32)), (.ref a1)]))
  refine Go.st (fun t k => XS.iadd X1.here hx rfl (hb hby d13_6) rfl k) ?_
  show Go p e below _ (T1.setTop (mkF m 7 #[.val (.ref a1), .val (.ref a2)] [(.int (1 : Int32)), (.ref a1)]))
  obtain ⟨T2, h2, X2, e2, W2, st2⟩ := putF X1 hx hZ hown (host := "") (Or.inl (w107 hw)) (Via.of (w108 hw)) e1 P1 P2 (Or.inl (w94 hw)) (w75 hw) (ty := .int) (by decide) rfl rfl (g := (mkF m 7 #[.val (.ref a1), .val (.ref a2)] [(.int (1 : Int32)), (.ref a1)])) rfl rfl (hb hby d13_7)
  have F2 : Fld Z h2 a1 "java/util/AbstractList" "modCount" "I" (.int (1 : Int32)) := P1.same W2
  have N2 := Fr.snoc X2 N0 P3
  have O2 : Old Z n0 h2 := O0.wr W2 P3
  have K2 : Keep h0 h2 [a1] := (Keep.refl h0 [a1]).wr W2 (Or.inl (List.mem_of_getElem? (i := 0) rfl))
  refine Go.st st2 ?_
  show Go p e below _ (T2.setTop (mkF m 10 #[.val (.ref a1), .val (.ref a2)] []))
  refine Go.st (fun t k => XS.aloadN X2.here hx rfl (hb hby d13_10) rfl rfl k) ?_
  show Go p e below _ (T2.setTop (mkF m 11 #[.val (.ref a1), .val (.ref a2)] [(.ref a1)]))
  refine Go.st (fun t k => XS.aloadN X2.here hx rfl (hb hby d13_11) rfl rfl k) ?_
  show Go p e below _ (T2.setTop (mkF m 12 #[.val (.ref a1), .val (.ref a2)] [(.ref a2), (.ref a1)]))
  refine Go.st (fun t k => XS.aloadN X2.here hx rfl (hb hby d13_12) rfl rfl k) ?_
  show Go p e below _ (T2.setTop (mkF m 13 #[.val (.ref a1), .val (.ref a2)] [(.ref a1), (.ref a2), (.ref a1)]))
  have c3 := (P4.other W2 (Or.inr (slot_ne (Or.inl (w97 hw)) (Or.inl (w94 hw)) (by decide) (t := (.array (.object "java/lang/Object"))) (t' := .int) (by decide) (by decide))))
  obtain ⟨T4, X4, e4, st4⟩ := getF X2 hx hZ hown (host := "") (Or.inl (w96 hw)) Via.refl e2 c3 (g := (mkF m 13 #[.val (.ref a1), .val (.ref a2)] [(.ref a1), (.ref a2), (.ref a1)])) rfl rfl (hb hby d13_13)
  refine Go.st st4 ?_
  show Go p e below _ (T4.setTop (mkF m 16 #[.val (.ref a1), .val (.ref a2)] [(.ref a3), (.ref a2), (.ref a1)]))
  refine Go.st (fun t k => XS.aloadN X4.here hx rfl (hb hby d13_16) rfl rfl k) ?_
  show Go p e below _ (T4.setTop (mkF m 17 #[.val (.ref a1), .val (.ref a2)] [(.ref a1), (.ref a3), (.ref a2), (.ref a1)]))
  have c5 := (P5.other W2 (Or.inr (slot_ne (Or.inl (w110 hw)) (Or.inl (w94 hw)) (by decide) (t := .int) (t' := .int) (by decide) (by decide))))
  obtain ⟨T6, X6, e6, st6⟩ := getF X4 hx hZ hown (host := "") (Or.inl (w109 hw)) Via.refl e4 c5 (g := (mkF m 17 #[.val (.ref a1), .val (.ref a2)] [(.ref a1), (.ref a3), (.ref a2), (.ref a1)])) rfl rfl (hb hby d13_17)
  refine Go.st st6 ?_
  show Go p e below _ (T6.setTop (mkF m 20 #[.val (.ref a1), .val (.ref a2)] [(.int (0 : Int32)), (.ref a3), (.ref a2), (.ref a1)]))
  obtain ⟨cq7, u7, u7'⟩ := (P2.wr W2).cell
  obtain ⟨_, _, ⟨T7, L7, k7, n7⟩, -, X7, ⟨Lc7, hQ7, l7, y7, z7⟩, st7⟩ := X6.privateBack hx (y := (⟨"java/util/ArrayList", "add", "(Ljava/lang/Object;[Ljava/lang/Object;I)V"⟩ : MethodName)) hown (mvT hZ (w111 hw)) (mvT hZ (w112 hw)) (mvT hZ (w114 hw)) (Cond.privateMethod_at (mvP hZ (w113 hw) (args := #[]))) (mvT hZ (w115 hw)) (by decide) (backOf (W := 0) (rm14_1 l Z a0 hw [] a1 a2 a3 kz4 h2 n0 O2 P6 (P2.wr W2) c5 c3 P7 P3 F2 (P8.wr W2)) hZ (w115 hw) (w76 hw) (by decide) (by decide)) (g := (mkF m 20 #[.val (.ref a1), .val (.ref a2)] [(.int (0 : Int32)), (.ref a3), (.ref a2), (.ref a1)])) rfl (by rw [hml]; rfl) (Steps.refl _) (a := a1) (by rw [e6]; exact u7) u7' (argsL := [(.ref a2), (.ref a3), (.int (0 : Int32))]) (rest := []) (lenOf pd_17 rfl) rfl (by show 2 * 0 + _ ≤ _; exact Nat.le_of_eq rfl) (hb hby d13_20) (fun vm₁ hw₁ => ⟨rfl, e6, (by decide : 0 + 1 ≤ _), (by decide : 0 + 10 ≤ _)⟩)
  dsimp only [Pt.U, Pt.locs, Pt.cells, Pt.slots] at X7 l7 y7 z7 st7 hQ7
  subst l7 y7 z7
  obtain ⟨b6_2_2_7, k6_2_2_7, rfl, M7, K7c, r7_0, r7_1, r7_2, r7_3, r7_4, r7_5⟩ := hQ7
  have N7 := Fr.app N2 M7
  have g_b6_2_2_7 : n0 ≤ b6_2_2_7 := Nat.le_trans (own_n0 O2) r7_0
  have s_b6_2_2_7 : h0.size ≤ b6_2_2_7 := Nat.le_trans K2.1 r7_0
  have O7 : Old Z n0 T7.heap := O2.keep K7c (allS P3 all0)
  have K7 : Keep h0 T7.heap [a1] := K2.trans K7c (allS (Or.inl (List.mem_of_getElem? (i := 0) rfl)) all0)
  refine Go.tr st7 ?_
  show Go p e below _ (T7.setTop (mkF m 23 #[.val (.ref a1), .val (.ref a2)] []))
  refine Go.st (fun t k => XS.iconst X7.here hx rfl (hb hby d13_23) k) ?_
  show Go p e below _ (T7.setTop (mkF m 24 #[.val (.ref a1), .val (.ref a2)] [(.int (1 : Int32))]))
  obtain ⟨fs, hr, hrun, hended, hWd, hsame⟩ := X7.leave (v := some (.int (1 : Int32))) (fun h => by rw [Bd.returns] at h; cases h)
  refine ⟨_, _, ?_, hrun, hended, _, _, rfl, ?_, ⟨⟨_, rfl⟩, hWd, hsame.mono (by decide) (by decide)⟩⟩
  · exact retN X7 hx (t := .boolean) Bd.returns (by simp) (hb hby d13_24) hr
  · show Q_rm13_1 Z a1 a2 a3 kz4 h0 n0 _ T7.heap _
    exact ⟨b6_2_2_7, k6_2_2_7, rfl, N7, K7, s_b6_2_2_7, r7_3, r7_2, r7_1, r7_4, r7_5⟩
def Q_rm9_1 (Z : State) (a1 : Addr) (a2 : Addr) (a3 : Addr) (kz4 : ClassId) (p5 : Int32) (a6 : Addr) (a7 : Addr) (a8 : Addr) (h0 : Heap) (n0 : Nat) (v : Option Value) (h : Heap) (L : List Loc) : Prop := ∃ (b2 : Addr) (b6_2_2_7_10 : Addr) (k6_2_2_7_10 : ClassId), v = none ∧ Fr n0 L ∧ Keep h0 h [a1] ∧ h0.size ≤ b2 ∧ h0.size ≤ b6_2_2_7_10 ∧ b2 ≠ b6_2_2_7_10 ∧ Fld Z h a1 "com/example/cropmark/cropmark/Row" "problems" "Ljava/util/List;" (.ref b2) ∧ Fld Z h a1 "com/example/cropmark/cropmark/Row" "line" "I" (.int p5) ∧ Fld Z h a1 "com/example/cropmark/cropmark/Row" "columns" "Ljava/util/Map;" .null ∧ Fld Z h a1 "com/example/cropmark/cropmark/Row" "bytes" "[B" (.ref a6) ∧ Fld Z h a1 "com/example/cropmark/cropmark/Row" "starts" "[I" (.ref a7) ∧ Fld Z h a1 "com/example/cropmark/cropmark/Row" "ends" "[I" (.ref a8) ∧ Exa Z h b2 "java/util/ArrayList" ∧ Fld Z h b2 "java/util/AbstractList" "modCount" "I" (.int (1 : Int32)) ∧ Fld Z h b2 "java/util/ArrayList" "elementData" "[Ljava/lang/Object;" (.ref b6_2_2_7_10) ∧ Fld Z h b2 "java/util/ArrayList" "size" "I" (.int (1 : Int32)) ∧ Arv Z h b6_2_2_7_10 k6_2_2_7_10 (.object "java/lang/Object") (10 : Int32) [(.ref a2), .null, .null, .null, .null, .null, .null, .null, .null, .null] .null ∧ Ovr Z k6_2_2_7_10 "java/lang/Object"
set_option maxRecDepth 65536 in
set_option maxHeartbeats 40000000 in
theorem rm9_1 (l : Launch) (Z : State) (a0 : Array Value) (hw : ∀ d ∈ tables_1, d.before a0 Z = true) (ws : List Jvm.Cond) (a1 : Addr) (a2 : Addr) (a3 : Addr) (kz4 : ClassId) (p5 : Int32) (a6 : Addr) (a7 : Addr) (a8 : Addr) (h0 : Heap) (n0 : Nat) (O0 : Old Z n0 h0) (P1 : Fld Z h0 a1 "com/example/cropmark/cropmark/Row" "problems" "Ljava/util/List;" .null) (P2 : Sta Z Z.heap "java/util/ArrayList" "DEFAULTCAPACITY_EMPTY_ELEMENTDATA" "[Ljava/lang/Object;" (.ref a3)) (P3 : Exa Z h0 a1 "com/example/cropmark/cropmark/Row") (P4 : n0 ≤ a1) (P5 : Arv Z Z.heap a3 kz4 (.object "java/lang/Object") (0 : Int32) [] .null) (P6 : Exa Z h0 a2 "java/lang/String") (P7 : Fld Z h0 a1 "com/example/cropmark/cropmark/Row" "line" "I" (.int p5)) (P8 : Fld Z h0 a1 "com/example/cropmark/cropmark/Row" "columns" "Ljava/util/Map;" .null) (P9 : Fld Z h0 a1 "com/example/cropmark/cropmark/Row" "bytes" "[B" (.ref a6)) (P10 : Fld Z h0 a1 "com/example/cropmark/cropmark/Row" "starts" "[I" (.ref a7)) (P11 : Fld Z h0 a1 "com/example/cropmark/cropmark/Row" "ends" "[I" (.ref a8)) :
    MetFree l (⟨"com/example/cropmark/cropmark/Row", "problem", "(Ljava/lang/String;)V"⟩ : MethodName) (head1 (Jvm.Cond.code (⟨"com/example/cropmark/cropmark/Row", "problem", "(Ljava/lang/String;)V"⟩ : MethodName) prog_67_method_18_code 2 none :: ws) ({ frames := 5, cells := 2, slots := 13, locals := 69 } : Room)) (fun a U => a = #[(.ref a1), (.ref a2)] ∧ Z.Warmed39 U.vm ∧ U.heap = h0) (fun _ _ _ _ _ => True) (fun _ U o U' => ∃ v L, o = .returned v ∧ Q_rm9_1 Z a1 a2 a3 kz4 p5 a6 a7 a8 h0 n0 v U'.heap L ∧ FrameEnd U o U' L ({ frames := 5, cells := 2, slots := 13, locals := 69 } : Room).cells ({ frames := 5, cells := 2, slots := 13, locals := 69 } : Room).slots) := by
  refine MetFree.of_bodySF (plainFor_of_name pn_4) hisR ?_
  intro p e s m args below meth c s₁ Bd hml0 hP hK
  obtain ⟨rfl, hZ, hh⟩ := hP
  have hx := Bd.exec
  have hby := Bd.bytes
  have hml : c.maxLocals = 2 := hml0
  have hown : s.vm.findClass "com/example/cropmark/cropmark/Row" = some m.cls := findClass_of_methodNamed Bd.named
  have hnm := (name_of_methodNamed Bd.named Bd.method).1
  have X0 : Stand p l e ({ frames := 5, cells := 2, slots := 13, locals := 69 } : Room) s m #[(.ref a1), (.ref a2)] below meth c s₁ [] 0 0 := Stand.of_body Bd
  have e0 : s₁.heap = h0 := by rw [← hh, Bd.state]; rfl
  have N0 := Fr.nil n0
  refine Go.start (P := (fun o U' => ∃ v L, o = .returned v ∧ Q_rm9_1 Z a1 a2 a3 kz4 p5 a6 a7 a8 h0 n0 v U'.heap L ∧ FrameEnd s o U' L ({ frames := 5, cells := 2, slots := 13, locals := 69 } : Room).cells ({ frames := 5, cells := 2, slots := 13, locals := 69 } : Room).slots)) (castTop (g' := (mkF m 0 #[.val (.ref a1), .val (.ref a2)] [])) (by first | rfl | simp [entryFrame, mkF, argsToLocals, Value.category]) (T := s₁)) ?_
  refine Go.st (fun t k => XS.aloadN X0.here hx rfl (hb hby d9_0) rfl rfl k) ?_
  show Go p e below _ (s₁.setTop (mkF m 1 #[.val (.ref a1), .val (.ref a2)] [(.ref a1)]))
  obtain ⟨T1, X1, e1, st1⟩ := getF X0 hx hZ hown (host := "") (Or.inl (w49 hw)) Via.refl e0 P1 (g := (mkF m 1 #[.val (.ref a1), .val (.ref a2)] [(.ref a1)])) rfl rfl (hb hby d9_1)
  refine Go.st st1 ?_
  show Go p e below _ (T1.setTop (mkF m 4 #[.val (.ref a1), .val (.ref a2)] [.null]))
  refine Go.st (fun t k => XS.ifnonnullNo X1.here hx rfl (hb hby d9_4) rfl k) ?_
  show Go p e below _ (T1.setTop (mkF m 7 #[.val (.ref a1), .val (.ref a2)] []))
  refine Go.st (fun t k => XS.aloadN X1.here hx rfl (hb hby d9_7) rfl rfl k) ?_
  show Go p e below _ (T1.setTop (mkF m 8 #[.val (.ref a1), .val (.ref a2)] [(.ref a1)]))
  obtain ⟨T2, h2, X2, e2, E2, A2, D2, -, st2⟩ := newO X1 hx hZ hown (w74 hw) (w75 hw) (w76 hw) e1 (g := (mkF m 8 #[.val (.ref a1), .val (.ref a2)] [(.ref a1)])) rfl (hb hby d9_8) (by decide) (by decide)
  obtain ⟨b2, z2⟩ : ∃ z, z = h0.size := ⟨_, rfl⟩
  rw [← z2] at A2 D2 st2
  have g_b2 : n0 ≤ b2 := Nat.le_trans (own_n0 O0) (Nat.le_of_eq z2.symm)
  have s_b2 : h0.size ≤ b2 := Nat.le_trans (Keep.refl h0 [a1]).1 (Nat.le_of_eq z2.symm)
  have O2 : Old Z n0 h2 := O0.ext E2
  have K2 : Keep h0 h2 [a1] := (Keep.refl h0 [a1]).ext E2
  have f2_94 : Fld Z h2 b2 "java/util/AbstractList" "modCount" "I" (.int (0 : Int32)) := D2 (Or.inl (w94 hw)) (ty := .int) (by decide)
  have f2_97 : Fld Z h2 b2 "java/util/ArrayList" "elementData" "[Ljava/lang/Object;" .null := D2 (Or.inl (w97 hw)) (ty := (.array (.object "java/lang/Object"))) (by decide)
  have f2_110 : Fld Z h2 b2 "java/util/ArrayList" "size" "I" (.int (0 : Int32)) := D2 (Or.inl (w110 hw)) (ty := .int) (by decide)
  refine Go.st st2 ?_
  show Go p e below _ (T2.setTop (mkF m 11 #[.val (.ref a1), .val (.ref a2)] [(.ref b2), (.ref a1)]))
  refine Go.st (fun t k => XS.dup X2.here hx rfl (hb hby d9_11) rfl rfl k) ?_
  show Go p e below _ (T2.setTop (mkF m 12 #[.val (.ref a1), .val (.ref a2)] [(.ref b2), (.ref b2), (.ref a1)]))
  obtain ⟨_, _, ⟨T3, L3, k3, n3⟩, -, X3, ⟨Lc3, hQ3, l3, y3, z3⟩, st3⟩ := X2.specialBack hx (y := (⟨"java/util/ArrayList", "<init>", "()V"⟩ : MethodName)) rfl hown (mvT hZ (w77 hw)) (mvT hZ (w78 hw)) (mvT hZ (w79 hw)) (by decide) (backOf (W := 2) (rm10_1 l Z a0 hw [] b2 a3 h2 n0 O2 A2 f2_94 g_b2 f2_97 f2_110 P2) hZ (w79 hw) (w76 hw) (by decide) (by decide)) (g := (mkF m 12 #[.val (.ref a1), .val (.ref a2)] [(.ref b2), (.ref b2), (.ref a1)])) rfl (by rw [hml]; rfl) (Steps.refl _) (a := b2) (argsL := []) (rest := [(.ref b2), (.ref a1)]) (lenOf pd_13 rfl) rfl (by show 2 * 0 + _ ≤ _; exact Nat.le_of_eq rfl) (hb hby d9_12) (fun vm₁ hw₁ => ⟨rfl, e2, (by decide : 1 + 0 ≤ _), (by decide : 3 + 0 ≤ _)⟩)
  dsimp only [Pt.U, Pt.locs, Pt.cells, Pt.slots] at X3 l3 y3 z3 st3 hQ3
  subst l3 y3 z3
  obtain ⟨rfl, M3, K3c, r3_0, r3_1, r3_2⟩ := hQ3
  have N3 := Fr.app N0 M3
  have O3 : Old Z n0 T3.heap := O2.keep K3c (allS g_b2 all0)
  have K3 : Keep h0 T3.heap [a1] := K2.trans K3c (allS (Or.inr s_b2) all0)
  refine Go.tr st3 ?_
  show Go p e below _ (T3.setTop (mkF m 15 #[.val (.ref a1), .val (.ref a2)] [(.ref b2), (.ref a1)]))
  have c4 := ((P1.ext E2).keep K3c (ninS (Nat.ne_of_lt (Nat.lt_of_lt_of_le P1.lt (Nat.le_of_eq z2.symm))) nin0))
  obtain ⟨T5, h5, X5, e5, W5, st5⟩ := putF X3 hx hZ hown (host := "") (Or.inl (w49 hw)) Via.refl rfl c4 ((P3.ext E2).keep K3c) (Or.inl (w50 hw)) (w27 hw) (ty := (.object "java/util/List")) (by decide) rfl rfl (g := (mkF m 15 #[.val (.ref a1), .val (.ref a2)] [(.ref b2), (.ref a1)])) rfl rfl (hb hby d9_15)
  have F5 : Fld Z h5 a1 "com/example/cropmark/cropmark/Row" "problems" "Ljava/util/List;" (.ref b2) := c4.same W5
  have N5 := Fr.snoc X5 N3 P4
  have O5 : Old Z n0 h5 := O3.wr W5 P4
  have K5 : Keep h0 h5 [a1] := K3.wr W5 (Or.inl (List.mem_of_getElem? (i := 0) rfl))
  refine Go.st st5 ?_
  show Go p e below _ (T5.setTop (mkF m 18 #[.val (.ref a1), .val (.ref a2)] []))
  refine Go.st (fun t k => XS.aloadN X5.here hx rfl (hb hby d9_18) rfl rfl k) ?_
  show Go p e below _ (T5.setTop (mkF m 19 #[.val (.ref a1), .val (.ref a2)] [(.ref a1)]))
  obtain ⟨T6, X6, e6, st6⟩ := getF X5 hx hZ hown (host := "") (Or.inl (w49 hw)) Via.refl e5 F5 (g := (mkF m 19 #[.val (.ref a1), .val (.ref a2)] [(.ref a1)])) rfl rfl (hb hby d9_19)
  refine Go.st st6 ?_
  show Go p e below _ (T6.setTop (mkF m 22 #[.val (.ref a1), .val (.ref a2)] [(.ref b2)]))
  refine Go.st (fun t k => XS.aloadN X6.here hx rfl (hb hby d9_22) rfl rfl k) ?_
  show Go p e below _ (T6.setTop (mkF m 23 #[.val (.ref a1), .val (.ref a2)] [(.ref a2), (.ref b2)]))
  have c7 := (r3_0.other W5 (Or.inl (Ne.symm (Nat.ne_of_lt (Nat.lt_of_lt_of_le P1.lt (Nat.le_of_eq z2.symm))))))
  have c8 := (r3_1.other W5 (Or.inl (Ne.symm (Nat.ne_of_lt (Nat.lt_of_lt_of_le P1.lt (Nat.le_of_eq z2.symm))))))
  have c9 := (r3_2.other W5 (Or.inl (Ne.symm (Nat.ne_of_lt (Nat.lt_of_lt_of_le P1.lt (Nat.le_of_eq z2.symm))))))
  obtain ⟨cq10, kq10, q10a, q10b, q10c⟩ := isOf hZ e6 ((A2.keep K3c).wr W5)
  obtain ⟨_, _, ⟨T10, L10, k10, n10⟩, -, X10, ⟨Lc10, hQ10, l10, y10, z10⟩, st10⟩ := X6.interfaceBack hx (xi := (⟨"java/util/List", "add", "(Ljava/lang/Object;)Z"⟩ : MethodName)) (y := (⟨"java/util/ArrayList", "add", "(Ljava/lang/Object;)Z"⟩ : MethodName)) hown (mvT hZ (w98 hw)) (mvT hZ (w99 hw)) (mvT hZ (w100 hw)) (mvT hZ (w101 hw)) (mvT hZ (w102 hw)) (mvT hZ (w103 hw)) (mvT hZ (w104 hw)) (mvT hZ (w105 hw)) (by decide) (backOf (W := 0) (rm13_1 l Z a0 hw [] b2 a2 a3 kz4 h5 n0 O5 c7 ((A2.keep K3c).wr W5) g_b2 c8 c9 P5 P2 (((P6.ext E2).keep K3c).wr W5)) hZ (w106 hw) (w76 hw) (by decide) (by decide)) q10a q10b q10c (g := (mkF m 23 #[.val (.ref a1), .val (.ref a2)] [(.ref a2), (.ref b2)])) rfl (by rw [hml]; rfl) (Steps.refl _) (argsL := [(.ref a2)]) (rest := []) (lenOf pd_18 rfl) rfl (by show 2 * 0 + _ ≤ _; exact Nat.le_of_eq rfl) (hb hby d9_23) (fun vm₁ hw₁ => ⟨rfl, e6, (by decide : 1 + 1 ≤ _), (by decide : 3 + 10 ≤ _)⟩)
  dsimp only [Pt.U, Pt.locs, Pt.cells, Pt.slots] at X10 l10 y10 z10 st10 hQ10
  subst l10 y10 z10
  obtain ⟨b6_2_2_7_10, k6_2_2_7_10, rfl, M10, K10c, r10_0, r10_1, r10_2, r10_3, r10_4, r10_5⟩ := hQ10
  have N10 := Fr.app N5 M10
  have g_b6_2_2_7_10 : n0 ≤ b6_2_2_7_10 := Nat.le_trans (own_n0 O5) r10_0
  have s_b6_2_2_7_10 : h0.size ≤ b6_2_2_7_10 := Nat.le_trans K5.1 r10_0
  have O10 : Old Z n0 T10.heap := O5.keep K10c (allS g_b2 all0)
  have K10 : Keep h0 T10.heap [a1] := K5.trans K10c (allS (Or.inr s_b2) all0)
  refine Go.tr st10 ?_
  show Go p e below _ (T10.setTop (mkF m 28 #[.val (.ref a1), .val (.ref a2)] [(.int (1 : Int32))]))
  refine Go.st (fun t k => XS.pop X10.here hx rfl (hb hby d9_28) rfl rfl k) ?_
  show Go p e below _ (T10.setTop (mkF m 29 #[.val (.ref a1), .val (.ref a2)] []))
  obtain ⟨fs, hr, hrun, hended, hWd, hsame⟩ := X10.leave (v := none) (fun _ => rfl)
  have c11 := (F5.keep K10c (ninS (Nat.ne_of_lt (Nat.lt_of_lt_of_le P1.lt (Nat.le_of_eq z2.symm))) nin0))
  have c12 := ((((P7.ext E2).keep K3c (ninS (Nat.ne_of_lt (Nat.lt_of_lt_of_le P1.lt (Nat.le_of_eq z2.symm))) nin0)).other W5 (Or.inr (slot_ne (Or.inr (w35 hw)) (Or.inl (w50 hw)) (by decide) (t := .int) (t' := (.object "java/util/List")) (by decide) (by decide)))).keep K10c (ninS (Nat.ne_of_lt (Nat.lt_of_lt_of_le P1.lt (Nat.le_of_eq z2.symm))) nin0))
  have c13 := ((((P8.ext E2).keep K3c (ninS (Nat.ne_of_lt (Nat.lt_of_lt_of_le P1.lt (Nat.le_of_eq z2.symm))) nin0)).other W5 (Or.inr (slot_ne (Or.inr (w37 hw)) (Or.inl (w50 hw)) (by decide) (t := (.object "java/util/Map")) (t' := (.object "java/util/List")) (by decide) (by decide)))).keep K10c (ninS (Nat.ne_of_lt (Nat.lt_of_lt_of_le P1.lt (Nat.le_of_eq z2.symm))) nin0))
  have c14 := ((((P9.ext E2).keep K3c (ninS (Nat.ne_of_lt (Nat.lt_of_lt_of_le P1.lt (Nat.le_of_eq z2.symm))) nin0)).other W5 (Or.inr (slot_ne (Or.inr (w39 hw)) (Or.inl (w50 hw)) (by decide) (t := (.array .byte)) (t' := (.object "java/util/List")) (by decide) (by decide)))).keep K10c (ninS (Nat.ne_of_lt (Nat.lt_of_lt_of_le P1.lt (Nat.le_of_eq z2.symm))) nin0))
  have c15 := ((((P10.ext E2).keep K3c (ninS (Nat.ne_of_lt (Nat.lt_of_lt_of_le P1.lt (Nat.le_of_eq z2.symm))) nin0)).other W5 (Or.inr (slot_ne (Or.inr (w41 hw)) (Or.inl (w50 hw)) (by decide) (t := (.array .int)) (t' := (.object "java/util/List")) (by decide) (by decide)))).keep K10c (ninS (Nat.ne_of_lt (Nat.lt_of_lt_of_le P1.lt (Nat.le_of_eq z2.symm))) nin0))
  have c16 := ((((P11.ext E2).keep K3c (ninS (Nat.ne_of_lt (Nat.lt_of_lt_of_le P1.lt (Nat.le_of_eq z2.symm))) nin0)).other W5 (Or.inr (slot_ne (Or.inr (w43 hw)) (Or.inl (w50 hw)) (by decide) (t := (.array .int)) (t' := (.object "java/util/List")) (by decide) (by decide)))).keep K10c (ninS (Nat.ne_of_lt (Nat.lt_of_lt_of_le P1.lt (Nat.le_of_eq z2.symm))) nin0))
  refine ⟨_, _, ?_, hrun, hended, _, _, rfl, ?_, ⟨⟨_, rfl⟩, hWd, hsame.mono (by decide) (by decide)⟩⟩
  · exact X10.returnOut hx Bd.returns (hb hby d9_29) hr
  · show Q_rm9_1 Z a1 a2 a3 kz4 p5 a6 a7 a8 h0 n0 _ T10.heap _
    exact ⟨b2, b6_2_2_7_10, k6_2_2_7_10, rfl, N10, K10, s_b2, s_b6_2_2_7_10, (Nat.ne_of_lt (Nat.lt_of_lt_of_le (Nat.lt_of_lt_of_le (Nat.lt_of_lt_of_le A2.lt K3c.1) (Nat.le_of_eq W5.size.symm)) r10_0)), c11, c12, c13, c14, c15, c16, (((A2.keep K3c).wr W5).keep K10c), r10_1, r10_2, r10_3, r10_4, r10_5⟩
def Q_rm6_2 (Z : State) (a1 : Addr) (a2 : Addr) (h0 : Heap) (n0 : Nat) (v : Option Value) (h : Heap) (L : List Loc) : Prop := v = some (.ref a2) ∧ Fr n0 L ∧ h = h0
set_option maxRecDepth 65536 in
set_option maxHeartbeats 40000000 in
theorem rm6_2 (l : Launch) (Z : State) (a0 : Array Value) (hw : ∀ d ∈ tables_1, d.before a0 Z = true) (ws : List Jvm.Cond) (a1 : Addr) (a2 : Addr) (h0 : Heap) (n0 : Nat) (O0 : Old Z n0 h0) (P1 : Fld Z h0 a1 "com/example/cropmark/cropmark/Row" "problems" "Ljava/util/List;" (.ref a2)) :
    MetFree l (⟨"com/example/cropmark/cropmark/Row", "problems", "()Ljava/util/List;"⟩ : MethodName) (head1 (Jvm.Cond.code (⟨"com/example/cropmark/cropmark/Row", "problems", "()Ljava/util/List;"⟩ : MethodName) prog_67_method_19_code 1 (some (.object "java/util/List")) :: ws) ({ frames := 0, cells := 0, slots := 0, locals := 0 } : Room)) (fun a U => a = #[(.ref a1)] ∧ Z.Warmed39 U.vm ∧ U.heap = h0) (fun _ _ _ _ _ => True) (fun _ U o U' => ∃ v L, o = .returned v ∧ Q_rm6_2 Z a1 a2 h0 n0 v U'.heap L ∧ FrameEnd U o U' L ({ frames := 0, cells := 0, slots := 0, locals := 0 } : Room).cells ({ frames := 0, cells := 0, slots := 0, locals := 0 } : Room).slots) := by
  refine MetFree.of_bodySF (plainFor_of_name pn_4) hisR ?_
  intro p e s m args below meth c s₁ Bd hml0 hP hK
  obtain ⟨rfl, hZ, hh⟩ := hP
  have hx := Bd.exec
  have hby := Bd.bytes
  have hml : c.maxLocals = 1 := hml0
  have hown : s.vm.findClass "com/example/cropmark/cropmark/Row" = some m.cls := findClass_of_methodNamed Bd.named
  have hnm := (name_of_methodNamed Bd.named Bd.method).1
  have X0 : Stand p l e ({ frames := 0, cells := 0, slots := 0, locals := 0 } : Room) s m #[(.ref a1)] below meth c s₁ [] 0 0 := Stand.of_body Bd
  have e0 : s₁.heap = h0 := by rw [← hh, Bd.state]; rfl
  have N0 := Fr.nil n0
  refine Go.start (P := (fun o U' => ∃ v L, o = .returned v ∧ Q_rm6_2 Z a1 a2 h0 n0 v U'.heap L ∧ FrameEnd s o U' L ({ frames := 0, cells := 0, slots := 0, locals := 0 } : Room).cells ({ frames := 0, cells := 0, slots := 0, locals := 0 } : Room).slots)) (castTop (g' := (mkF m 0 #[.val (.ref a1)] [])) (by first | rfl | simp [entryFrame, mkF, argsToLocals, Value.category]) (T := s₁)) ?_
  refine Go.st (fun t k => XS.aloadN X0.here hx rfl (hb hby d6_0) rfl rfl k) ?_
  show Go p e below _ (s₁.setTop (mkF m 1 #[.val (.ref a1)] [(.ref a1)]))
  obtain ⟨T1, X1, e1, st1⟩ := getF X0 hx hZ hown (host := "") (Or.inl (w49 hw)) Via.refl e0 P1 (g := (mkF m 1 #[.val (.ref a1)] [(.ref a1)])) rfl rfl (hb hby d6_1)
  refine Go.st st1 ?_
  show Go p e below _ (T1.setTop (mkF m 4 #[.val (.ref a1)] [(.ref a2)]))
  refine Go.st (fun t k => XS.ifnonnullYes X1.here hx rfl (pc0 := 4) (pc' := 13) rfl (hb hby d6_4) rfl (by decide) (by decide) k) ?_
  show Go p e below _ (T1.setTop (mkF m 13 #[.val (.ref a1)] []))
  refine Go.st (fun t k => XS.aloadN X1.here hx rfl (hb hby d6_13) rfl rfl k) ?_
  show Go p e below _ (T1.setTop (mkF m 14 #[.val (.ref a1)] [(.ref a1)]))
  obtain ⟨T2, X2, e2, st2⟩ := getF X1 hx hZ hown (host := "") (Or.inl (w49 hw)) Via.refl e1 P1 (g := (mkF m 14 #[.val (.ref a1)] [(.ref a1)])) rfl rfl (hb hby d6_14)
  refine Go.st st2 ?_
  show Go p e below _ (T2.setTop (mkF m 17 #[.val (.ref a1)] [(.ref a2)]))
  obtain ⟨fs, hr, hrun, hended, hWd, hsame⟩ := X2.leave (v := some (.ref a2)) (fun h => by rw [Bd.returns] at h; cases h)
  refine ⟨_, _, ?_, hrun, hended, _, _, rfl, ?_, ⟨⟨_, rfl⟩, hWd, hsame.mono (by decide) (by decide)⟩⟩
  · exact own_retA X2 hx Bd.returns rfl rfl (hb hby d6_17) hr
  · show Q_rm6_2 Z a1 a2 h0 n0 _ T2.heap _
    rw [e2]
    exact ⟨rfl, N0, rfl⟩
def Q_rm18_1 (Z : State) (a1 : Addr) (h0 : Heap) (n0 : Nat) (v : Option Value) (h : Heap) (L : List Loc) : Prop := v = some (.int (1 : Int32)) ∧ Fr n0 L ∧ h = h0
set_option maxRecDepth 65536 in
set_option maxHeartbeats 40000000 in
theorem rm18_1 (l : Launch) (Z : State) (a0 : Array Value) (hw : ∀ d ∈ tables_1, d.before a0 Z = true) (ws : List Jvm.Cond) (a1 : Addr) (h0 : Heap) (n0 : Nat) (O0 : Old Z n0 h0) (P1 : Fld Z h0 a1 "java/util/ArrayList" "size" "I" (.int (1 : Int32))) :
    MetFree l (⟨"java/util/ArrayList", "size", "()I"⟩ : MethodName) (head1 (Jvm.Cond.code (⟨"java/util/ArrayList", "size", "()I"⟩ : MethodName) jdk_38_method_8_code 1 (some .int) :: ws) ({ frames := 0, cells := 0, slots := 0, locals := 0 } : Room)) (fun a U => a = #[(.ref a1)] ∧ Z.Warmed39 U.vm ∧ U.heap = h0) (fun _ _ _ _ _ => True) (fun _ U o U' => ∃ v L, o = .returned v ∧ Q_rm18_1 Z a1 h0 n0 v U'.heap L ∧ FrameEnd U o U' L ({ frames := 0, cells := 0, slots := 0, locals := 0 } : Room).cells ({ frames := 0, cells := 0, slots := 0, locals := 0 } : Room).slots) := by
  refine MetFree.of_bodySF (plainFor_of_name pn_9) hisR ?_
  intro p e s m args below meth c s₁ Bd hml0 hP hK
  obtain ⟨rfl, hZ, hh⟩ := hP
  have hx := Bd.exec
  have hby := Bd.bytes
  have hml : c.maxLocals = 1 := hml0
  have hown : s.vm.findClass "java/util/ArrayList" = some m.cls := findClass_of_methodNamed Bd.named
  have hnm := (name_of_methodNamed Bd.named Bd.method).1
  have X0 : Stand p l e ({ frames := 0, cells := 0, slots := 0, locals := 0 } : Room) s m #[(.ref a1)] below meth c s₁ [] 0 0 := Stand.of_body Bd
  have e0 : s₁.heap = h0 := by rw [← hh, Bd.state]; rfl
  have N0 := Fr.nil n0
  refine Go.start (P := (fun o U' => ∃ v L, o = .returned v ∧ Q_rm18_1 Z a1 h0 n0 v U'.heap L ∧ FrameEnd s o U' L ({ frames := 0, cells := 0, slots := 0, locals := 0 } : Room).cells ({ frames := 0, cells := 0, slots := 0, locals := 0 } : Room).slots)) (castTop (g' := (mkF m 0 #[.val (.ref a1)] [])) (by first | rfl | simp [entryFrame, mkF, argsToLocals, Value.category]) (T := s₁)) ?_
  refine Go.st (fun t k => XS.aloadN X0.here hx rfl (hb hby d18_0) rfl rfl k) ?_
  show Go p e below _ (s₁.setTop (mkF m 1 #[.val (.ref a1)] [(.ref a1)]))
  obtain ⟨T1, X1, e1, st1⟩ := getF X0 hx hZ hown (host := "") (Or.inl (w109 hw)) Via.refl e0 P1 (g := (mkF m 1 #[.val (.ref a1)] [(.ref a1)])) rfl rfl (hb hby d18_1)
  refine Go.st st1 ?_
  show Go p e below _ (T1.setTop (mkF m 4 #[.val (.ref a1)] [(.int (1 : Int32))]))
  obtain ⟨fs, hr, hrun, hended, hWd, hsame⟩ := X1.leave (v := some (.int (1 : Int32))) (fun h => by rw [Bd.returns] at h; cases h)
  refine ⟨_, _, ?_, hrun, hended, _, _, rfl, ?_, ⟨⟨_, rfl⟩, hWd, hsame.mono (by decide) (by decide)⟩⟩
  · exact retI X1 hx Bd.returns (hb hby d18_4) hr
  · show Q_rm18_1 Z a1 h0 n0 _ T1.heap _
    rw [e1]
    exact ⟨rfl, N0, rfl⟩
def Q_rm21_1 (Z : State)  (h0 : Heap) (n0 : Nat) (v : Option Value) (h : Heap) (L : List Loc) : Prop := v = some (.int (0 : Int32)) ∧ Fr n0 L ∧ h = h0
set_option maxRecDepth 65536 in
set_option maxHeartbeats 40000000 in
theorem rm21_1 (l : Launch) (Z : State) (a0 : Array Value) (hw : ∀ d ∈ tables_1, d.before a0 Z = true) (ws : List Jvm.Cond)  (h0 : Heap) (n0 : Nat) (O0 : Old Z n0 h0) :
    MetFree l (⟨"jdk/internal/util/Preconditions", "checkIndex", "(IILjava/util/function/BiFunction;)I"⟩ : MethodName) (head1 (Jvm.Cond.code (⟨"jdk/internal/util/Preconditions", "checkIndex", "(IILjava/util/function/BiFunction;)I"⟩ : MethodName) jdk_41_method_11_code 3 (some .int) :: ws) ({ frames := 0, cells := 0, slots := 0, locals := 0 } : Room)) (fun a U => a = #[(.int (0 : Int32)), (.int (1 : Int32)), .null] ∧ Z.Warmed39 U.vm ∧ U.heap = h0) (fun _ _ _ _ _ => True) (fun _ U o U' => ∃ v L, o = .returned v ∧ Q_rm21_1 Z  h0 n0 v U'.heap L ∧ FrameEnd U o U' L ({ frames := 0, cells := 0, slots := 0, locals := 0 } : Room).cells ({ frames := 0, cells := 0, slots := 0, locals := 0 } : Room).slots) := by
  refine MetFree.of_bodySF (plainFor_of_name pn_10) hisR ?_
  intro p e s m args below meth c s₁ Bd hml0 hP hK
  obtain ⟨rfl, hZ, hh⟩ := hP
  have hx := Bd.exec
  have hby := Bd.bytes
  have hml : c.maxLocals = 3 := hml0
  have hown : s.vm.findClass "jdk/internal/util/Preconditions" = some m.cls := findClass_of_methodNamed Bd.named
  have hnm := (name_of_methodNamed Bd.named Bd.method).1
  have X0 : Stand p l e ({ frames := 0, cells := 0, slots := 0, locals := 0 } : Room) s m #[(.int (0 : Int32)), (.int (1 : Int32)), .null] below meth c s₁ [] 0 0 := Stand.of_body Bd
  have e0 : s₁.heap = h0 := by rw [← hh, Bd.state]; rfl
  have N0 := Fr.nil n0
  refine Go.start (P := (fun o U' => ∃ v L, o = .returned v ∧ Q_rm21_1 Z  h0 n0 v U'.heap L ∧ FrameEnd s o U' L ({ frames := 0, cells := 0, slots := 0, locals := 0 } : Room).cells ({ frames := 0, cells := 0, slots := 0, locals := 0 } : Room).slots)) (castTop (g' := (mkF m 0 #[.val (.int (0 : Int32)), .val (.int (1 : Int32)), .val .null] [])) (by first | rfl | simp [entryFrame, mkF, argsToLocals, Value.category]) (T := s₁)) ?_
  refine Go.st (fun t k => XS.iloadN X0.here hx rfl (hb hby d21_0) rfl k) ?_
  show Go p e below _ (s₁.setTop (mkF m 1 #[.val (.int (0 : Int32)), .val (.int (1 : Int32)), .val .null] [(.int (0 : Int32))]))
  refine Go.st (fun t k => XS.ifNo X0.here hx rfl (hb hby d21_1) rfl (Jvm.Free.XT.i0_lt_f (by decide : ¬ ((0 : Int32) < (0 : Int32)))) k) ?_
  show Go p e below _ (s₁.setTop (mkF m 4 #[.val (.int (0 : Int32)), .val (.int (1 : Int32)), .val .null] []))
  refine Go.st (fun t k => XS.iloadN X0.here hx rfl (hb hby d21_4) rfl k) ?_
  show Go p e below _ (s₁.setTop (mkF m 5 #[.val (.int (0 : Int32)), .val (.int (1 : Int32)), .val .null] [(.int (0 : Int32))]))
  refine Go.st (fun t k => XS.iloadN X0.here hx rfl (hb hby d21_5) rfl k) ?_
  show Go p e below _ (s₁.setTop (mkF m 6 #[.val (.int (0 : Int32)), .val (.int (1 : Int32)), .val .null] [(.int (1 : Int32)), (.int (0 : Int32))]))
  refine Go.st (fun t k => XS.icmpYes X0.here hx rfl (pc0 := 6) (pc' := 16) rfl (hb hby d21_6) rfl (Jvm.Free.XT.ii_lt_t (by decide : (0 : Int32) < (1 : Int32))) (by decide) (by decide) k) ?_
  show Go p e below _ (s₁.setTop (mkF m 16 #[.val (.int (0 : Int32)), .val (.int (1 : Int32)), .val .null] []))
  refine Go.st (fun t k => XS.iloadN X0.here hx rfl (hb hby d21_16) rfl k) ?_
  show Go p e below _ (s₁.setTop (mkF m 17 #[.val (.int (0 : Int32)), .val (.int (1 : Int32)), .val .null] [(.int (0 : Int32))]))
  obtain ⟨fs, hr, hrun, hended, hWd, hsame⟩ := X0.leave (v := some (.int (0 : Int32))) (fun h => by rw [Bd.returns] at h; cases h)
  refine ⟨_, _, ?_, hrun, hended, _, _, rfl, ?_, ⟨⟨_, rfl⟩, hWd, hsame.mono (by decide) (by decide)⟩⟩
  · exact retI X0 hx Bd.returns (hb hby d21_17) hr
  · show Q_rm21_1 Z  h0 n0 _ s₁.heap _
    rw [e0]
    exact ⟨rfl, N0, rfl⟩
def Q_rm20_1 (Z : State)  (h0 : Heap) (n0 : Nat) (v : Option Value) (h : Heap) (L : List Loc) : Prop := v = some (.int (0 : Int32)) ∧ Fr n0 L ∧ h = h0
set_option maxRecDepth 65536 in
set_option maxHeartbeats 40000000 in
theorem rm20_1 (l : Launch) (Z : State) (a0 : Array Value) (hw : ∀ d ∈ tables_1, d.before a0 Z = true) (ws : List Jvm.Cond)  (h0 : Heap) (n0 : Nat) (O0 : Old Z n0 h0) :
    MetFree l (⟨"java/util/Objects", "checkIndex", "(II)I"⟩ : MethodName) (head1 (Jvm.Cond.code (⟨"java/util/Objects", "checkIndex", "(II)I"⟩ : MethodName) jdk_31_method_17_code 2 (some .int) :: ws) ({ frames := 1, cells := 0, slots := 0, locals := 14 } : Room)) (fun a U => a = #[(.int (0 : Int32)), (.int (1 : Int32))] ∧ Z.Warmed39 U.vm ∧ U.heap = h0) (fun _ _ _ _ _ => True) (fun _ U o U' => ∃ v L, o = .returned v ∧ Q_rm20_1 Z  h0 n0 v U'.heap L ∧ FrameEnd U o U' L ({ frames := 1, cells := 0, slots := 0, locals := 14 } : Room).cells ({ frames := 1, cells := 0, slots := 0, locals := 14 } : Room).slots) := by
  refine MetFree.of_bodySF (plainFor_of_name pn_11) hisR ?_
  intro p e s m args below meth c s₁ Bd hml0 hP hK
  obtain ⟨rfl, hZ, hh⟩ := hP
  have hx := Bd.exec
  have hby := Bd.bytes
  have hml : c.maxLocals = 2 := hml0
  have hown : s.vm.findClass "java/util/Objects" = some m.cls := findClass_of_methodNamed Bd.named
  have hnm := (name_of_methodNamed Bd.named Bd.method).1
  have X0 : Stand p l e ({ frames := 1, cells := 0, slots := 0, locals := 14 } : Room) s m #[(.int (0 : Int32)), (.int (1 : Int32))] below meth c s₁ [] 0 0 := Stand.of_body Bd
  have e0 : s₁.heap = h0 := by rw [← hh, Bd.state]; rfl
  have N0 := Fr.nil n0
  refine Go.start (P := (fun o U' => ∃ v L, o = .returned v ∧ Q_rm20_1 Z  h0 n0 v U'.heap L ∧ FrameEnd s o U' L ({ frames := 1, cells := 0, slots := 0, locals := 14 } : Room).cells ({ frames := 1, cells := 0, slots := 0, locals := 14 } : Room).slots)) (castTop (g' := (mkF m 0 #[.val (.int (0 : Int32)), .val (.int (1 : Int32))] [])) (by first | rfl | simp [entryFrame, mkF, argsToLocals, Value.category]) (T := s₁)) ?_
  refine Go.st (fun t k => XS.iloadN X0.here hx rfl (hb hby d20_0) rfl k) ?_
  show Go p e below _ (s₁.setTop (mkF m 1 #[.val (.int (0 : Int32)), .val (.int (1 : Int32))] [(.int (0 : Int32))]))
  refine Go.st (fun t k => XS.iloadN X0.here hx rfl (hb hby d20_1) rfl k) ?_
  show Go p e below _ (s₁.setTop (mkF m 2 #[.val (.int (0 : Int32)), .val (.int (1 : Int32))] [(.int (1 : Int32)), (.int (0 : Int32))]))
  refine Go.st (fun t k => XS.aconstNull X0.here hx rfl (hb hby d20_2) k) ?_
  show Go p e below _ (s₁.setTop (mkF m 3 #[.val (.int (0 : Int32)), .val (.int (1 : Int32))] [.null, (.int (1 : Int32)), (.int (0 : Int32))]))
  obtain ⟨_, _, ⟨T1, L1, k1, n1⟩, -, X1, ⟨Lc1, hQ1, l1, y1, z1⟩, st1⟩ := Jvm.LawKit.callS X0 hx (y := (⟨"jdk/internal/util/Preconditions", "checkIndex", "(IILjava/util/function/BiFunction;)I"⟩ : MethodName)) hown (mvT hZ (w150 hw)) (mvT hZ (w151 hw)) (mvT hZ (w152 hw)) (mvT hZ (w153 hw)) (by decide) (backOf (W := 0) (rm21_1 l Z a0 hw []  h0 n0 O0 ) hZ (w153 hw) (w152 hw) (by decide) (by decide)) (g := (mkF m 3 #[.val (.int (0 : Int32)), .val (.int (1 : Int32))] [.null, (.int (1 : Int32)), (.int (0 : Int32))])) rfl (by rw [hml]; rfl) (argsL := [(.int (0 : Int32)), (.int (1 : Int32)), .null]) (rest := []) (lenOf pd_20 rfl) rfl (by show 2 * 0 + _ ≤ _; exact Nat.le_of_eq rfl) (hb hby d20_3) (fun vm₁ hw₁ => ⟨rfl, e0, (by decide : 0 + 0 ≤ _), (by decide : 0 + 0 ≤ _)⟩)
  dsimp only [Pt.U, Pt.locs, Pt.cells, Pt.slots] at X1 l1 y1 z1 st1 hQ1
  subst l1 y1 z1
  obtain ⟨rfl, M1, eh1⟩ := hQ1
  have N1 := Fr.app N0 M1
  refine Go.st st1 ?_
  show Go p e below _ (T1.setTop (mkF m 6 #[.val (.int (0 : Int32)), .val (.int (1 : Int32))] [(.int (0 : Int32))]))
  obtain ⟨fs, hr, hrun, hended, hWd, hsame⟩ := X1.leave (v := some (.int (0 : Int32))) (fun h => by rw [Bd.returns] at h; cases h)
  refine ⟨_, _, ?_, hrun, hended, _, _, rfl, ?_, ⟨⟨_, rfl⟩, hWd, hsame.mono (by decide) (by decide)⟩⟩
  · exact retI X1 hx Bd.returns (hb hby d20_6) hr
  · show Q_rm20_1 Z  h0 n0 _ T1.heap _
    rw [eh1]
    exact ⟨rfl, N1, rfl⟩
def Q_rm22_1 (Z : State) (a1 : Addr) (a2 : Addr) (kz3 : ClassId) (a4 : Addr) (h0 : Heap) (n0 : Nat) (v : Option Value) (h : Heap) (L : List Loc) : Prop := v = some (.ref a4) ∧ Fr n0 L ∧ h = h0
set_option maxRecDepth 65536 in
set_option maxHeartbeats 40000000 in
theorem rm22_1 (l : Launch) (Z : State) (a0 : Array Value) (hw : ∀ d ∈ tables_1, d.before a0 Z = true) (ws : List Jvm.Cond) (a1 : Addr) (a2 : Addr) (kz3 : ClassId) (a4 : Addr) (h0 : Heap) (n0 : Nat) (O0 : Old Z n0 h0) (P1 : Fld Z h0 a1 "java/util/ArrayList" "elementData" "[Ljava/lang/Object;" (.ref a2)) (P2 : Arv Z h0 a2 kz3 (.object "java/lang/Object") (10 : Int32) [(.ref a4), .null, .null, .null, .null, .null, .null, .null, .null, .null] .null) :
    MetFree l (⟨"java/util/ArrayList", "elementData", "(I)Ljava/lang/Object;"⟩ : MethodName) (head1 (Jvm.Cond.code (⟨"java/util/ArrayList", "elementData", "(I)Ljava/lang/Object;"⟩ : MethodName) jdk_38_method_18_code 2 (some (.object "java/lang/Object")) :: ws) ({ frames := 0, cells := 0, slots := 0, locals := 0 } : Room)) (fun a U => a = #[(.ref a1), (.int (0 : Int32))] ∧ Z.Warmed39 U.vm ∧ U.heap = h0) (fun _ _ _ _ _ => True) (fun _ U o U' => ∃ v L, o = .returned v ∧ Q_rm22_1 Z a1 a2 kz3 a4 h0 n0 v U'.heap L ∧ FrameEnd U o U' L ({ frames := 0, cells := 0, slots := 0, locals := 0 } : Room).cells ({ frames := 0, cells := 0, slots := 0, locals := 0 } : Room).slots) := by
  refine MetFree.of_bodySF (plainFor_of_name pn_9) hisR ?_
  intro p e s m args below meth c s₁ Bd hml0 hP hK
  obtain ⟨rfl, hZ, hh⟩ := hP
  have hx := Bd.exec
  have hby := Bd.bytes
  have hml : c.maxLocals = 2 := hml0
  have hown : s.vm.findClass "java/util/ArrayList" = some m.cls := findClass_of_methodNamed Bd.named
  have hnm := (name_of_methodNamed Bd.named Bd.method).1
  have X0 : Stand p l e ({ frames := 0, cells := 0, slots := 0, locals := 0 } : Room) s m #[(.ref a1), (.int (0 : Int32))] below meth c s₁ [] 0 0 := Stand.of_body Bd
  have e0 : s₁.heap = h0 := by rw [← hh, Bd.state]; rfl
  have N0 := Fr.nil n0
  refine Go.start (P := (fun o U' => ∃ v L, o = .returned v ∧ Q_rm22_1 Z a1 a2 kz3 a4 h0 n0 v U'.heap L ∧ FrameEnd s o U' L ({ frames := 0, cells := 0, slots := 0, locals := 0 } : Room).cells ({ frames := 0, cells := 0, slots := 0, locals := 0 } : Room).slots)) (castTop (g' := (mkF m 0 #[.val (.ref a1), .val (.int (0 : Int32))] [])) (by first | rfl | simp [entryFrame, mkF, argsToLocals, Value.category]) (T := s₁)) ?_
  refine Go.st (fun t k => XS.aloadN X0.here hx rfl (hb hby d22_0) rfl rfl k) ?_
  show Go p e below _ (s₁.setTop (mkF m 1 #[.val (.ref a1), .val (.int (0 : Int32))] [(.ref a1)]))
  obtain ⟨T1, X1, e1, st1⟩ := getF X0 hx hZ hown (host := "") (Or.inl (w96 hw)) Via.refl e0 P1 (g := (mkF m 1 #[.val (.ref a1), .val (.int (0 : Int32))] [(.ref a1)])) rfl rfl (hb hby d22_1)
  refine Go.st st1 ?_
  show Go p e below _ (T1.setTop (mkF m 4 #[.val (.ref a1), .val (.int (0 : Int32))] [(.ref a2)]))
  refine Go.st (fun t k => XS.iloadN X1.here hx rfl (hb hby d22_4) rfl k) ?_
  show Go p e below _ (T1.setTop (mkF m 5 #[.val (.ref a1), .val (.int (0 : Int32))] [(.int (0 : Int32)), (.ref a2)]))
  obtain ⟨cl2, Ar2, q2, S2, M2, H2, G2⟩ := id P2
  have hin2 : ¬ ((0 : Int32) < 0 ∨ cl2.slots.size ≤ ((0 : Int32)).toNatClampNeg) := inb_of S2 ⟨by decide, by decide⟩
  have hat2 : cl2.slots[((0 : Int32)).toNatClampNeg]? = some (.ref a4) := H2.at hin2 rfl
  refine Go.st (fun t k => X1.aaload hx (j := (0 : Int32)) (v := (.ref a4)) (by rw [e1]; exact Ar2.1) (State.isArrayOf_alike hZ.alike Ar2.2.1) rfl Ar2.2.2 hin2 hat2 (g := (mkF m 5 #[.val (.ref a1), .val (.int (0 : Int32))] [(.int (0 : Int32)), (.ref a2)])) rfl rfl (hb hby d22_5) t k) ?_
  show Go p e below _ (T1.setTop (mkF m 6 #[.val (.ref a1), .val (.int (0 : Int32))] [(.ref a4)]))
  obtain ⟨fs, hr, hrun, hended, hWd, hsame⟩ := X1.leave (v := some (.ref a4)) (fun h => by rw [Bd.returns] at h; cases h)
  refine ⟨_, _, ?_, hrun, hended, _, _, rfl, ?_, ⟨⟨_, rfl⟩, hWd, hsame.mono (by decide) (by decide)⟩⟩
  · exact own_retA X1 hx Bd.returns rfl rfl (hb hby d22_6) hr
  · show Q_rm22_1 Z a1 a2 kz3 a4 h0 n0 _ T1.heap _
    rw [e1]
    exact ⟨rfl, N0, rfl⟩
def Q_rm19_1 (Z : State) (a1 : Addr) (a2 : Addr) (kz3 : ClassId) (a4 : Addr) (h0 : Heap) (n0 : Nat) (v : Option Value) (h : Heap) (L : List Loc) : Prop := v = some (.ref a4) ∧ Fr n0 L ∧ h = h0
set_option maxRecDepth 65536 in
set_option maxHeartbeats 40000000 in
theorem rm19_1 (l : Launch) (Z : State) (a0 : Array Value) (hw : ∀ d ∈ tables_1, d.before a0 Z = true) (ws : List Jvm.Cond) (a1 : Addr) (a2 : Addr) (kz3 : ClassId) (a4 : Addr) (h0 : Heap) (n0 : Nat) (O0 : Old Z n0 h0) (P1 : Fld Z h0 a1 "java/util/ArrayList" "size" "I" (.int (1 : Int32))) (P2 : Exa Z h0 a1 "java/util/ArrayList") (P3 : Fld Z h0 a1 "java/util/ArrayList" "elementData" "[Ljava/lang/Object;" (.ref a2)) (P4 : Arv Z h0 a2 kz3 (.object "java/lang/Object") (10 : Int32) [(.ref a4), .null, .null, .null, .null, .null, .null, .null, .null, .null] .null) :
    MetFree l (⟨"java/util/ArrayList", "get", "(I)Ljava/lang/Object;"⟩ : MethodName) (head1 (Jvm.Cond.code (⟨"java/util/ArrayList", "get", "(I)Ljava/lang/Object;"⟩ : MethodName) jdk_38_method_20_code 2 (some (.object "java/lang/Object")) :: ws) ({ frames := 2, cells := 0, slots := 0, locals := 27 } : Room)) (fun a U => a = #[(.ref a1), (.int (0 : Int32))] ∧ Z.Warmed39 U.vm ∧ U.heap = h0) (fun _ _ _ _ _ => True) (fun _ U o U' => ∃ v L, o = .returned v ∧ Q_rm19_1 Z a1 a2 kz3 a4 h0 n0 v U'.heap L ∧ FrameEnd U o U' L ({ frames := 2, cells := 0, slots := 0, locals := 27 } : Room).cells ({ frames := 2, cells := 0, slots := 0, locals := 27 } : Room).slots) := by
  refine MetFree.of_bodySF (plainFor_of_name pn_9) hisR ?_
  intro p e s m args below meth c s₁ Bd hml0 hP hK
  obtain ⟨rfl, hZ, hh⟩ := hP
  have hx := Bd.exec
  have hby := Bd.bytes
  have hml : c.maxLocals = 2 := hml0
  have hown : s.vm.findClass "java/util/ArrayList" = some m.cls := findClass_of_methodNamed Bd.named
  have hnm := (name_of_methodNamed Bd.named Bd.method).1
  have X0 : Stand p l e ({ frames := 2, cells := 0, slots := 0, locals := 27 } : Room) s m #[(.ref a1), (.int (0 : Int32))] below meth c s₁ [] 0 0 := Stand.of_body Bd
  have e0 : s₁.heap = h0 := by rw [← hh, Bd.state]; rfl
  have N0 := Fr.nil n0
  refine Go.start (P := (fun o U' => ∃ v L, o = .returned v ∧ Q_rm19_1 Z a1 a2 kz3 a4 h0 n0 v U'.heap L ∧ FrameEnd s o U' L ({ frames := 2, cells := 0, slots := 0, locals := 27 } : Room).cells ({ frames := 2, cells := 0, slots := 0, locals := 27 } : Room).slots)) (castTop (g' := (mkF m 0 #[.val (.ref a1), .val (.int (0 : Int32))] [])) (by first | rfl | simp [entryFrame, mkF, argsToLocals, Value.category]) (T := s₁)) ?_
  refine Go.st (fun t k => XS.iloadN X0.here hx rfl (hb hby d19_0) rfl k) ?_
  show Go p e below _ (s₁.setTop (mkF m 1 #[.val (.ref a1), .val (.int (0 : Int32))] [(.int (0 : Int32))]))
  refine Go.st (fun t k => XS.aloadN X0.here hx rfl (hb hby d19_1) rfl rfl k) ?_
  show Go p e below _ (s₁.setTop (mkF m 2 #[.val (.ref a1), .val (.int (0 : Int32))] [(.ref a1), (.int (0 : Int32))]))
  obtain ⟨T1, X1, e1, st1⟩ := getF X0 hx hZ hown (host := "") (Or.inl (w109 hw)) Via.refl e0 P1 (g := (mkF m 2 #[.val (.ref a1), .val (.int (0 : Int32))] [(.ref a1), (.int (0 : Int32))])) rfl rfl (hb hby d19_2)
  refine Go.st st1 ?_
  show Go p e below _ (T1.setTop (mkF m 5 #[.val (.ref a1), .val (.int (0 : Int32))] [(.int (1 : Int32)), (.int (0 : Int32))]))
  obtain ⟨_, _, ⟨T2, L2, k2, n2⟩, -, X2, ⟨Lc2, hQ2, l2, y2, z2⟩, st2⟩ := Jvm.LawKit.callS X1 hx (y := (⟨"java/util/Objects", "checkIndex", "(II)I"⟩ : MethodName)) hown (mvT hZ (w146 hw)) (mvT hZ (w147 hw)) (mvT hZ (w148 hw)) (mvT hZ (w149 hw)) (by decide) (backOf (W := 0) (rm20_1 l Z a0 hw []  h0 n0 O0 ) hZ (w149 hw) (w148 hw) (by decide) (by decide)) (g := (mkF m 5 #[.val (.ref a1), .val (.int (0 : Int32))] [(.int (1 : Int32)), (.int (0 : Int32))])) rfl (by rw [hml]; rfl) (argsL := [(.int (0 : Int32)), (.int (1 : Int32))]) (rest := []) (lenOf pd_14 rfl) rfl (by show 2 * 0 + _ ≤ _; exact Nat.le_of_eq rfl) (hb hby d19_5) (fun vm₁ hw₁ => ⟨rfl, e1, (by decide : 0 + 0 ≤ _), (by decide : 0 + 0 ≤ _)⟩)
  dsimp only [Pt.U, Pt.locs, Pt.cells, Pt.slots] at X2 l2 y2 z2 st2 hQ2
  subst l2 y2 z2
  obtain ⟨rfl, M2, eh2⟩ := hQ2
  have N2 := Fr.app N0 M2
  refine Go.st st2 ?_
  show Go p e below _ (T2.setTop (mkF m 8 #[.val (.ref a1), .val (.int (0 : Int32))] [(.int (0 : Int32))]))
  refine Go.st (fun t k => XS.pop X2.here hx rfl (hb hby d19_8) rfl rfl k) ?_
  show Go p e below _ (T2.setTop (mkF m 9 #[.val (.ref a1), .val (.int (0 : Int32))] []))
  refine Go.st (fun t k => XS.aloadN X2.here hx rfl (hb hby d19_9) rfl rfl k) ?_
  show Go p e below _ (T2.setTop (mkF m 10 #[.val (.ref a1), .val (.int (0 : Int32))] [(.ref a1)]))
  refine Go.st (fun t k => XS.iloadN X2.here hx rfl (hb hby d19_10) rfl k) ?_
  show Go p e below _ (T2.setTop (mkF m 11 #[.val (.ref a1), .val (.int (0 : Int32))] [(.int (0 : Int32)), (.ref a1)]))
  obtain ⟨cq3, kq3, q3a, q3b, q3c⟩ := isOf hZ eh2 P2
  obtain ⟨_, _, ⟨T3, L3, k3, n3⟩, -, X3, ⟨Lc3, hQ3, l3, y3, z3⟩, st3⟩ := X2.virtualBack hx (y := (⟨"java/util/ArrayList", "elementData", "(I)Ljava/lang/Object;"⟩ : MethodName)) (z := (⟨"java/util/ArrayList", "elementData", "(I)Ljava/lang/Object;"⟩ : MethodName)) hown (mvT hZ (w154 hw)) (mvT hZ (w155 hw)) (notFace_of_selects (args := #[]) (mvT hZ (w157 hw))) (mvT hZ (w157 hw)) (mvT hZ (w156 hw)) (by decide) (backOf (W := 0) (rm22_1 l Z a0 hw [] a1 a2 kz3 a4 h0 n0 O0 P3 P4) hZ (w158 hw) (w76 hw) (by decide) (by decide)) q3a q3c (g := (mkF m 11 #[.val (.ref a1), .val (.int (0 : Int32))] [(.int (0 : Int32)), (.ref a1)])) rfl (by rw [hml]; rfl) (Steps.refl _) (argsL := [(.int (0 : Int32))]) (rest := []) (lenOf pd_21 rfl) rfl (by show 2 * 0 + _ ≤ _; exact Nat.le_of_eq rfl) (hb hby d19_11) (fun vm₁ hw₁ => ⟨rfl, eh2, (by decide : 0 + 0 ≤ _), (by decide : 0 + 0 ≤ _)⟩)
  dsimp only [Pt.U, Pt.locs, Pt.cells, Pt.slots] at X3 l3 y3 z3 st3 hQ3
  subst l3 y3 z3
  obtain ⟨rfl, M3, eh3⟩ := hQ3
  have N3 := Fr.app N2 M3
  refine Go.tr st3 ?_
  show Go p e below _ (T3.setTop (mkF m 14 #[.val (.ref a1), .val (.int (0 : Int32))] [(.ref a4)]))
  obtain ⟨fs, hr, hrun, hended, hWd, hsame⟩ := X3.leave (v := some (.ref a4)) (fun h => by rw [Bd.returns] at h; cases h)
  refine ⟨_, _, ?_, hrun, hended, _, _, rfl, ?_, ⟨⟨_, rfl⟩, hWd, hsame.mono (by decide) (by decide)⟩⟩
  · exact own_retA X3 hx Bd.returns rfl rfl (hb hby d19_14) hr
  · show Q_rm19_1 Z a1 a2 kz3 a4 h0 n0 _ T3.heap _
    rw [eh3]
    exact ⟨rfl, N3, rfl⟩
def Q_rm23_1 (Z : State) (a1 : Addr) (h0 : Heap) (n0 : Nat) (v : Option Value) (h : Heap) (L : List Loc) : Prop := v = some (.int (1 : Int32)) ∧ Fr n0 L ∧ h = h0
set_option maxRecDepth 65536 in
set_option maxHeartbeats 40000000 in
theorem rm23_1 (l : Launch) (Z : State) (a0 : Array Value) (hw : ∀ d ∈ tables_1, d.before a0 Z = true) (ws : List Jvm.Cond) (a1 : Addr) (h0 : Heap) (n0 : Nat) (O0 : Old Z n0 h0) :
    MetFree l (⟨"java/lang/String", "equals", "(Ljava/lang/Object;)Z"⟩ : MethodName) (head1 (Jvm.Cond.code (⟨"java/lang/String", "equals", "(Ljava/lang/Object;)Z"⟩ : MethodName) jdk_42_method_66_code 3 (some .boolean) :: ws) ({ frames := 0, cells := 0, slots := 0, locals := 0 } : Room)) (fun a U => a = #[(.ref a1), (.ref a1)] ∧ Z.Warmed39 U.vm ∧ U.heap = h0) (fun _ _ _ _ _ => True) (fun _ U o U' => ∃ v L, o = .returned v ∧ Q_rm23_1 Z a1 h0 n0 v U'.heap L ∧ FrameEnd U o U' L ({ frames := 0, cells := 0, slots := 0, locals := 0 } : Room).cells ({ frames := 0, cells := 0, slots := 0, locals := 0 } : Room).slots) := by
  refine MetFree.of_bodySF (plainFor_of_name pn_0) hisR ?_
  intro p e s m args below meth c s₁ Bd hml0 hP hK
  obtain ⟨rfl, hZ, hh⟩ := hP
  have hx := Bd.exec
  have hby := Bd.bytes
  have hml : c.maxLocals = 3 := hml0
  have hown : s.vm.findClass "java/lang/String" = some m.cls := findClass_of_methodNamed Bd.named
  have hnm := (name_of_methodNamed Bd.named Bd.method).1
  have X0 : Stand p l e ({ frames := 0, cells := 0, slots := 0, locals := 0 } : Room) s m #[(.ref a1), (.ref a1)] below meth c s₁ [] 0 0 := Stand.of_body Bd
  have e0 : s₁.heap = h0 := by rw [← hh, Bd.state]; rfl
  have N0 := Fr.nil n0
  refine Go.start (P := (fun o U' => ∃ v L, o = .returned v ∧ Q_rm23_1 Z a1 h0 n0 v U'.heap L ∧ FrameEnd s o U' L ({ frames := 0, cells := 0, slots := 0, locals := 0 } : Room).cells ({ frames := 0, cells := 0, slots := 0, locals := 0 } : Room).slots)) (castTop (g' := (mkF m 0 #[.val (.ref a1), .val (.ref a1), .unset] [])) (by first | rfl | simp [entryFrame, mkF, argsToLocals, Value.category]) (T := s₁)) ?_
  refine Go.st (fun t k => XS.aloadN X0.here hx rfl (hb hby d23_0) rfl rfl k) ?_
  show Go p e below _ (s₁.setTop (mkF m 1 #[.val (.ref a1), .val (.ref a1), .unset] [(.ref a1)]))
  refine Go.st (fun t k => XS.aloadN X0.here hx rfl (hb hby d23_1) rfl rfl k) ?_
  show Go p e below _ (s₁.setTop (mkF m 2 #[.val (.ref a1), .val (.ref a1), .unset] [(.ref a1), (.ref a1)]))
  refine Go.st (fun t k => Jvm.RoadKit.acmp (g := (mkF m 2 #[.val (.ref a1), .val (.ref a1), .unset] [(.ref a1), (.ref a1)])) X0 hx rfl rfl rfl (pc0 := 2) (pc' := 5) (same := true) rfl (hb hby d23_2) rfl (decide_eq_true (congrArg Value.ref rfl)) (by decide) (by decide) k) ?_
  show Go p e below _ (s₁.setTop (mkF m 5 #[.val (.ref a1), .val (.ref a1), .unset] []))
  refine Go.st (fun t k => XS.iconst X0.here hx rfl (hb hby d23_5) k) ?_
  show Go p e below _ (s₁.setTop (mkF m 6 #[.val (.ref a1), .val (.ref a1), .unset] [(.int (1 : Int32))]))
  obtain ⟨fs, hr, hrun, hended, hWd, hsame⟩ := X0.leave (v := some (.int (1 : Int32))) (fun h => by rw [Bd.returns] at h; cases h)
  refine ⟨_, _, ?_, hrun, hended, _, _, rfl, ?_, ⟨⟨_, rfl⟩, hWd, hsame.mono (by decide) (by decide)⟩⟩
  · exact retN X0 hx (t := .boolean) Bd.returns (by simp) (hb hby d23_6) hr
  · show Q_rm23_1 Z a1 h0 n0 _ s₁.heap _
    rw [e0]
    exact ⟨rfl, N0, rfl⟩
def Q_rm14_2 (Z : State) (a1 : Addr) (a2 : Addr) (a3 : Addr) (kz4 : ClassId) (a5 : Addr) (h0 : Heap) (n0 : Nat) (v : Option Value) (h : Heap) (L : List Loc) : Prop := v = none ∧ Fr n0 L ∧ Keep h0 h [a3, a1] ∧ Arv Z h a3 kz4 (.object "java/lang/Object") (10 : Int32) [(.ref a5), (.ref a2), .null, .null, .null, .null, .null, .null, .null, .null] .null ∧ Fld Z h a1 "java/util/ArrayList" "size" "I" (.int (2 : Int32)) ∧ Fld Z h a1 "java/util/AbstractList" "modCount" "I" (.int (2 : Int32)) ∧ Fld Z h a1 "java/util/ArrayList" "elementData" "[Ljava/lang/Object;" (.ref a3)
set_option maxRecDepth 65536 in
set_option maxHeartbeats 40000000 in
theorem rm14_2 (l : Launch) (Z : State) (a0 : Array Value) (hw : ∀ d ∈ tables_1, d.before a0 Z = true) (ws : List Jvm.Cond) (a1 : Addr) (a2 : Addr) (a3 : Addr) (kz4 : ClassId) (a5 : Addr) (h0 : Heap) (n0 : Nat) (O0 : Old Z n0 h0) (P1 : Arv Z h0 a3 kz4 (.object "java/lang/Object") (10 : Int32) [(.ref a5), .null, .null, .null, .null, .null, .null, .null, .null, .null] .null) (P2 : n0 ≤ a3) (P3 : Exa Z h0 a2 "java/lang/String") (P4 : Ovr Z kz4 "java/lang/Object") (P5 : Exa Z h0 a1 "java/util/ArrayList") (P6 : Fld Z h0 a1 "java/util/ArrayList" "size" "I" (.int (1 : Int32))) (P7 : a1 ≠ a3) (P8 : n0 ≤ a1) (P9 : Fld Z h0 a1 "java/util/AbstractList" "modCount" "I" (.int (2 : Int32))) (P10 : Fld Z h0 a1 "java/util/ArrayList" "elementData" "[Ljava/lang/Object;" (.ref a3)) :
    MetFree l (⟨"java/util/ArrayList", "add", "(Ljava/lang/Object;[Ljava/lang/Object;I)V"⟩ : MethodName) (head1 (Jvm.Cond.code (⟨"java/util/ArrayList", "add", "(Ljava/lang/Object;[Ljava/lang/Object;I)V"⟩ : MethodName) jdk_38_method_24_code 4 none :: ws) ({ frames := 0, cells := 0, slots := 0, locals := 0 } : Room)) (fun a U => a = #[(.ref a1), (.ref a2), (.ref a3), (.int (1 : Int32))] ∧ Z.Warmed39 U.vm ∧ U.heap = h0) (fun _ _ _ _ _ => True) (fun _ U o U' => ∃ v L, o = .returned v ∧ Q_rm14_2 Z a1 a2 a3 kz4 a5 h0 n0 v U'.heap L ∧ FrameEnd U o U' L ({ frames := 0, cells := 0, slots := 0, locals := 0 } : Room).cells ({ frames := 0, cells := 0, slots := 0, locals := 0 } : Room).slots) := by
  refine MetFree.of_bodySF (plainFor_of_name pn_9) hisR ?_
  intro p e s m args below meth c s₁ Bd hml0 hP hK
  obtain ⟨rfl, hZ, hh⟩ := hP
  have hx := Bd.exec
  have hby := Bd.bytes
  have hml : c.maxLocals = 4 := hml0
  have hown : s.vm.findClass "java/util/ArrayList" = some m.cls := findClass_of_methodNamed Bd.named
  have hnm := (name_of_methodNamed Bd.named Bd.method).1
  have X0 : Stand p l e ({ frames := 0, cells := 0, slots := 0, locals := 0 } : Room) s m #[(.ref a1), (.ref a2), (.ref a3), (.int (1 : Int32))] below meth c s₁ [] 0 0 := Stand.of_body Bd
  have e0 : s₁.heap = h0 := by rw [← hh, Bd.state]; rfl
  have N0 := Fr.nil n0
  refine Go.start (P := (fun o U' => ∃ v L, o = .returned v ∧ Q_rm14_2 Z a1 a2 a3 kz4 a5 h0 n0 v U'.heap L ∧ FrameEnd s o U' L ({ frames := 0, cells := 0, slots := 0, locals := 0 } : Room).cells ({ frames := 0, cells := 0, slots := 0, locals := 0 } : Room).slots)) (castTop (g' := (mkF m 0 #[.val (.ref a1), .val (.ref a2), .val (.ref a3), .val (.int (1 : Int32))] [])) (by first | rfl | simp [entryFrame, mkF, argsToLocals, Value.category]) (T := s₁)) ?_
  refine Go.st (fun t k => XS.iloadN X0.here hx rfl (hb hby d14_0) rfl k) ?_
  show Go p e below _ (s₁.setTop (mkF m 1 #[.val (.ref a1), .val (.ref a2), .val (.ref a3), .val (.int (1 : Int32))] [(.int (1 : Int32))]))
  refine Go.st (fun t k => XS.aloadN X0.here hx rfl (hb hby d14_1) rfl rfl k) ?_
  show Go p e below _ (s₁.setTop (mkF m 2 #[.val (.ref a1), .val (.ref a2), .val (.ref a3), .val (.int (1 : Int32))] [(.ref a3), (.int (1 : Int32))]))
  obtain ⟨cl1, Ar1, -, S1, M1, -, -⟩ := id P1
  refine Go.st (fun t k => X0.arraylength hx (by rw [e0]; exact Ar1.1) (State.isArrayOf_alike hZ.alike Ar1.2.1) (g := (mkF m 2 #[.val (.ref a1), .val (.ref a2), .val (.ref a3), .val (.int (1 : Int32))] [(.ref a3), (.int (1 : Int32))])) rfl rfl (hb hby d14_2) t k) ?_
  rw [len_of S1 M1]
  show Go p e below _ (s₁.setTop (mkF m 3 #[.val (.ref a1), .val (.ref a2), .val (.ref a3), .val (.int (1 : Int32))] [(.int (10 : Int32)), (.int (1 : Int32))]))
  refine Go.st (fun t k => XS.icmpYes X0.here hx rfl (pc0 := 3) (pc' := 11) rfl (hb hby d14_3) rfl (Jvm.Free.XT.ii_ne_t (by decide : ¬ ((1 : Int32) = (10 : Int32)))) (by decide) (by decide) k) ?_
  show Go p e below _ (s₁.setTop (mkF m 11 #[.val (.ref a1), .val (.ref a2), .val (.ref a3), .val (.int (1 : Int32))] []))
  refine Go.st (fun t k => XS.aloadN X0.here hx rfl (hb hby d14_11) rfl rfl k) ?_
  show Go p e below _ (s₁.setTop (mkF m 12 #[.val (.ref a1), .val (.ref a2), .val (.ref a3), .val (.int (1 : Int32))] [(.ref a3)]))
  refine Go.st (fun t k => XS.iloadN X0.here hx rfl (hb hby d14_12) rfl k) ?_
  show Go p e below _ (s₁.setTop (mkF m 13 #[.val (.ref a1), .val (.ref a2), .val (.ref a3), .val (.int (1 : Int32))] [(.int (1 : Int32)), (.ref a3)]))
  refine Go.st (fun t k => XS.aloadN X0.here hx rfl (hb hby d14_13) rfl rfl k) ?_
  show Go p e below _ (s₁.setTop (mkF m 14 #[.val (.ref a1), .val (.ref a2), .val (.ref a3), .val (.int (1 : Int32))] [(.ref a2), (.int (1 : Int32)), (.ref a3)]))
  obtain ⟨cl2, Ar2, q2, S2, M2, H2, G2⟩ := id P1
  have hin2 : ¬ ((1 : Int32) < 0 ∨ cl2.slots.size ≤ ((1 : Int32)).toNatClampNeg) := inb_of S2 ⟨by decide, by decide⟩
  obtain ⟨T2, h2, X2, e2, W2, st2⟩ := stR X0 hx hZ e0 Ar2 (j := (1 : Int32)) hin2 rfl (Sto.ofV Ar2 q2 P4 (Ins.of_exa P3 (w132 hw))) (g := (mkF m 14 #[.val (.ref a1), .val (.ref a2), .val (.ref a3), .val (.int (1 : Int32))] [(.ref a2), (.int (1 : Int32)), (.ref a3)])) rfl rfl (hb hby d14_14)
  have V2 : Arv Z h2 a3 kz4 (.object "java/lang/Object") (10 : Int32) [(.ref a5), (.ref a2), .null, .null, .null, .null, .null, .null, .null, .null] .null := Arv.set Ar2 q2 S2 M2 H2 G2 rfl W2 1 rfl (Nat.le_of_ble_eq_true rfl)
  have N2 := Fr.snoc X2 N0 P2
  have O2 : Old Z n0 h2 := O0.wr W2 P2
  have K2 : Keep h0 h2 [a3, a1] := (Keep.refl h0 [a3, a1]).wr W2 (Or.inl (List.mem_of_getElem? (i := 0) rfl))
  refine Go.st st2 ?_
  show Go p e below _ (T2.setTop (mkF m 15 #[.val (.ref a1), .val (.ref a2), .val (.ref a3), .val (.int (1 : Int32))] []))
  refine Go.st (fun t k => XS.aloadN X2.here hx rfl (hb hby d14_15) rfl rfl k) ?_
  show Go p e below _ (T2.setTop (mkF m 16 #[.val (.ref a1), .val (.ref a2), .val (.ref a3), .val (.int (1 : Int32))] [(.ref a1)]))
  refine Go.st (fun t k => XS.iloadN X2.here hx rfl (hb hby d14_16) rfl k) ?_
  show Go p e below _ (T2.setTop (mkF m 17 #[.val (.ref a1), .val (.ref a2), .val (.ref a3), .val (.int (1 : Int32))] [(.int (1 : Int32)), (.ref a1)]))
  refine Go.st (fun t k => XS.iconst X2.here hx rfl (hb hby d14_17) k) ?_
  show Go p e below _ (T2.setTop (mkF m 18 #[.val (.ref a1), .val (.ref a2), .val (.ref a3), .val (.int (1 : Int32))] [(.int (1 : Int32)), (.int (1 : Int32)), (.ref a1)]))
  refine Go.st (fun t k => XS.iadd X2.here hx rfl (hb hby d14_18) rfl k) ?_
  show Go p e below _ (T2.setTop (mkF m 19 #[.val (.ref a1), .val (.ref a2), .val (.ref a3), .val (.int (1 : Int32))] [(.int (2 : Int32)), (.ref a1)]))
  obtain ⟨T3, h3, X3, e3, W3, st3⟩ := putF X2 hx hZ hown (host := "") (Or.inl (w109 hw)) Via.refl e2 (P6.other W2 (Or.inl P7)) (P5.wr W2) (Or.inl (w110 hw)) (w75 hw) (ty := .int) (by decide) rfl rfl (g := (mkF m 19 #[.val (.ref a1), .val (.ref a2), .val (.ref a3), .val (.int (1 : Int32))] [(.int (2 : Int32)), (.ref a1)])) rfl rfl (hb hby d14_19)
  have F3 : Fld Z h3 a1 "java/util/ArrayList" "size" "I" (.int (2 : Int32)) := (P6.other W2 (Or.inl P7)).same W3
  have N3 := Fr.snoc X3 N2 P8
  have O3 : Old Z n0 h3 := O2.wr W3 P8
  have K3 : Keep h0 h3 [a3, a1] := K2.wr W3 (Or.inl (List.mem_of_getElem? (i := 1) rfl))
  refine Go.st st3 ?_
  show Go p e below _ (T3.setTop (mkF m 22 #[.val (.ref a1), .val (.ref a2), .val (.ref a3), .val (.int (1 : Int32))] []))
  obtain ⟨fs, hr, hrun, hended, hWd, hsame⟩ := X3.leave (v := none) (fun _ => rfl)
  have c4 := ((P9.other W2 (Or.inl P7)).other W3 (Or.inr (slot_ne (Or.inl (w94 hw)) (Or.inl (w110 hw)) (by decide) (t := .int) (t' := .int) (by decide) (by decide))))
  have c5 := ((P10.other W2 (Or.inl P7)).other W3 (Or.inr (slot_ne (Or.inl (w97 hw)) (Or.inl (w110 hw)) (by decide) (t := (.array (.object "java/lang/Object"))) (t' := .int) (by decide) (by decide))))
  refine ⟨_, _, ?_, hrun, hended, _, _, rfl, ?_, ⟨⟨_, rfl⟩, hWd, hsame.mono (by decide) (by decide)⟩⟩
  · exact X3.returnOut hx Bd.returns (hb hby d14_22) hr
  · show Q_rm14_2 Z a1 a2 a3 kz4 a5 h0 n0 _ T3.heap _
    rw [e3]
    exact ⟨rfl, N3, K3, (V2.other W3 (Ne.symm P7)), F3, c4, c5⟩
def Q_rm13_2 (Z : State) (a1 : Addr) (a2 : Addr) (a3 : Addr) (kz4 : ClassId) (a5 : Addr) (h0 : Heap) (n0 : Nat) (v : Option Value) (h : Heap) (L : List Loc) : Prop := v = some (.int (1 : Int32)) ∧ Fr n0 L ∧ Keep h0 h [a1, a3] ∧ Fld Z h a1 "java/util/AbstractList" "modCount" "I" (.int (2 : Int32)) ∧ Fld Z h a1 "java/util/ArrayList" "elementData" "[Ljava/lang/Object;" (.ref a3) ∧ Fld Z h a1 "java/util/ArrayList" "size" "I" (.int (2 : Int32)) ∧ Arv Z h a3 kz4 (.object "java/lang/Object") (10 : Int32) [(.ref a5), (.ref a2), .null, .null, .null, .null, .null, .null, .null, .null] .null
set_option maxRecDepth 65536 in
set_option maxHeartbeats 40000000 in
theorem rm13_2 (l : Launch) (Z : State) (a0 : Array Value) (hw : ∀ d ∈ tables_1, d.before a0 Z = true) (ws : List Jvm.Cond) (a1 : Addr) (a2 : Addr) (a3 : Addr) (kz4 : ClassId) (a5 : Addr) (h0 : Heap) (n0 : Nat) (O0 : Old Z n0 h0) (P1 : Fld Z h0 a1 "java/util/AbstractList" "modCount" "I" (.int (1 : Int32))) (P2 : Exa Z h0 a1 "java/util/ArrayList") (P3 : n0 ≤ a1) (P4 : Fld Z h0 a1 "java/util/ArrayList" "elementData" "[Ljava/lang/Object;" (.ref a3)) (P5 : Fld Z h0 a1 "java/util/ArrayList" "size" "I" (.int (1 : Int32))) (P6 : Arv Z h0 a3 kz4 (.object "java/lang/Object") (10 : Int32) [(.ref a5), .null, .null, .null, .null, .null, .null, .null, .null, .null] .null) (P7 : n0 ≤ a3) (P8 : Exa Z h0 a2 "java/lang/String") (P9 : Ovr Z kz4 "java/lang/Object") (P10 : a1 ≠ a3) :
    MetFree l (⟨"java/util/ArrayList", "add", "(Ljava/lang/Object;)Z"⟩ : MethodName) (head1 (Jvm.Cond.code (⟨"java/util/ArrayList", "add", "(Ljava/lang/Object;)Z"⟩ : MethodName) jdk_38_method_25_code 2 (some .boolean) :: ws) ({ frames := 1, cells := 0, slots := 0, locals := 15 } : Room)) (fun a U => a = #[(.ref a1), (.ref a2)] ∧ Z.Warmed39 U.vm ∧ U.heap = h0) (fun _ _ _ _ _ => True) (fun _ U o U' => ∃ v L, o = .returned v ∧ Q_rm13_2 Z a1 a2 a3 kz4 a5 h0 n0 v U'.heap L ∧ FrameEnd U o U' L ({ frames := 1, cells := 0, slots := 0, locals := 15 } : Room).cells ({ frames := 1, cells := 0, slots := 0, locals := 15 } : Room).slots) := by
  refine MetFree.of_bodySF (plainFor_of_name pn_9) hisR ?_
  intro p e s m args below meth c s₁ Bd hml0 hP hK
  obtain ⟨rfl, hZ, hh⟩ := hP
  have hx := Bd.exec
  have hby := Bd.bytes
  have hml : c.maxLocals = 2 := hml0
  have hown : s.vm.findClass "java/util/ArrayList" = some m.cls := findClass_of_methodNamed Bd.named
  have hnm := (name_of_methodNamed Bd.named Bd.method).1
  have X0 : Stand p l e ({ frames := 1, cells := 0, slots := 0, locals := 15 } : Room) s m #[(.ref a1), (.ref a2)] below meth c s₁ [] 0 0 := Stand.of_body Bd
  have e0 : s₁.heap = h0 := by rw [← hh, Bd.state]; rfl
  have N0 := Fr.nil n0
  refine Go.start (P := (fun o U' => ∃ v L, o = .returned v ∧ Q_rm13_2 Z a1 a2 a3 kz4 a5 h0 n0 v U'.heap L ∧ FrameEnd s o U' L ({ frames := 1, cells := 0, slots := 0, locals := 15 } : Room).cells ({ frames := 1, cells := 0, slots := 0, locals := 15 } : Room).slots)) (castTop (g' := (mkF m 0 #[.val (.ref a1), .val (.ref a2)] [])) (by first | rfl | simp [entryFrame, mkF, argsToLocals, Value.category]) (T := s₁)) ?_
  refine Go.st (fun t k => XS.aloadN X0.here hx rfl (hb hby d13_0) rfl rfl k) ?_
  show Go p e below _ (s₁.setTop (mkF m 1 #[.val (.ref a1), .val (.ref a2)] [(.ref a1)]))
  refine Go.st (fun t k => XS.dup X0.here hx rfl (hb hby d13_1) rfl rfl k) ?_
  show Go p e below _ (s₁.setTop (mkF m 2 #[.val (.ref a1), .val (.ref a2)] [(.ref a1), (.ref a1)]))
  obtain ⟨T1, X1, e1, st1⟩ := getF X0 hx hZ hown (host := "") (Or.inl (w107 hw)) (Via.of (w108 hw)) e0 P1 (g := (mkF m 2 #[.val (.ref a1), .val (.ref a2)] [(.ref a1), (.ref a1)])) rfl rfl (hb hby d13_2)
  refine Go.st st1 ?_
  show Go p e below _ (T1.setTop (mkF m 5 #[.val (.ref a1), .val (.ref a2)] [(.int (1 : Int32)), (.ref a1)]))
  refine Go.st (fun t k => XS.iconst X1.here hx rfl (hb hby d13_5) k) ?_
  show Go p e below _ (T1.setTop (mkF m 6 #[.val (.ref a1), .val (.ref a2)] [(.int (1 : Int32)), (.int (1 : Int32)), (.ref a1)]))
  refine Go.st (fun t k => XS.iadd X1.here hx rfl (hb hby d13_6) rfl k) ?_
  show Go p e below _ (T1.setTop (mkF m 7 #[.val (.ref a1), .val (.ref a2)] [(.int (2 : Int32)), (.ref a1)]))
  obtain ⟨T2, h2, X2, e2, W2, st2⟩ := putF X1 hx hZ hown (host := "") (Or.inl (w107 hw)) (Via.of (w108 hw)) e1 P1 P2 (Or.inl (w94 hw)) (w75 hw) (ty := .int) (by decide) rfl rfl (g := (mkF m 7 #[.val (.ref a1), .val (.ref a2)] [(.int (2 : Int32)), (.ref a1)])) rfl rfl (hb hby d13_7)
  have F2 : Fld Z h2 a1 "java/util/AbstractList" "modCount" "I" (.int (2 : Int32)) := P1.same W2
  have N2 := Fr.snoc X2 N0 P3
  have O2 : Old Z n0 h2 := O0.wr W2 P3
  have K2 : Keep h0 h2 [a1, a3] := (Keep.refl h0 [a1, a3]).wr W2 (Or.inl (List.mem_of_getElem? (i := 0) rfl))
  refine Go.st st2 ?_
  show Go p e below _ (T2.setTop (mkF m 10 #[.val (.ref a1), .val (.ref a2)] []))
  refine Go.st (fun t k => XS.aloadN X2.here hx rfl (hb hby d13_10) rfl rfl k) ?_
  show Go p e below _ (T2.setTop (mkF m 11 #[.val (.ref a1), .val (.ref a2)] [(.ref a1)]))
  refine Go.st (fun t k => XS.aloadN X2.here hx rfl (hb hby d13_11) rfl rfl k) ?_
  show Go p e below _ (T2.setTop (mkF m 12 #[.val (.ref a1), .val (.ref a2)] [(.ref a2), (.ref a1)]))
  refine Go.st (fun t k => XS.aloadN X2.here hx rfl (hb hby d13_12) rfl rfl k) ?_
  show Go p e below _ (T2.setTop (mkF m 13 #[.val (.ref a1), .val (.ref a2)] [(.ref a1), (.ref a2), (.ref a1)]))
  have c3 := (P4.other W2 (Or.inr (slot_ne (Or.inl (w97 hw)) (Or.inl (w94 hw)) (by decide) (t := (.array (.object "java/lang/Object"))) (t' := .int) (by decide) (by decide))))
  obtain ⟨T4, X4, e4, st4⟩ := getF X2 hx hZ hown (host := "") (Or.inl (w96 hw)) Via.refl e2 c3 (g := (mkF m 13 #[.val (.ref a1), .val (.ref a2)] [(.ref a1), (.ref a2), (.ref a1)])) rfl rfl (hb hby d13_13)
  refine Go.st st4 ?_
  show Go p e below _ (T4.setTop (mkF m 16 #[.val (.ref a1), .val (.ref a2)] [(.ref a3), (.ref a2), (.ref a1)]))
  refine Go.st (fun t k => XS.aloadN X4.here hx rfl (hb hby d13_16) rfl rfl k) ?_
  show Go p e below _ (T4.setTop (mkF m 17 #[.val (.ref a1), .val (.ref a2)] [(.ref a1), (.ref a3), (.ref a2), (.ref a1)]))
  have c5 := (P5.other W2 (Or.inr (slot_ne (Or.inl (w110 hw)) (Or.inl (w94 hw)) (by decide) (t := .int) (t' := .int) (by decide) (by decide))))
  obtain ⟨T6, X6, e6, st6⟩ := getF X4 hx hZ hown (host := "") (Or.inl (w109 hw)) Via.refl e4 c5 (g := (mkF m 17 #[.val (.ref a1), .val (.ref a2)] [(.ref a1), (.ref a3), (.ref a2), (.ref a1)])) rfl rfl (hb hby d13_17)
  refine Go.st st6 ?_
  show Go p e below _ (T6.setTop (mkF m 20 #[.val (.ref a1), .val (.ref a2)] [(.int (1 : Int32)), (.ref a3), (.ref a2), (.ref a1)]))
  obtain ⟨cq7, u7, u7'⟩ := (P2.wr W2).cell
  obtain ⟨_, _, ⟨T7, L7, k7, n7⟩, -, X7, ⟨Lc7, hQ7, l7, y7, z7⟩, st7⟩ := X6.privateBack hx (y := (⟨"java/util/ArrayList", "add", "(Ljava/lang/Object;[Ljava/lang/Object;I)V"⟩ : MethodName)) hown (mvT hZ (w111 hw)) (mvT hZ (w112 hw)) (mvT hZ (w114 hw)) (Cond.privateMethod_at (mvP hZ (w113 hw) (args := #[]))) (mvT hZ (w115 hw)) (by decide) (backOf (W := 0) (rm14_2 l Z a0 hw [] a1 a2 a3 kz4 a5 h2 n0 O2 (P6.other W2 (Ne.symm P10)) P7 (P8.wr W2) P9 (P2.wr W2) c5 P10 P3 F2 c3) hZ (w115 hw) (w76 hw) (by decide) (by decide)) (g := (mkF m 20 #[.val (.ref a1), .val (.ref a2)] [(.int (1 : Int32)), (.ref a3), (.ref a2), (.ref a1)])) rfl (by rw [hml]; rfl) (Steps.refl _) (a := a1) (by rw [e6]; exact u7) u7' (argsL := [(.ref a2), (.ref a3), (.int (1 : Int32))]) (rest := []) (lenOf pd_17 rfl) rfl (by show 2 * 0 + _ ≤ _; exact Nat.le_of_eq rfl) (hb hby d13_20) (fun vm₁ hw₁ => ⟨rfl, e6, (by decide : 0 + 0 ≤ _), (by decide : 0 + 0 ≤ _)⟩)
  dsimp only [Pt.U, Pt.locs, Pt.cells, Pt.slots] at X7 l7 y7 z7 st7 hQ7
  subst l7 y7 z7
  obtain ⟨rfl, M7, K7c, r7_0, r7_1, r7_2, r7_3⟩ := hQ7
  have N7 := Fr.app N2 M7
  have O7 : Old Z n0 T7.heap := O2.keep K7c (allS P7 (allS P3 all0))
  have K7 : Keep h0 T7.heap [a1, a3] := K2.trans K7c (allS (Or.inl (List.mem_of_getElem? (i := 1) rfl)) (allS (Or.inl (List.mem_of_getElem? (i := 0) rfl)) all0))
  refine Go.tr st7 ?_
  show Go p e below _ (T7.setTop (mkF m 23 #[.val (.ref a1), .val (.ref a2)] []))
  refine Go.st (fun t k => XS.iconst X7.here hx rfl (hb hby d13_23) k) ?_
  show Go p e below _ (T7.setTop (mkF m 24 #[.val (.ref a1), .val (.ref a2)] [(.int (1 : Int32))]))
  obtain ⟨fs, hr, hrun, hended, hWd, hsame⟩ := X7.leave (v := some (.int (1 : Int32))) (fun h => by rw [Bd.returns] at h; cases h)
  refine ⟨_, _, ?_, hrun, hended, _, _, rfl, ?_, ⟨⟨_, rfl⟩, hWd, hsame.mono (by decide) (by decide)⟩⟩
  · exact retN X7 hx (t := .boolean) Bd.returns (by simp) (hb hby d13_24) hr
  · show Q_rm13_2 Z a1 a2 a3 kz4 a5 h0 n0 _ T7.heap _
    exact ⟨rfl, N7, K7, r7_2, r7_3, r7_1, r7_0⟩
def Q_rm9_2 (Z : State) (a1 : Addr) (a2 : Addr) (a3 : Addr) (a4 : Addr) (kz5 : ClassId) (a6 : Addr) (h0 : Heap) (n0 : Nat) (v : Option Value) (h : Heap) (L : List Loc) : Prop := v = none ∧ Fr n0 L ∧ Keep h0 h [a4, a3] ∧ Arv Z h a4 kz5 (.object "java/lang/Object") (10 : Int32) [(.ref a6), (.ref a2), .null, .null, .null, .null, .null, .null, .null, .null] .null ∧ Fld Z h a3 "java/util/AbstractList" "modCount" "I" (.int (2 : Int32)) ∧ Fld Z h a3 "java/util/ArrayList" "elementData" "[Ljava/lang/Object;" (.ref a4) ∧ Fld Z h a3 "java/util/ArrayList" "size" "I" (.int (2 : Int32))
set_option maxRecDepth 65536 in
set_option maxHeartbeats 40000000 in
theorem rm9_2 (l : Launch) (Z : State) (a0 : Array Value) (hw : ∀ d ∈ tables_1, d.before a0 Z = true) (ws : List Jvm.Cond) (a1 : Addr) (a2 : Addr) (a3 : Addr) (a4 : Addr) (kz5 : ClassId) (a6 : Addr) (h0 : Heap) (n0 : Nat) (O0 : Old Z n0 h0) (P1 : Fld Z h0 a1 "com/example/cropmark/cropmark/Row" "problems" "Ljava/util/List;" (.ref a3)) (P2 : Exa Z h0 a3 "java/util/ArrayList") (P3 : Fld Z h0 a3 "java/util/AbstractList" "modCount" "I" (.int (1 : Int32))) (P4 : n0 ≤ a3) (P5 : Fld Z h0 a3 "java/util/ArrayList" "elementData" "[Ljava/lang/Object;" (.ref a4)) (P6 : Fld Z h0 a3 "java/util/ArrayList" "size" "I" (.int (1 : Int32))) (P7 : Arv Z h0 a4 kz5 (.object "java/lang/Object") (10 : Int32) [(.ref a6), .null, .null, .null, .null, .null, .null, .null, .null, .null] .null) (P8 : n0 ≤ a4) (P9 : Exa Z h0 a2 "java/lang/String") (P10 : Ovr Z kz5 "java/lang/Object") (P11 : a3 ≠ a4) :
    MetFree l (⟨"com/example/cropmark/cropmark/Row", "problem", "(Ljava/lang/String;)V"⟩ : MethodName) (head1 (Jvm.Cond.code (⟨"com/example/cropmark/cropmark/Row", "problem", "(Ljava/lang/String;)V"⟩ : MethodName) prog_67_method_18_code 2 none :: ws) ({ frames := 2, cells := 0, slots := 0, locals := 28 } : Room)) (fun a U => a = #[(.ref a1), (.ref a2)] ∧ Z.Warmed39 U.vm ∧ U.heap = h0) (fun _ _ _ _ _ => True) (fun _ U o U' => ∃ v L, o = .returned v ∧ Q_rm9_2 Z a1 a2 a3 a4 kz5 a6 h0 n0 v U'.heap L ∧ FrameEnd U o U' L ({ frames := 2, cells := 0, slots := 0, locals := 28 } : Room).cells ({ frames := 2, cells := 0, slots := 0, locals := 28 } : Room).slots) := by
  refine MetFree.of_bodySF (plainFor_of_name pn_4) hisR ?_
  intro p e s m args below meth c s₁ Bd hml0 hP hK
  obtain ⟨rfl, hZ, hh⟩ := hP
  have hx := Bd.exec
  have hby := Bd.bytes
  have hml : c.maxLocals = 2 := hml0
  have hown : s.vm.findClass "com/example/cropmark/cropmark/Row" = some m.cls := findClass_of_methodNamed Bd.named
  have hnm := (name_of_methodNamed Bd.named Bd.method).1
  have X0 : Stand p l e ({ frames := 2, cells := 0, slots := 0, locals := 28 } : Room) s m #[(.ref a1), (.ref a2)] below meth c s₁ [] 0 0 := Stand.of_body Bd
  have e0 : s₁.heap = h0 := by rw [← hh, Bd.state]; rfl
  have N0 := Fr.nil n0
  refine Go.start (P := (fun o U' => ∃ v L, o = .returned v ∧ Q_rm9_2 Z a1 a2 a3 a4 kz5 a6 h0 n0 v U'.heap L ∧ FrameEnd s o U' L ({ frames := 2, cells := 0, slots := 0, locals := 28 } : Room).cells ({ frames := 2, cells := 0, slots := 0, locals := 28 } : Room).slots)) (castTop (g' := (mkF m 0 #[.val (.ref a1), .val (.ref a2)] [])) (by first | rfl | simp [entryFrame, mkF, argsToLocals, Value.category]) (T := s₁)) ?_
  refine Go.st (fun t k => XS.aloadN X0.here hx rfl (hb hby d9_0) rfl rfl k) ?_
  show Go p e below _ (s₁.setTop (mkF m 1 #[.val (.ref a1), .val (.ref a2)] [(.ref a1)]))
  obtain ⟨T1, X1, e1, st1⟩ := getF X0 hx hZ hown (host := "") (Or.inl (w49 hw)) Via.refl e0 P1 (g := (mkF m 1 #[.val (.ref a1), .val (.ref a2)] [(.ref a1)])) rfl rfl (hb hby d9_1)
  refine Go.st st1 ?_
  show Go p e below _ (T1.setTop (mkF m 4 #[.val (.ref a1), .val (.ref a2)] [(.ref a3)]))
  refine Go.st (fun t k => XS.ifnonnullYes X1.here hx rfl (pc0 := 4) (pc' := 18) rfl (hb hby d9_4) rfl (by decide) (by decide) k) ?_
  show Go p e below _ (T1.setTop (mkF m 18 #[.val (.ref a1), .val (.ref a2)] []))
  refine Go.st (fun t k => XS.aloadN X1.here hx rfl (hb hby d9_18) rfl rfl k) ?_
  show Go p e below _ (T1.setTop (mkF m 19 #[.val (.ref a1), .val (.ref a2)] [(.ref a1)]))
  obtain ⟨T2, X2, e2, st2⟩ := getF X1 hx hZ hown (host := "") (Or.inl (w49 hw)) Via.refl e1 P1 (g := (mkF m 19 #[.val (.ref a1), .val (.ref a2)] [(.ref a1)])) rfl rfl (hb hby d9_19)
  refine Go.st st2 ?_
  show Go p e below _ (T2.setTop (mkF m 22 #[.val (.ref a1), .val (.ref a2)] [(.ref a3)]))
  refine Go.st (fun t k => XS.aloadN X2.here hx rfl (hb hby d9_22) rfl rfl k) ?_
  show Go p e below _ (T2.setTop (mkF m 23 #[.val (.ref a1), .val (.ref a2)] [(.ref a2), (.ref a3)]))
  obtain ⟨cq3, kq3, q3a, q3b, q3c⟩ := isOf hZ e2 P2
  obtain ⟨_, _, ⟨T3, L3, k3, n3⟩, -, X3, ⟨Lc3, hQ3, l3, y3, z3⟩, st3⟩ := X2.interfaceBack hx (xi := (⟨"java/util/List", "add", "(Ljava/lang/Object;)Z"⟩ : MethodName)) (y := (⟨"java/util/ArrayList", "add", "(Ljava/lang/Object;)Z"⟩ : MethodName)) hown (mvT hZ (w98 hw)) (mvT hZ (w99 hw)) (mvT hZ (w100 hw)) (mvT hZ (w101 hw)) (mvT hZ (w102 hw)) (mvT hZ (w103 hw)) (mvT hZ (w104 hw)) (mvT hZ (w105 hw)) (by decide) (backOf (W := 0) (rm13_2 l Z a0 hw [] a3 a2 a4 kz5 a6 h0 n0 O0 P3 P2 P4 P5 P6 P7 P8 P9 P10 P11) hZ (w106 hw) (w76 hw) (by decide) (by decide)) q3a q3b q3c (g := (mkF m 23 #[.val (.ref a1), .val (.ref a2)] [(.ref a2), (.ref a3)])) rfl (by rw [hml]; rfl) (Steps.refl _) (argsL := [(.ref a2)]) (rest := []) (lenOf pd_18 rfl) rfl (by show 2 * 0 + _ ≤ _; exact Nat.le_of_eq rfl) (hb hby d9_23) (fun vm₁ hw₁ => ⟨rfl, e2, (by decide : 0 + 0 ≤ _), (by decide : 0 + 0 ≤ _)⟩)
  dsimp only [Pt.U, Pt.locs, Pt.cells, Pt.slots] at X3 l3 y3 z3 st3 hQ3
  subst l3 y3 z3
  obtain ⟨rfl, M3, K3c, r3_0, r3_1, r3_2, r3_3⟩ := hQ3
  have N3 := Fr.app N0 M3
  have O3 : Old Z n0 T3.heap := O0.keep K3c (allS P4 (allS P8 all0))
  have K3 : Keep h0 T3.heap [a4, a3] := (Keep.refl h0 [a4, a3]).trans K3c (allS (Or.inl (List.mem_of_getElem? (i := 1) rfl)) (allS (Or.inl (List.mem_of_getElem? (i := 0) rfl)) all0))
  refine Go.tr st3 ?_
  show Go p e below _ (T3.setTop (mkF m 28 #[.val (.ref a1), .val (.ref a2)] [(.int (1 : Int32))]))
  refine Go.st (fun t k => XS.pop X3.here hx rfl (hb hby d9_28) rfl rfl k) ?_
  show Go p e below _ (T3.setTop (mkF m 29 #[.val (.ref a1), .val (.ref a2)] []))
  obtain ⟨fs, hr, hrun, hended, hWd, hsame⟩ := X3.leave (v := none) (fun _ => rfl)
  refine ⟨_, _, ?_, hrun, hended, _, _, rfl, ?_, ⟨⟨_, rfl⟩, hWd, hsame.mono (by decide) (by decide)⟩⟩
  · exact X3.returnOut hx Bd.returns (hb hby d9_29) hr
  · show Q_rm9_2 Z a1 a2 a3 a4 kz5 a6 h0 n0 _ T3.heap _
    exact ⟨rfl, N3, K3, r3_3, r3_0, r3_1, r3_2⟩
def Q_rm18_2 (Z : State) (a1 : Addr) (h0 : Heap) (n0 : Nat) (v : Option Value) (h : Heap) (L : List Loc) : Prop := v = some (.int (2 : Int32)) ∧ Fr n0 L ∧ h = h0
set_option maxRecDepth 65536 in
set_option maxHeartbeats 40000000 in
theorem rm18_2 (l : Launch) (Z : State) (a0 : Array Value) (hw : ∀ d ∈ tables_1, d.before a0 Z = true) (ws : List Jvm.Cond) (a1 : Addr) (h0 : Heap) (n0 : Nat) (O0 : Old Z n0 h0) (P1 : Fld Z h0 a1 "java/util/ArrayList" "size" "I" (.int (2 : Int32))) :
    MetFree l (⟨"java/util/ArrayList", "size", "()I"⟩ : MethodName) (head1 (Jvm.Cond.code (⟨"java/util/ArrayList", "size", "()I"⟩ : MethodName) jdk_38_method_8_code 1 (some .int) :: ws) ({ frames := 0, cells := 0, slots := 0, locals := 0 } : Room)) (fun a U => a = #[(.ref a1)] ∧ Z.Warmed39 U.vm ∧ U.heap = h0) (fun _ _ _ _ _ => True) (fun _ U o U' => ∃ v L, o = .returned v ∧ Q_rm18_2 Z a1 h0 n0 v U'.heap L ∧ FrameEnd U o U' L ({ frames := 0, cells := 0, slots := 0, locals := 0 } : Room).cells ({ frames := 0, cells := 0, slots := 0, locals := 0 } : Room).slots) := by
  refine MetFree.of_bodySF (plainFor_of_name pn_9) hisR ?_
  intro p e s m args below meth c s₁ Bd hml0 hP hK
  obtain ⟨rfl, hZ, hh⟩ := hP
  have hx := Bd.exec
  have hby := Bd.bytes
  have hml : c.maxLocals = 1 := hml0
  have hown : s.vm.findClass "java/util/ArrayList" = some m.cls := findClass_of_methodNamed Bd.named
  have hnm := (name_of_methodNamed Bd.named Bd.method).1
  have X0 : Stand p l e ({ frames := 0, cells := 0, slots := 0, locals := 0 } : Room) s m #[(.ref a1)] below meth c s₁ [] 0 0 := Stand.of_body Bd
  have e0 : s₁.heap = h0 := by rw [← hh, Bd.state]; rfl
  have N0 := Fr.nil n0
  refine Go.start (P := (fun o U' => ∃ v L, o = .returned v ∧ Q_rm18_2 Z a1 h0 n0 v U'.heap L ∧ FrameEnd s o U' L ({ frames := 0, cells := 0, slots := 0, locals := 0 } : Room).cells ({ frames := 0, cells := 0, slots := 0, locals := 0 } : Room).slots)) (castTop (g' := (mkF m 0 #[.val (.ref a1)] [])) (by first | rfl | simp [entryFrame, mkF, argsToLocals, Value.category]) (T := s₁)) ?_
  refine Go.st (fun t k => XS.aloadN X0.here hx rfl (hb hby d18_0) rfl rfl k) ?_
  show Go p e below _ (s₁.setTop (mkF m 1 #[.val (.ref a1)] [(.ref a1)]))
  obtain ⟨T1, X1, e1, st1⟩ := getF X0 hx hZ hown (host := "") (Or.inl (w109 hw)) Via.refl e0 P1 (g := (mkF m 1 #[.val (.ref a1)] [(.ref a1)])) rfl rfl (hb hby d18_1)
  refine Go.st st1 ?_
  show Go p e below _ (T1.setTop (mkF m 4 #[.val (.ref a1)] [(.int (2 : Int32))]))
  obtain ⟨fs, hr, hrun, hended, hWd, hsame⟩ := X1.leave (v := some (.int (2 : Int32))) (fun h => by rw [Bd.returns] at h; cases h)
  refine ⟨_, _, ?_, hrun, hended, _, _, rfl, ?_, ⟨⟨_, rfl⟩, hWd, hsame.mono (by decide) (by decide)⟩⟩
  · exact retI X1 hx Bd.returns (hb hby d18_4) hr
  · show Q_rm18_2 Z a1 h0 n0 _ T1.heap _
    rw [e1]
    exact ⟨rfl, N0, rfl⟩
def Q_rm21_2 (Z : State)  (h0 : Heap) (n0 : Nat) (v : Option Value) (h : Heap) (L : List Loc) : Prop := v = some (.int (0 : Int32)) ∧ Fr n0 L ∧ h = h0
set_option maxRecDepth 65536 in
set_option maxHeartbeats 40000000 in
theorem rm21_2 (l : Launch) (Z : State) (a0 : Array Value) (hw : ∀ d ∈ tables_1, d.before a0 Z = true) (ws : List Jvm.Cond)  (h0 : Heap) (n0 : Nat) (O0 : Old Z n0 h0) :
    MetFree l (⟨"jdk/internal/util/Preconditions", "checkIndex", "(IILjava/util/function/BiFunction;)I"⟩ : MethodName) (head1 (Jvm.Cond.code (⟨"jdk/internal/util/Preconditions", "checkIndex", "(IILjava/util/function/BiFunction;)I"⟩ : MethodName) jdk_41_method_11_code 3 (some .int) :: ws) ({ frames := 0, cells := 0, slots := 0, locals := 0 } : Room)) (fun a U => a = #[(.int (0 : Int32)), (.int (2 : Int32)), .null] ∧ Z.Warmed39 U.vm ∧ U.heap = h0) (fun _ _ _ _ _ => True) (fun _ U o U' => ∃ v L, o = .returned v ∧ Q_rm21_2 Z  h0 n0 v U'.heap L ∧ FrameEnd U o U' L ({ frames := 0, cells := 0, slots := 0, locals := 0 } : Room).cells ({ frames := 0, cells := 0, slots := 0, locals := 0 } : Room).slots) := by
  refine MetFree.of_bodySF (plainFor_of_name pn_10) hisR ?_
  intro p e s m args below meth c s₁ Bd hml0 hP hK
  obtain ⟨rfl, hZ, hh⟩ := hP
  have hx := Bd.exec
  have hby := Bd.bytes
  have hml : c.maxLocals = 3 := hml0
  have hown : s.vm.findClass "jdk/internal/util/Preconditions" = some m.cls := findClass_of_methodNamed Bd.named
  have hnm := (name_of_methodNamed Bd.named Bd.method).1
  have X0 : Stand p l e ({ frames := 0, cells := 0, slots := 0, locals := 0 } : Room) s m #[(.int (0 : Int32)), (.int (2 : Int32)), .null] below meth c s₁ [] 0 0 := Stand.of_body Bd
  have e0 : s₁.heap = h0 := by rw [← hh, Bd.state]; rfl
  have N0 := Fr.nil n0
  refine Go.start (P := (fun o U' => ∃ v L, o = .returned v ∧ Q_rm21_2 Z  h0 n0 v U'.heap L ∧ FrameEnd s o U' L ({ frames := 0, cells := 0, slots := 0, locals := 0 } : Room).cells ({ frames := 0, cells := 0, slots := 0, locals := 0 } : Room).slots)) (castTop (g' := (mkF m 0 #[.val (.int (0 : Int32)), .val (.int (2 : Int32)), .val .null] [])) (by first | rfl | simp [entryFrame, mkF, argsToLocals, Value.category]) (T := s₁)) ?_
  refine Go.st (fun t k => XS.iloadN X0.here hx rfl (hb hby d21_0) rfl k) ?_
  show Go p e below _ (s₁.setTop (mkF m 1 #[.val (.int (0 : Int32)), .val (.int (2 : Int32)), .val .null] [(.int (0 : Int32))]))
  refine Go.st (fun t k => XS.ifNo X0.here hx rfl (hb hby d21_1) rfl (Jvm.Free.XT.i0_lt_f (by decide : ¬ ((0 : Int32) < (0 : Int32)))) k) ?_
  show Go p e below _ (s₁.setTop (mkF m 4 #[.val (.int (0 : Int32)), .val (.int (2 : Int32)), .val .null] []))
  refine Go.st (fun t k => XS.iloadN X0.here hx rfl (hb hby d21_4) rfl k) ?_
  show Go p e below _ (s₁.setTop (mkF m 5 #[.val (.int (0 : Int32)), .val (.int (2 : Int32)), .val .null] [(.int (0 : Int32))]))
  refine Go.st (fun t k => XS.iloadN X0.here hx rfl (hb hby d21_5) rfl k) ?_
  show Go p e below _ (s₁.setTop (mkF m 6 #[.val (.int (0 : Int32)), .val (.int (2 : Int32)), .val .null] [(.int (2 : Int32)), (.int (0 : Int32))]))
  refine Go.st (fun t k => XS.icmpYes X0.here hx rfl (pc0 := 6) (pc' := 16) rfl (hb hby d21_6) rfl (Jvm.Free.XT.ii_lt_t (by decide : (0 : Int32) < (2 : Int32))) (by decide) (by decide) k) ?_
  show Go p e below _ (s₁.setTop (mkF m 16 #[.val (.int (0 : Int32)), .val (.int (2 : Int32)), .val .null] []))
  refine Go.st (fun t k => XS.iloadN X0.here hx rfl (hb hby d21_16) rfl k) ?_
  show Go p e below _ (s₁.setTop (mkF m 17 #[.val (.int (0 : Int32)), .val (.int (2 : Int32)), .val .null] [(.int (0 : Int32))]))
  obtain ⟨fs, hr, hrun, hended, hWd, hsame⟩ := X0.leave (v := some (.int (0 : Int32))) (fun h => by rw [Bd.returns] at h; cases h)
  refine ⟨_, _, ?_, hrun, hended, _, _, rfl, ?_, ⟨⟨_, rfl⟩, hWd, hsame.mono (by decide) (by decide)⟩⟩
  · exact retI X0 hx Bd.returns (hb hby d21_17) hr
  · show Q_rm21_2 Z  h0 n0 _ s₁.heap _
    rw [e0]
    exact ⟨rfl, N0, rfl⟩
def Q_rm20_2 (Z : State)  (h0 : Heap) (n0 : Nat) (v : Option Value) (h : Heap) (L : List Loc) : Prop := v = some (.int (0 : Int32)) ∧ Fr n0 L ∧ h = h0
set_option maxRecDepth 65536 in
set_option maxHeartbeats 40000000 in
theorem rm20_2 (l : Launch) (Z : State) (a0 : Array Value) (hw : ∀ d ∈ tables_1, d.before a0 Z = true) (ws : List Jvm.Cond)  (h0 : Heap) (n0 : Nat) (O0 : Old Z n0 h0) :
    MetFree l (⟨"java/util/Objects", "checkIndex", "(II)I"⟩ : MethodName) (head1 (Jvm.Cond.code (⟨"java/util/Objects", "checkIndex", "(II)I"⟩ : MethodName) jdk_31_method_17_code 2 (some .int) :: ws) ({ frames := 1, cells := 0, slots := 0, locals := 14 } : Room)) (fun a U => a = #[(.int (0 : Int32)), (.int (2 : Int32))] ∧ Z.Warmed39 U.vm ∧ U.heap = h0) (fun _ _ _ _ _ => True) (fun _ U o U' => ∃ v L, o = .returned v ∧ Q_rm20_2 Z  h0 n0 v U'.heap L ∧ FrameEnd U o U' L ({ frames := 1, cells := 0, slots := 0, locals := 14 } : Room).cells ({ frames := 1, cells := 0, slots := 0, locals := 14 } : Room).slots) := by
  refine MetFree.of_bodySF (plainFor_of_name pn_11) hisR ?_
  intro p e s m args below meth c s₁ Bd hml0 hP hK
  obtain ⟨rfl, hZ, hh⟩ := hP
  have hx := Bd.exec
  have hby := Bd.bytes
  have hml : c.maxLocals = 2 := hml0
  have hown : s.vm.findClass "java/util/Objects" = some m.cls := findClass_of_methodNamed Bd.named
  have hnm := (name_of_methodNamed Bd.named Bd.method).1
  have X0 : Stand p l e ({ frames := 1, cells := 0, slots := 0, locals := 14 } : Room) s m #[(.int (0 : Int32)), (.int (2 : Int32))] below meth c s₁ [] 0 0 := Stand.of_body Bd
  have e0 : s₁.heap = h0 := by rw [← hh, Bd.state]; rfl
  have N0 := Fr.nil n0
  refine Go.start (P := (fun o U' => ∃ v L, o = .returned v ∧ Q_rm20_2 Z  h0 n0 v U'.heap L ∧ FrameEnd s o U' L ({ frames := 1, cells := 0, slots := 0, locals := 14 } : Room).cells ({ frames := 1, cells := 0, slots := 0, locals := 14 } : Room).slots)) (castTop (g' := (mkF m 0 #[.val (.int (0 : Int32)), .val (.int (2 : Int32))] [])) (by first | rfl | simp [entryFrame, mkF, argsToLocals, Value.category]) (T := s₁)) ?_
  refine Go.st (fun t k => XS.iloadN X0.here hx rfl (hb hby d20_0) rfl k) ?_
  show Go p e below _ (s₁.setTop (mkF m 1 #[.val (.int (0 : Int32)), .val (.int (2 : Int32))] [(.int (0 : Int32))]))
  refine Go.st (fun t k => XS.iloadN X0.here hx rfl (hb hby d20_1) rfl k) ?_
  show Go p e below _ (s₁.setTop (mkF m 2 #[.val (.int (0 : Int32)), .val (.int (2 : Int32))] [(.int (2 : Int32)), (.int (0 : Int32))]))
  refine Go.st (fun t k => XS.aconstNull X0.here hx rfl (hb hby d20_2) k) ?_
  show Go p e below _ (s₁.setTop (mkF m 3 #[.val (.int (0 : Int32)), .val (.int (2 : Int32))] [.null, (.int (2 : Int32)), (.int (0 : Int32))]))
  obtain ⟨_, _, ⟨T1, L1, k1, n1⟩, -, X1, ⟨Lc1, hQ1, l1, y1, z1⟩, st1⟩ := Jvm.LawKit.callS X0 hx (y := (⟨"jdk/internal/util/Preconditions", "checkIndex", "(IILjava/util/function/BiFunction;)I"⟩ : MethodName)) hown (mvT hZ (w150 hw)) (mvT hZ (w151 hw)) (mvT hZ (w152 hw)) (mvT hZ (w153 hw)) (by decide) (backOf (W := 0) (rm21_2 l Z a0 hw []  h0 n0 O0 ) hZ (w153 hw) (w152 hw) (by decide) (by decide)) (g := (mkF m 3 #[.val (.int (0 : Int32)), .val (.int (2 : Int32))] [.null, (.int (2 : Int32)), (.int (0 : Int32))])) rfl (by rw [hml]; rfl) (argsL := [(.int (0 : Int32)), (.int (2 : Int32)), .null]) (rest := []) (lenOf pd_20 rfl) rfl (by show 2 * 0 + _ ≤ _; exact Nat.le_of_eq rfl) (hb hby d20_3) (fun vm₁ hw₁ => ⟨rfl, e0, (by decide : 0 + 0 ≤ _), (by decide : 0 + 0 ≤ _)⟩)
  dsimp only [Pt.U, Pt.locs, Pt.cells, Pt.slots] at X1 l1 y1 z1 st1 hQ1
  subst l1 y1 z1
  obtain ⟨rfl, M1, eh1⟩ := hQ1
  have N1 := Fr.app N0 M1
  refine Go.st st1 ?_
  show Go p e below _ (T1.setTop (mkF m 6 #[.val (.int (0 : Int32)), .val (.int (2 : Int32))] [(.int (0 : Int32))]))
  obtain ⟨fs, hr, hrun, hended, hWd, hsame⟩ := X1.leave (v := some (.int (0 : Int32))) (fun h => by rw [Bd.returns] at h; cases h)
  refine ⟨_, _, ?_, hrun, hended, _, _, rfl, ?_, ⟨⟨_, rfl⟩, hWd, hsame.mono (by decide) (by decide)⟩⟩
  · exact retI X1 hx Bd.returns (hb hby d20_6) hr
  · show Q_rm20_2 Z  h0 n0 _ T1.heap _
    rw [eh1]
    exact ⟨rfl, N1, rfl⟩
def Q_rm22_2 (Z : State) (a1 : Addr) (a2 : Addr) (kz3 : ClassId) (a4 : Addr) (a5 : Addr) (h0 : Heap) (n0 : Nat) (v : Option Value) (h : Heap) (L : List Loc) : Prop := v = some (.ref a4) ∧ Fr n0 L ∧ h = h0
set_option maxRecDepth 65536 in
set_option maxHeartbeats 40000000 in
theorem rm22_2 (l : Launch) (Z : State) (a0 : Array Value) (hw : ∀ d ∈ tables_1, d.before a0 Z = true) (ws : List Jvm.Cond) (a1 : Addr) (a2 : Addr) (kz3 : ClassId) (a4 : Addr) (a5 : Addr) (h0 : Heap) (n0 : Nat) (O0 : Old Z n0 h0) (P1 : Fld Z h0 a1 "java/util/ArrayList" "elementData" "[Ljava/lang/Object;" (.ref a2)) (P2 : Arv Z h0 a2 kz3 (.object "java/lang/Object") (10 : Int32) [(.ref a4), (.ref a5), .null, .null, .null, .null, .null, .null, .null, .null] .null) :
    MetFree l (⟨"java/util/ArrayList", "elementData", "(I)Ljava/lang/Object;"⟩ : MethodName) (head1 (Jvm.Cond.code (⟨"java/util/ArrayList", "elementData", "(I)Ljava/lang/Object;"⟩ : MethodName) jdk_38_method_18_code 2 (some (.object "java/lang/Object")) :: ws) ({ frames := 0, cells := 0, slots := 0, locals := 0 } : Room)) (fun a U => a = #[(.ref a1), (.int (0 : Int32))] ∧ Z.Warmed39 U.vm ∧ U.heap = h0) (fun _ _ _ _ _ => True) (fun _ U o U' => ∃ v L, o = .returned v ∧ Q_rm22_2 Z a1 a2 kz3 a4 a5 h0 n0 v U'.heap L ∧ FrameEnd U o U' L ({ frames := 0, cells := 0, slots := 0, locals := 0 } : Room).cells ({ frames := 0, cells := 0, slots := 0, locals := 0 } : Room).slots) := by
  refine MetFree.of_bodySF (plainFor_of_name pn_9) hisR ?_
  intro p e s m args below meth c s₁ Bd hml0 hP hK
  obtain ⟨rfl, hZ, hh⟩ := hP
  have hx := Bd.exec
  have hby := Bd.bytes
  have hml : c.maxLocals = 2 := hml0
  have hown : s.vm.findClass "java/util/ArrayList" = some m.cls := findClass_of_methodNamed Bd.named
  have hnm := (name_of_methodNamed Bd.named Bd.method).1
  have X0 : Stand p l e ({ frames := 0, cells := 0, slots := 0, locals := 0 } : Room) s m #[(.ref a1), (.int (0 : Int32))] below meth c s₁ [] 0 0 := Stand.of_body Bd
  have e0 : s₁.heap = h0 := by rw [← hh, Bd.state]; rfl
  have N0 := Fr.nil n0
  refine Go.start (P := (fun o U' => ∃ v L, o = .returned v ∧ Q_rm22_2 Z a1 a2 kz3 a4 a5 h0 n0 v U'.heap L ∧ FrameEnd s o U' L ({ frames := 0, cells := 0, slots := 0, locals := 0 } : Room).cells ({ frames := 0, cells := 0, slots := 0, locals := 0 } : Room).slots)) (castTop (g' := (mkF m 0 #[.val (.ref a1), .val (.int (0 : Int32))] [])) (by first | rfl | simp [entryFrame, mkF, argsToLocals, Value.category]) (T := s₁)) ?_
  refine Go.st (fun t k => XS.aloadN X0.here hx rfl (hb hby d22_0) rfl rfl k) ?_
  show Go p e below _ (s₁.setTop (mkF m 1 #[.val (.ref a1), .val (.int (0 : Int32))] [(.ref a1)]))
  obtain ⟨T1, X1, e1, st1⟩ := getF X0 hx hZ hown (host := "") (Or.inl (w96 hw)) Via.refl e0 P1 (g := (mkF m 1 #[.val (.ref a1), .val (.int (0 : Int32))] [(.ref a1)])) rfl rfl (hb hby d22_1)
  refine Go.st st1 ?_
  show Go p e below _ (T1.setTop (mkF m 4 #[.val (.ref a1), .val (.int (0 : Int32))] [(.ref a2)]))
  refine Go.st (fun t k => XS.iloadN X1.here hx rfl (hb hby d22_4) rfl k) ?_
  show Go p e below _ (T1.setTop (mkF m 5 #[.val (.ref a1), .val (.int (0 : Int32))] [(.int (0 : Int32)), (.ref a2)]))
  obtain ⟨cl2, Ar2, q2, S2, M2, H2, G2⟩ := id P2
  have hin2 : ¬ ((0 : Int32) < 0 ∨ cl2.slots.size ≤ ((0 : Int32)).toNatClampNeg) := inb_of S2 ⟨by decide, by decide⟩
  have hat2 : cl2.slots[((0 : Int32)).toNatClampNeg]? = some (.ref a4) := H2.at hin2 rfl
  refine Go.st (fun t k => X1.aaload hx (j := (0 : Int32)) (v := (.ref a4)) (by rw [e1]; exact Ar2.1) (State.isArrayOf_alike hZ.alike Ar2.2.1) rfl Ar2.2.2 hin2 hat2 (g := (mkF m 5 #[.val (.ref a1), .val (.int (0 : Int32))] [(.int (0 : Int32)), (.ref a2)])) rfl rfl (hb hby d22_5) t k) ?_
  show Go p e below _ (T1.setTop (mkF m 6 #[.val (.ref a1), .val (.int (0 : Int32))] [(.ref a4)]))
  obtain ⟨fs, hr, hrun, hended, hWd, hsame⟩ := X1.leave (v := some (.ref a4)) (fun h => by rw [Bd.returns] at h; cases h)
  refine ⟨_, _, ?_, hrun, hended, _, _, rfl, ?_, ⟨⟨_, rfl⟩, hWd, hsame.mono (by decide) (by decide)⟩⟩
  · exact own_retA X1 hx Bd.returns rfl rfl (hb hby d22_6) hr
  · show Q_rm22_2 Z a1 a2 kz3 a4 a5 h0 n0 _ T1.heap _
    rw [e1]
    exact ⟨rfl, N0, rfl⟩
def Q_rm19_2 (Z : State) (a1 : Addr) (a2 : Addr) (kz3 : ClassId) (a4 : Addr) (a5 : Addr) (h0 : Heap) (n0 : Nat) (v : Option Value) (h : Heap) (L : List Loc) : Prop := v = some (.ref a4) ∧ Fr n0 L ∧ h = h0
set_option maxRecDepth 65536 in
set_option maxHeartbeats 40000000 in
theorem rm19_2 (l : Launch) (Z : State) (a0 : Array Value) (hw : ∀ d ∈ tables_1, d.before a0 Z = true) (ws : List Jvm.Cond) (a1 : Addr) (a2 : Addr) (kz3 : ClassId) (a4 : Addr) (a5 : Addr) (h0 : Heap) (n0 : Nat) (O0 : Old Z n0 h0) (P1 : Fld Z h0 a1 "java/util/ArrayList" "size" "I" (.int (2 : Int32))) (P2 : Exa Z h0 a1 "java/util/ArrayList") (P3 : Fld Z h0 a1 "java/util/ArrayList" "elementData" "[Ljava/lang/Object;" (.ref a2)) (P4 : Arv Z h0 a2 kz3 (.object "java/lang/Object") (10 : Int32) [(.ref a4), (.ref a5), .null, .null, .null, .null, .null, .null, .null, .null] .null) :
    MetFree l (⟨"java/util/ArrayList", "get", "(I)Ljava/lang/Object;"⟩ : MethodName) (head1 (Jvm.Cond.code (⟨"java/util/ArrayList", "get", "(I)Ljava/lang/Object;"⟩ : MethodName) jdk_38_method_20_code 2 (some (.object "java/lang/Object")) :: ws) ({ frames := 2, cells := 0, slots := 0, locals := 27 } : Room)) (fun a U => a = #[(.ref a1), (.int (0 : Int32))] ∧ Z.Warmed39 U.vm ∧ U.heap = h0) (fun _ _ _ _ _ => True) (fun _ U o U' => ∃ v L, o = .returned v ∧ Q_rm19_2 Z a1 a2 kz3 a4 a5 h0 n0 v U'.heap L ∧ FrameEnd U o U' L ({ frames := 2, cells := 0, slots := 0, locals := 27 } : Room).cells ({ frames := 2, cells := 0, slots := 0, locals := 27 } : Room).slots) := by
  refine MetFree.of_bodySF (plainFor_of_name pn_9) hisR ?_
  intro p e s m args below meth c s₁ Bd hml0 hP hK
  obtain ⟨rfl, hZ, hh⟩ := hP
  have hx := Bd.exec
  have hby := Bd.bytes
  have hml : c.maxLocals = 2 := hml0
  have hown : s.vm.findClass "java/util/ArrayList" = some m.cls := findClass_of_methodNamed Bd.named
  have hnm := (name_of_methodNamed Bd.named Bd.method).1
  have X0 : Stand p l e ({ frames := 2, cells := 0, slots := 0, locals := 27 } : Room) s m #[(.ref a1), (.int (0 : Int32))] below meth c s₁ [] 0 0 := Stand.of_body Bd
  have e0 : s₁.heap = h0 := by rw [← hh, Bd.state]; rfl
  have N0 := Fr.nil n0
  refine Go.start (P := (fun o U' => ∃ v L, o = .returned v ∧ Q_rm19_2 Z a1 a2 kz3 a4 a5 h0 n0 v U'.heap L ∧ FrameEnd s o U' L ({ frames := 2, cells := 0, slots := 0, locals := 27 } : Room).cells ({ frames := 2, cells := 0, slots := 0, locals := 27 } : Room).slots)) (castTop (g' := (mkF m 0 #[.val (.ref a1), .val (.int (0 : Int32))] [])) (by first | rfl | simp [entryFrame, mkF, argsToLocals, Value.category]) (T := s₁)) ?_
  refine Go.st (fun t k => XS.iloadN X0.here hx rfl (hb hby d19_0) rfl k) ?_
  show Go p e below _ (s₁.setTop (mkF m 1 #[.val (.ref a1), .val (.int (0 : Int32))] [(.int (0 : Int32))]))
  refine Go.st (fun t k => XS.aloadN X0.here hx rfl (hb hby d19_1) rfl rfl k) ?_
  show Go p e below _ (s₁.setTop (mkF m 2 #[.val (.ref a1), .val (.int (0 : Int32))] [(.ref a1), (.int (0 : Int32))]))
  obtain ⟨T1, X1, e1, st1⟩ := getF X0 hx hZ hown (host := "") (Or.inl (w109 hw)) Via.refl e0 P1 (g := (mkF m 2 #[.val (.ref a1), .val (.int (0 : Int32))] [(.ref a1), (.int (0 : Int32))])) rfl rfl (hb hby d19_2)
  refine Go.st st1 ?_
  show Go p e below _ (T1.setTop (mkF m 5 #[.val (.ref a1), .val (.int (0 : Int32))] [(.int (2 : Int32)), (.int (0 : Int32))]))
  obtain ⟨_, _, ⟨T2, L2, k2, n2⟩, -, X2, ⟨Lc2, hQ2, l2, y2, z2⟩, st2⟩ := Jvm.LawKit.callS X1 hx (y := (⟨"java/util/Objects", "checkIndex", "(II)I"⟩ : MethodName)) hown (mvT hZ (w146 hw)) (mvT hZ (w147 hw)) (mvT hZ (w148 hw)) (mvT hZ (w149 hw)) (by decide) (backOf (W := 0) (rm20_2 l Z a0 hw []  h0 n0 O0 ) hZ (w149 hw) (w148 hw) (by decide) (by decide)) (g := (mkF m 5 #[.val (.ref a1), .val (.int (0 : Int32))] [(.int (2 : Int32)), (.int (0 : Int32))])) rfl (by rw [hml]; rfl) (argsL := [(.int (0 : Int32)), (.int (2 : Int32))]) (rest := []) (lenOf pd_14 rfl) rfl (by show 2 * 0 + _ ≤ _; exact Nat.le_of_eq rfl) (hb hby d19_5) (fun vm₁ hw₁ => ⟨rfl, e1, (by decide : 0 + 0 ≤ _), (by decide : 0 + 0 ≤ _)⟩)
  dsimp only [Pt.U, Pt.locs, Pt.cells, Pt.slots] at X2 l2 y2 z2 st2 hQ2
  subst l2 y2 z2
  obtain ⟨rfl, M2, eh2⟩ := hQ2
  have N2 := Fr.app N0 M2
  refine Go.st st2 ?_
  show Go p e below _ (T2.setTop (mkF m 8 #[.val (.ref a1), .val (.int (0 : Int32))] [(.int (0 : Int32))]))
  refine Go.st (fun t k => XS.pop X2.here hx rfl (hb hby d19_8) rfl rfl k) ?_
  show Go p e below _ (T2.setTop (mkF m 9 #[.val (.ref a1), .val (.int (0 : Int32))] []))
  refine Go.st (fun t k => XS.aloadN X2.here hx rfl (hb hby d19_9) rfl rfl k) ?_
  show Go p e below _ (T2.setTop (mkF m 10 #[.val (.ref a1), .val (.int (0 : Int32))] [(.ref a1)]))
  refine Go.st (fun t k => XS.iloadN X2.here hx rfl (hb hby d19_10) rfl k) ?_
  show Go p e below _ (T2.setTop (mkF m 11 #[.val (.ref a1), .val (.int (0 : Int32))] [(.int (0 : Int32)), (.ref a1)]))
  obtain ⟨cq3, kq3, q3a, q3b, q3c⟩ := isOf hZ eh2 P2
  obtain ⟨_, _, ⟨T3, L3, k3, n3⟩, -, X3, ⟨Lc3, hQ3, l3, y3, z3⟩, st3⟩ := X2.virtualBack hx (y := (⟨"java/util/ArrayList", "elementData", "(I)Ljava/lang/Object;"⟩ : MethodName)) (z := (⟨"java/util/ArrayList", "elementData", "(I)Ljava/lang/Object;"⟩ : MethodName)) hown (mvT hZ (w154 hw)) (mvT hZ (w155 hw)) (notFace_of_selects (args := #[]) (mvT hZ (w157 hw))) (mvT hZ (w157 hw)) (mvT hZ (w156 hw)) (by decide) (backOf (W := 0) (rm22_2 l Z a0 hw [] a1 a2 kz3 a4 a5 h0 n0 O0 P3 P4) hZ (w158 hw) (w76 hw) (by decide) (by decide)) q3a q3c (g := (mkF m 11 #[.val (.ref a1), .val (.int (0 : Int32))] [(.int (0 : Int32)), (.ref a1)])) rfl (by rw [hml]; rfl) (Steps.refl _) (argsL := [(.int (0 : Int32))]) (rest := []) (lenOf pd_21 rfl) rfl (by show 2 * 0 + _ ≤ _; exact Nat.le_of_eq rfl) (hb hby d19_11) (fun vm₁ hw₁ => ⟨rfl, eh2, (by decide : 0 + 0 ≤ _), (by decide : 0 + 0 ≤ _)⟩)
  dsimp only [Pt.U, Pt.locs, Pt.cells, Pt.slots] at X3 l3 y3 z3 st3 hQ3
  subst l3 y3 z3
  obtain ⟨rfl, M3, eh3⟩ := hQ3
  have N3 := Fr.app N2 M3
  refine Go.tr st3 ?_
  show Go p e below _ (T3.setTop (mkF m 14 #[.val (.ref a1), .val (.int (0 : Int32))] [(.ref a4)]))
  obtain ⟨fs, hr, hrun, hended, hWd, hsame⟩ := X3.leave (v := some (.ref a4)) (fun h => by rw [Bd.returns] at h; cases h)
  refine ⟨_, _, ?_, hrun, hended, _, _, rfl, ?_, ⟨⟨_, rfl⟩, hWd, hsame.mono (by decide) (by decide)⟩⟩
  · exact own_retA X3 hx Bd.returns rfl rfl (hb hby d19_14) hr
  · show Q_rm19_2 Z a1 a2 kz3 a4 a5 h0 n0 _ T3.heap _
    rw [eh3]
    exact ⟨rfl, N3, rfl⟩
def Q_rm21_3 (Z : State)  (h0 : Heap) (n0 : Nat) (v : Option Value) (h : Heap) (L : List Loc) : Prop := v = some (.int (1 : Int32)) ∧ Fr n0 L ∧ h = h0
set_option maxRecDepth 65536 in
set_option maxHeartbeats 40000000 in
theorem rm21_3 (l : Launch) (Z : State) (a0 : Array Value) (hw : ∀ d ∈ tables_1, d.before a0 Z = true) (ws : List Jvm.Cond)  (h0 : Heap) (n0 : Nat) (O0 : Old Z n0 h0) :
    MetFree l (⟨"jdk/internal/util/Preconditions", "checkIndex", "(IILjava/util/function/BiFunction;)I"⟩ : MethodName) (head1 (Jvm.Cond.code (⟨"jdk/internal/util/Preconditions", "checkIndex", "(IILjava/util/function/BiFunction;)I"⟩ : MethodName) jdk_41_method_11_code 3 (some .int) :: ws) ({ frames := 0, cells := 0, slots := 0, locals := 0 } : Room)) (fun a U => a = #[(.int (1 : Int32)), (.int (2 : Int32)), .null] ∧ Z.Warmed39 U.vm ∧ U.heap = h0) (fun _ _ _ _ _ => True) (fun _ U o U' => ∃ v L, o = .returned v ∧ Q_rm21_3 Z  h0 n0 v U'.heap L ∧ FrameEnd U o U' L ({ frames := 0, cells := 0, slots := 0, locals := 0 } : Room).cells ({ frames := 0, cells := 0, slots := 0, locals := 0 } : Room).slots) := by
  refine MetFree.of_bodySF (plainFor_of_name pn_10) hisR ?_
  intro p e s m args below meth c s₁ Bd hml0 hP hK
  obtain ⟨rfl, hZ, hh⟩ := hP
  have hx := Bd.exec
  have hby := Bd.bytes
  have hml : c.maxLocals = 3 := hml0
  have hown : s.vm.findClass "jdk/internal/util/Preconditions" = some m.cls := findClass_of_methodNamed Bd.named
  have hnm := (name_of_methodNamed Bd.named Bd.method).1
  have X0 : Stand p l e ({ frames := 0, cells := 0, slots := 0, locals := 0 } : Room) s m #[(.int (1 : Int32)), (.int (2 : Int32)), .null] below meth c s₁ [] 0 0 := Stand.of_body Bd
  have e0 : s₁.heap = h0 := by rw [← hh, Bd.state]; rfl
  have N0 := Fr.nil n0
  refine Go.start (P := (fun o U' => ∃ v L, o = .returned v ∧ Q_rm21_3 Z  h0 n0 v U'.heap L ∧ FrameEnd s o U' L ({ frames := 0, cells := 0, slots := 0, locals := 0 } : Room).cells ({ frames := 0, cells := 0, slots := 0, locals := 0 } : Room).slots)) (castTop (g' := (mkF m 0 #[.val (.int (1 : Int32)), .val (.int (2 : Int32)), .val .null] [])) (by first | rfl | simp [entryFrame, mkF, argsToLocals, Value.category]) (T := s₁)) ?_
  refine Go.st (fun t k => XS.iloadN X0.here hx rfl (hb hby d21_0) rfl k) ?_
  show Go p e below _ (s₁.setTop (mkF m 1 #[.val (.int (1 : Int32)), .val (.int (2 : Int32)), .val .null] [(.int (1 : Int32))]))
  refine Go.st (fun t k => XS.ifNo X0.here hx rfl (hb hby d21_1) rfl (Jvm.Free.XT.i0_lt_f (by decide : ¬ ((1 : Int32) < (0 : Int32)))) k) ?_
  show Go p e below _ (s₁.setTop (mkF m 4 #[.val (.int (1 : Int32)), .val (.int (2 : Int32)), .val .null] []))
  refine Go.st (fun t k => XS.iloadN X0.here hx rfl (hb hby d21_4) rfl k) ?_
  show Go p e below _ (s₁.setTop (mkF m 5 #[.val (.int (1 : Int32)), .val (.int (2 : Int32)), .val .null] [(.int (1 : Int32))]))
  refine Go.st (fun t k => XS.iloadN X0.here hx rfl (hb hby d21_5) rfl k) ?_
  show Go p e below _ (s₁.setTop (mkF m 6 #[.val (.int (1 : Int32)), .val (.int (2 : Int32)), .val .null] [(.int (2 : Int32)), (.int (1 : Int32))]))
  refine Go.st (fun t k => XS.icmpYes X0.here hx rfl (pc0 := 6) (pc' := 16) rfl (hb hby d21_6) rfl (Jvm.Free.XT.ii_lt_t (by decide : (1 : Int32) < (2 : Int32))) (by decide) (by decide) k) ?_
  show Go p e below _ (s₁.setTop (mkF m 16 #[.val (.int (1 : Int32)), .val (.int (2 : Int32)), .val .null] []))
  refine Go.st (fun t k => XS.iloadN X0.here hx rfl (hb hby d21_16) rfl k) ?_
  show Go p e below _ (s₁.setTop (mkF m 17 #[.val (.int (1 : Int32)), .val (.int (2 : Int32)), .val .null] [(.int (1 : Int32))]))
  obtain ⟨fs, hr, hrun, hended, hWd, hsame⟩ := X0.leave (v := some (.int (1 : Int32))) (fun h => by rw [Bd.returns] at h; cases h)
  refine ⟨_, _, ?_, hrun, hended, _, _, rfl, ?_, ⟨⟨_, rfl⟩, hWd, hsame.mono (by decide) (by decide)⟩⟩
  · exact retI X0 hx Bd.returns (hb hby d21_17) hr
  · show Q_rm21_3 Z  h0 n0 _ s₁.heap _
    rw [e0]
    exact ⟨rfl, N0, rfl⟩
def Q_rm20_3 (Z : State)  (h0 : Heap) (n0 : Nat) (v : Option Value) (h : Heap) (L : List Loc) : Prop := v = some (.int (1 : Int32)) ∧ Fr n0 L ∧ h = h0
set_option maxRecDepth 65536 in
set_option maxHeartbeats 40000000 in
theorem rm20_3 (l : Launch) (Z : State) (a0 : Array Value) (hw : ∀ d ∈ tables_1, d.before a0 Z = true) (ws : List Jvm.Cond)  (h0 : Heap) (n0 : Nat) (O0 : Old Z n0 h0) :
    MetFree l (⟨"java/util/Objects", "checkIndex", "(II)I"⟩ : MethodName) (head1 (Jvm.Cond.code (⟨"java/util/Objects", "checkIndex", "(II)I"⟩ : MethodName) jdk_31_method_17_code 2 (some .int) :: ws) ({ frames := 1, cells := 0, slots := 0, locals := 14 } : Room)) (fun a U => a = #[(.int (1 : Int32)), (.int (2 : Int32))] ∧ Z.Warmed39 U.vm ∧ U.heap = h0) (fun _ _ _ _ _ => True) (fun _ U o U' => ∃ v L, o = .returned v ∧ Q_rm20_3 Z  h0 n0 v U'.heap L ∧ FrameEnd U o U' L ({ frames := 1, cells := 0, slots := 0, locals := 14 } : Room).cells ({ frames := 1, cells := 0, slots := 0, locals := 14 } : Room).slots) := by
  refine MetFree.of_bodySF (plainFor_of_name pn_11) hisR ?_
  intro p e s m args below meth c s₁ Bd hml0 hP hK
  obtain ⟨rfl, hZ, hh⟩ := hP
  have hx := Bd.exec
  have hby := Bd.bytes
  have hml : c.maxLocals = 2 := hml0
  have hown : s.vm.findClass "java/util/Objects" = some m.cls := findClass_of_methodNamed Bd.named
  have hnm := (name_of_methodNamed Bd.named Bd.method).1
  have X0 : Stand p l e ({ frames := 1, cells := 0, slots := 0, locals := 14 } : Room) s m #[(.int (1 : Int32)), (.int (2 : Int32))] below meth c s₁ [] 0 0 := Stand.of_body Bd
  have e0 : s₁.heap = h0 := by rw [← hh, Bd.state]; rfl
  have N0 := Fr.nil n0
  refine Go.start (P := (fun o U' => ∃ v L, o = .returned v ∧ Q_rm20_3 Z  h0 n0 v U'.heap L ∧ FrameEnd s o U' L ({ frames := 1, cells := 0, slots := 0, locals := 14 } : Room).cells ({ frames := 1, cells := 0, slots := 0, locals := 14 } : Room).slots)) (castTop (g' := (mkF m 0 #[.val (.int (1 : Int32)), .val (.int (2 : Int32))] [])) (by first | rfl | simp [entryFrame, mkF, argsToLocals, Value.category]) (T := s₁)) ?_
  refine Go.st (fun t k => XS.iloadN X0.here hx rfl (hb hby d20_0) rfl k) ?_
  show Go p e below _ (s₁.setTop (mkF m 1 #[.val (.int (1 : Int32)), .val (.int (2 : Int32))] [(.int (1 : Int32))]))
  refine Go.st (fun t k => XS.iloadN X0.here hx rfl (hb hby d20_1) rfl k) ?_
  show Go p e below _ (s₁.setTop (mkF m 2 #[.val (.int (1 : Int32)), .val (.int (2 : Int32))] [(.int (2 : Int32)), (.int (1 : Int32))]))
  refine Go.st (fun t k => XS.aconstNull X0.here hx rfl (hb hby d20_2) k) ?_
  show Go p e below _ (s₁.setTop (mkF m 3 #[.val (.int (1 : Int32)), .val (.int (2 : Int32))] [.null, (.int (2 : Int32)), (.int (1 : Int32))]))
  obtain ⟨_, _, ⟨T1, L1, k1, n1⟩, -, X1, ⟨Lc1, hQ1, l1, y1, z1⟩, st1⟩ := Jvm.LawKit.callS X0 hx (y := (⟨"jdk/internal/util/Preconditions", "checkIndex", "(IILjava/util/function/BiFunction;)I"⟩ : MethodName)) hown (mvT hZ (w150 hw)) (mvT hZ (w151 hw)) (mvT hZ (w152 hw)) (mvT hZ (w153 hw)) (by decide) (backOf (W := 0) (rm21_3 l Z a0 hw []  h0 n0 O0 ) hZ (w153 hw) (w152 hw) (by decide) (by decide)) (g := (mkF m 3 #[.val (.int (1 : Int32)), .val (.int (2 : Int32))] [.null, (.int (2 : Int32)), (.int (1 : Int32))])) rfl (by rw [hml]; rfl) (argsL := [(.int (1 : Int32)), (.int (2 : Int32)), .null]) (rest := []) (lenOf pd_20 rfl) rfl (by show 2 * 0 + _ ≤ _; exact Nat.le_of_eq rfl) (hb hby d20_3) (fun vm₁ hw₁ => ⟨rfl, e0, (by decide : 0 + 0 ≤ _), (by decide : 0 + 0 ≤ _)⟩)
  dsimp only [Pt.U, Pt.locs, Pt.cells, Pt.slots] at X1 l1 y1 z1 st1 hQ1
  subst l1 y1 z1
  obtain ⟨rfl, M1, eh1⟩ := hQ1
  have N1 := Fr.app N0 M1
  refine Go.st st1 ?_
  show Go p e below _ (T1.setTop (mkF m 6 #[.val (.int (1 : Int32)), .val (.int (2 : Int32))] [(.int (1 : Int32))]))
  obtain ⟨fs, hr, hrun, hended, hWd, hsame⟩ := X1.leave (v := some (.int (1 : Int32))) (fun h => by rw [Bd.returns] at h; cases h)
  refine ⟨_, _, ?_, hrun, hended, _, _, rfl, ?_, ⟨⟨_, rfl⟩, hWd, hsame.mono (by decide) (by decide)⟩⟩
  · exact retI X1 hx Bd.returns (hb hby d20_6) hr
  · show Q_rm20_3 Z  h0 n0 _ T1.heap _
    rw [eh1]
    exact ⟨rfl, N1, rfl⟩
def Q_rm22_3 (Z : State) (a1 : Addr) (a2 : Addr) (kz3 : ClassId) (a4 : Addr) (a5 : Addr) (h0 : Heap) (n0 : Nat) (v : Option Value) (h : Heap) (L : List Loc) : Prop := v = some (.ref a5) ∧ Fr n0 L ∧ h = h0
set_option maxRecDepth 65536 in
set_option maxHeartbeats 40000000 in
theorem rm22_3 (l : Launch) (Z : State) (a0 : Array Value) (hw : ∀ d ∈ tables_1, d.before a0 Z = true) (ws : List Jvm.Cond) (a1 : Addr) (a2 : Addr) (kz3 : ClassId) (a4 : Addr) (a5 : Addr) (h0 : Heap) (n0 : Nat) (O0 : Old Z n0 h0) (P1 : Fld Z h0 a1 "java/util/ArrayList" "elementData" "[Ljava/lang/Object;" (.ref a2)) (P2 : Arv Z h0 a2 kz3 (.object "java/lang/Object") (10 : Int32) [(.ref a4), (.ref a5), .null, .null, .null, .null, .null, .null, .null, .null] .null) :
    MetFree l (⟨"java/util/ArrayList", "elementData", "(I)Ljava/lang/Object;"⟩ : MethodName) (head1 (Jvm.Cond.code (⟨"java/util/ArrayList", "elementData", "(I)Ljava/lang/Object;"⟩ : MethodName) jdk_38_method_18_code 2 (some (.object "java/lang/Object")) :: ws) ({ frames := 0, cells := 0, slots := 0, locals := 0 } : Room)) (fun a U => a = #[(.ref a1), (.int (1 : Int32))] ∧ Z.Warmed39 U.vm ∧ U.heap = h0) (fun _ _ _ _ _ => True) (fun _ U o U' => ∃ v L, o = .returned v ∧ Q_rm22_3 Z a1 a2 kz3 a4 a5 h0 n0 v U'.heap L ∧ FrameEnd U o U' L ({ frames := 0, cells := 0, slots := 0, locals := 0 } : Room).cells ({ frames := 0, cells := 0, slots := 0, locals := 0 } : Room).slots) := by
  refine MetFree.of_bodySF (plainFor_of_name pn_9) hisR ?_
  intro p e s m args below meth c s₁ Bd hml0 hP hK
  obtain ⟨rfl, hZ, hh⟩ := hP
  have hx := Bd.exec
  have hby := Bd.bytes
  have hml : c.maxLocals = 2 := hml0
  have hown : s.vm.findClass "java/util/ArrayList" = some m.cls := findClass_of_methodNamed Bd.named
  have hnm := (name_of_methodNamed Bd.named Bd.method).1
  have X0 : Stand p l e ({ frames := 0, cells := 0, slots := 0, locals := 0 } : Room) s m #[(.ref a1), (.int (1 : Int32))] below meth c s₁ [] 0 0 := Stand.of_body Bd
  have e0 : s₁.heap = h0 := by rw [← hh, Bd.state]; rfl
  have N0 := Fr.nil n0
  refine Go.start (P := (fun o U' => ∃ v L, o = .returned v ∧ Q_rm22_3 Z a1 a2 kz3 a4 a5 h0 n0 v U'.heap L ∧ FrameEnd s o U' L ({ frames := 0, cells := 0, slots := 0, locals := 0 } : Room).cells ({ frames := 0, cells := 0, slots := 0, locals := 0 } : Room).slots)) (castTop (g' := (mkF m 0 #[.val (.ref a1), .val (.int (1 : Int32))] [])) (by first | rfl | simp [entryFrame, mkF, argsToLocals, Value.category]) (T := s₁)) ?_
  refine Go.st (fun t k => XS.aloadN X0.here hx rfl (hb hby d22_0) rfl rfl k) ?_
  show Go p e below _ (s₁.setTop (mkF m 1 #[.val (.ref a1), .val (.int (1 : Int32))] [(.ref a1)]))
  obtain ⟨T1, X1, e1, st1⟩ := getF X0 hx hZ hown (host := "") (Or.inl (w96 hw)) Via.refl e0 P1 (g := (mkF m 1 #[.val (.ref a1), .val (.int (1 : Int32))] [(.ref a1)])) rfl rfl (hb hby d22_1)
  refine Go.st st1 ?_
  show Go p e below _ (T1.setTop (mkF m 4 #[.val (.ref a1), .val (.int (1 : Int32))] [(.ref a2)]))
  refine Go.st (fun t k => XS.iloadN X1.here hx rfl (hb hby d22_4) rfl k) ?_
  show Go p e below _ (T1.setTop (mkF m 5 #[.val (.ref a1), .val (.int (1 : Int32))] [(.int (1 : Int32)), (.ref a2)]))
  obtain ⟨cl2, Ar2, q2, S2, M2, H2, G2⟩ := id P2
  have hin2 : ¬ ((1 : Int32) < 0 ∨ cl2.slots.size ≤ ((1 : Int32)).toNatClampNeg) := inb_of S2 ⟨by decide, by decide⟩
  have hat2 : cl2.slots[((1 : Int32)).toNatClampNeg]? = some (.ref a5) := H2.at hin2 rfl
  refine Go.st (fun t k => X1.aaload hx (j := (1 : Int32)) (v := (.ref a5)) (by rw [e1]; exact Ar2.1) (State.isArrayOf_alike hZ.alike Ar2.2.1) rfl Ar2.2.2 hin2 hat2 (g := (mkF m 5 #[.val (.ref a1), .val (.int (1 : Int32))] [(.int (1 : Int32)), (.ref a2)])) rfl rfl (hb hby d22_5) t k) ?_
  show Go p e below _ (T1.setTop (mkF m 6 #[.val (.ref a1), .val (.int (1 : Int32))] [(.ref a5)]))
  obtain ⟨fs, hr, hrun, hended, hWd, hsame⟩ := X1.leave (v := some (.ref a5)) (fun h => by rw [Bd.returns] at h; cases h)
  refine ⟨_, _, ?_, hrun, hended, _, _, rfl, ?_, ⟨⟨_, rfl⟩, hWd, hsame.mono (by decide) (by decide)⟩⟩
  · exact own_retA X1 hx Bd.returns rfl rfl (hb hby d22_6) hr
  · show Q_rm22_3 Z a1 a2 kz3 a4 a5 h0 n0 _ T1.heap _
    rw [e1]
    exact ⟨rfl, N0, rfl⟩
def Q_rm19_3 (Z : State) (a1 : Addr) (a2 : Addr) (kz3 : ClassId) (a4 : Addr) (a5 : Addr) (h0 : Heap) (n0 : Nat) (v : Option Value) (h : Heap) (L : List Loc) : Prop := v = some (.ref a5) ∧ Fr n0 L ∧ h = h0
set_option maxRecDepth 65536 in
set_option maxHeartbeats 40000000 in
theorem rm19_3 (l : Launch) (Z : State) (a0 : Array Value) (hw : ∀ d ∈ tables_1, d.before a0 Z = true) (ws : List Jvm.Cond) (a1 : Addr) (a2 : Addr) (kz3 : ClassId) (a4 : Addr) (a5 : Addr) (h0 : Heap) (n0 : Nat) (O0 : Old Z n0 h0) (P1 : Fld Z h0 a1 "java/util/ArrayList" "size" "I" (.int (2 : Int32))) (P2 : Exa Z h0 a1 "java/util/ArrayList") (P3 : Fld Z h0 a1 "java/util/ArrayList" "elementData" "[Ljava/lang/Object;" (.ref a2)) (P4 : Arv Z h0 a2 kz3 (.object "java/lang/Object") (10 : Int32) [(.ref a4), (.ref a5), .null, .null, .null, .null, .null, .null, .null, .null] .null) :
    MetFree l (⟨"java/util/ArrayList", "get", "(I)Ljava/lang/Object;"⟩ : MethodName) (head1 (Jvm.Cond.code (⟨"java/util/ArrayList", "get", "(I)Ljava/lang/Object;"⟩ : MethodName) jdk_38_method_20_code 2 (some (.object "java/lang/Object")) :: ws) ({ frames := 2, cells := 0, slots := 0, locals := 27 } : Room)) (fun a U => a = #[(.ref a1), (.int (1 : Int32))] ∧ Z.Warmed39 U.vm ∧ U.heap = h0) (fun _ _ _ _ _ => True) (fun _ U o U' => ∃ v L, o = .returned v ∧ Q_rm19_3 Z a1 a2 kz3 a4 a5 h0 n0 v U'.heap L ∧ FrameEnd U o U' L ({ frames := 2, cells := 0, slots := 0, locals := 27 } : Room).cells ({ frames := 2, cells := 0, slots := 0, locals := 27 } : Room).slots) := by
  refine MetFree.of_bodySF (plainFor_of_name pn_9) hisR ?_
  intro p e s m args below meth c s₁ Bd hml0 hP hK
  obtain ⟨rfl, hZ, hh⟩ := hP
  have hx := Bd.exec
  have hby := Bd.bytes
  have hml : c.maxLocals = 2 := hml0
  have hown : s.vm.findClass "java/util/ArrayList" = some m.cls := findClass_of_methodNamed Bd.named
  have hnm := (name_of_methodNamed Bd.named Bd.method).1
  have X0 : Stand p l e ({ frames := 2, cells := 0, slots := 0, locals := 27 } : Room) s m #[(.ref a1), (.int (1 : Int32))] below meth c s₁ [] 0 0 := Stand.of_body Bd
  have e0 : s₁.heap = h0 := by rw [← hh, Bd.state]; rfl
  have N0 := Fr.nil n0
  refine Go.start (P := (fun o U' => ∃ v L, o = .returned v ∧ Q_rm19_3 Z a1 a2 kz3 a4 a5 h0 n0 v U'.heap L ∧ FrameEnd s o U' L ({ frames := 2, cells := 0, slots := 0, locals := 27 } : Room).cells ({ frames := 2, cells := 0, slots := 0, locals := 27 } : Room).slots)) (castTop (g' := (mkF m 0 #[.val (.ref a1), .val (.int (1 : Int32))] [])) (by first | rfl | simp [entryFrame, mkF, argsToLocals, Value.category]) (T := s₁)) ?_
  refine Go.st (fun t k => XS.iloadN X0.here hx rfl (hb hby d19_0) rfl k) ?_
  show Go p e below _ (s₁.setTop (mkF m 1 #[.val (.ref a1), .val (.int (1 : Int32))] [(.int (1 : Int32))]))
  refine Go.st (fun t k => XS.aloadN X0.here hx rfl (hb hby d19_1) rfl rfl k) ?_
  show Go p e below _ (s₁.setTop (mkF m 2 #[.val (.ref a1), .val (.int (1 : Int32))] [(.ref a1), (.int (1 : Int32))]))
  obtain ⟨T1, X1, e1, st1⟩ := getF X0 hx hZ hown (host := "") (Or.inl (w109 hw)) Via.refl e0 P1 (g := (mkF m 2 #[.val (.ref a1), .val (.int (1 : Int32))] [(.ref a1), (.int (1 : Int32))])) rfl rfl (hb hby d19_2)
  refine Go.st st1 ?_
  show Go p e below _ (T1.setTop (mkF m 5 #[.val (.ref a1), .val (.int (1 : Int32))] [(.int (2 : Int32)), (.int (1 : Int32))]))
  obtain ⟨_, _, ⟨T2, L2, k2, n2⟩, -, X2, ⟨Lc2, hQ2, l2, y2, z2⟩, st2⟩ := Jvm.LawKit.callS X1 hx (y := (⟨"java/util/Objects", "checkIndex", "(II)I"⟩ : MethodName)) hown (mvT hZ (w146 hw)) (mvT hZ (w147 hw)) (mvT hZ (w148 hw)) (mvT hZ (w149 hw)) (by decide) (backOf (W := 0) (rm20_3 l Z a0 hw []  h0 n0 O0 ) hZ (w149 hw) (w148 hw) (by decide) (by decide)) (g := (mkF m 5 #[.val (.ref a1), .val (.int (1 : Int32))] [(.int (2 : Int32)), (.int (1 : Int32))])) rfl (by rw [hml]; rfl) (argsL := [(.int (1 : Int32)), (.int (2 : Int32))]) (rest := []) (lenOf pd_14 rfl) rfl (by show 2 * 0 + _ ≤ _; exact Nat.le_of_eq rfl) (hb hby d19_5) (fun vm₁ hw₁ => ⟨rfl, e1, (by decide : 0 + 0 ≤ _), (by decide : 0 + 0 ≤ _)⟩)
  dsimp only [Pt.U, Pt.locs, Pt.cells, Pt.slots] at X2 l2 y2 z2 st2 hQ2
  subst l2 y2 z2
  obtain ⟨rfl, M2, eh2⟩ := hQ2
  have N2 := Fr.app N0 M2
  refine Go.st st2 ?_
  show Go p e below _ (T2.setTop (mkF m 8 #[.val (.ref a1), .val (.int (1 : Int32))] [(.int (1 : Int32))]))
  refine Go.st (fun t k => XS.pop X2.here hx rfl (hb hby d19_8) rfl rfl k) ?_
  show Go p e below _ (T2.setTop (mkF m 9 #[.val (.ref a1), .val (.int (1 : Int32))] []))
  refine Go.st (fun t k => XS.aloadN X2.here hx rfl (hb hby d19_9) rfl rfl k) ?_
  show Go p e below _ (T2.setTop (mkF m 10 #[.val (.ref a1), .val (.int (1 : Int32))] [(.ref a1)]))
  refine Go.st (fun t k => XS.iloadN X2.here hx rfl (hb hby d19_10) rfl k) ?_
  show Go p e below _ (T2.setTop (mkF m 11 #[.val (.ref a1), .val (.int (1 : Int32))] [(.int (1 : Int32)), (.ref a1)]))
  obtain ⟨cq3, kq3, q3a, q3b, q3c⟩ := isOf hZ eh2 P2
  obtain ⟨_, _, ⟨T3, L3, k3, n3⟩, -, X3, ⟨Lc3, hQ3, l3, y3, z3⟩, st3⟩ := X2.virtualBack hx (y := (⟨"java/util/ArrayList", "elementData", "(I)Ljava/lang/Object;"⟩ : MethodName)) (z := (⟨"java/util/ArrayList", "elementData", "(I)Ljava/lang/Object;"⟩ : MethodName)) hown (mvT hZ (w154 hw)) (mvT hZ (w155 hw)) (notFace_of_selects (args := #[]) (mvT hZ (w157 hw))) (mvT hZ (w157 hw)) (mvT hZ (w156 hw)) (by decide) (backOf (W := 0) (rm22_3 l Z a0 hw [] a1 a2 kz3 a4 a5 h0 n0 O0 P3 P4) hZ (w158 hw) (w76 hw) (by decide) (by decide)) q3a q3c (g := (mkF m 11 #[.val (.ref a1), .val (.int (1 : Int32))] [(.int (1 : Int32)), (.ref a1)])) rfl (by rw [hml]; rfl) (Steps.refl _) (argsL := [(.int (1 : Int32))]) (rest := []) (lenOf pd_21 rfl) rfl (by show 2 * 0 + _ ≤ _; exact Nat.le_of_eq rfl) (hb hby d19_11) (fun vm₁ hw₁ => ⟨rfl, eh2, (by decide : 0 + 0 ≤ _), (by decide : 0 + 0 ≤ _)⟩)
  dsimp only [Pt.U, Pt.locs, Pt.cells, Pt.slots] at X3 l3 y3 z3 st3 hQ3
  subst l3 y3 z3
  obtain ⟨rfl, M3, eh3⟩ := hQ3
  have N3 := Fr.app N2 M3
  refine Go.tr st3 ?_
  show Go p e below _ (T3.setTop (mkF m 14 #[.val (.ref a1), .val (.int (1 : Int32))] [(.ref a5)]))
  obtain ⟨fs, hr, hrun, hended, hWd, hsame⟩ := X3.leave (v := some (.ref a5)) (fun h => by rw [Bd.returns] at h; cases h)
  refine ⟨_, _, ?_, hrun, hended, _, _, rfl, ?_, ⟨⟨_, rfl⟩, hWd, hsame.mono (by decide) (by decide)⟩⟩
  · exact own_retA X3 hx Bd.returns rfl rfl (hb hby d19_14) hr
  · show Q_rm19_3 Z a1 a2 kz3 a4 a5 h0 n0 _ T3.heap _
    rw [eh3]
    exact ⟨rfl, N3, rfl⟩
def Q_rm14_3 (Z : State) (a1 : Addr) (a2 : Addr) (a3 : Addr) (kz4 : ClassId) (a5 : Addr) (a6 : Addr) (h0 : Heap) (n0 : Nat) (v : Option Value) (h : Heap) (L : List Loc) : Prop := v = none ∧ Fr n0 L ∧ Keep h0 h [a3, a1] ∧ Arv Z h a3 kz4 (.object "java/lang/Object") (10 : Int32) [(.ref a5), (.ref a6), (.ref a2), .null, .null, .null, .null, .null, .null, .null] .null ∧ Fld Z h a1 "java/util/ArrayList" "size" "I" (.int (3 : Int32)) ∧ Fld Z h a1 "java/util/AbstractList" "modCount" "I" (.int (3 : Int32)) ∧ Fld Z h a1 "java/util/ArrayList" "elementData" "[Ljava/lang/Object;" (.ref a3)
set_option maxRecDepth 65536 in
set_option maxHeartbeats 40000000 in
theorem rm14_3 (l : Launch) (Z : State) (a0 : Array Value) (hw : ∀ d ∈ tables_1, d.before a0 Z = true) (ws : List Jvm.Cond) (a1 : Addr) (a2 : Addr) (a3 : Addr) (kz4 : ClassId) (a5 : Addr) (a6 : Addr) (h0 : Heap) (n0 : Nat) (O0 : Old Z n0 h0) (P1 : Arv Z h0 a3 kz4 (.object "java/lang/Object") (10 : Int32) [(.ref a5), (.ref a6), .null, .null, .null, .null, .null, .null, .null, .null] .null) (P2 : n0 ≤ a3) (P3 : Exa Z h0 a2 "java/lang/String") (P4 : Ovr Z kz4 "java/lang/Object") (P5 : Exa Z h0 a1 "java/util/ArrayList") (P6 : Fld Z h0 a1 "java/util/ArrayList" "size" "I" (.int (2 : Int32))) (P7 : a1 ≠ a3) (P8 : n0 ≤ a1) (P9 : Fld Z h0 a1 "java/util/AbstractList" "modCount" "I" (.int (3 : Int32))) (P10 : Fld Z h0 a1 "java/util/ArrayList" "elementData" "[Ljava/lang/Object;" (.ref a3)) :
    MetFree l (⟨"java/util/ArrayList", "add", "(Ljava/lang/Object;[Ljava/lang/Object;I)V"⟩ : MethodName) (head1 (Jvm.Cond.code (⟨"java/util/ArrayList", "add", "(Ljava/lang/Object;[Ljava/lang/Object;I)V"⟩ : MethodName) jdk_38_method_24_code 4 none :: ws) ({ frames := 0, cells := 0, slots := 0, locals := 0 } : Room)) (fun a U => a = #[(.ref a1), (.ref a2), (.ref a3), (.int (2 : Int32))] ∧ Z.Warmed39 U.vm ∧ U.heap = h0) (fun _ _ _ _ _ => True) (fun _ U o U' => ∃ v L, o = .returned v ∧ Q_rm14_3 Z a1 a2 a3 kz4 a5 a6 h0 n0 v U'.heap L ∧ FrameEnd U o U' L ({ frames := 0, cells := 0, slots := 0, locals := 0 } : Room).cells ({ frames := 0, cells := 0, slots := 0, locals := 0 } : Room).slots) := by
  refine MetFree.of_bodySF (plainFor_of_name pn_9) hisR ?_
  intro p e s m args below meth c s₁ Bd hml0 hP hK
  obtain ⟨rfl, hZ, hh⟩ := hP
  have hx := Bd.exec
  have hby := Bd.bytes
  have hml : c.maxLocals = 4 := hml0
  have hown : s.vm.findClass "java/util/ArrayList" = some m.cls := findClass_of_methodNamed Bd.named
  have hnm := (name_of_methodNamed Bd.named Bd.method).1
  have X0 : Stand p l e ({ frames := 0, cells := 0, slots := 0, locals := 0 } : Room) s m #[(.ref a1), (.ref a2), (.ref a3), (.int (2 : Int32))] below meth c s₁ [] 0 0 := Stand.of_body Bd
  have e0 : s₁.heap = h0 := by rw [← hh, Bd.state]; rfl
  have N0 := Fr.nil n0
  refine Go.start (P := (fun o U' => ∃ v L, o = .returned v ∧ Q_rm14_3 Z a1 a2 a3 kz4 a5 a6 h0 n0 v U'.heap L ∧ FrameEnd s o U' L ({ frames := 0, cells := 0, slots := 0, locals := 0 } : Room).cells ({ frames := 0, cells := 0, slots := 0, locals := 0 } : Room).slots)) (castTop (g' := (mkF m 0 #[.val (.ref a1), .val (.ref a2), .val (.ref a3), .val (.int (2 : Int32))] [])) (by first | rfl | simp [entryFrame, mkF, argsToLocals, Value.category]) (T := s₁)) ?_
  refine Go.st (fun t k => XS.iloadN X0.here hx rfl (hb hby d14_0) rfl k) ?_
  show Go p e below _ (s₁.setTop (mkF m 1 #[.val (.ref a1), .val (.ref a2), .val (.ref a3), .val (.int (2 : Int32))] [(.int (2 : Int32))]))
  refine Go.st (fun t k => XS.aloadN X0.here hx rfl (hb hby d14_1) rfl rfl k) ?_
  show Go p e below _ (s₁.setTop (mkF m 2 #[.val (.ref a1), .val (.ref a2), .val (.ref a3), .val (.int (2 : Int32))] [(.ref a3), (.int (2 : Int32))]))
  obtain ⟨cl1, Ar1, -, S1, M1, -, -⟩ := id P1
  refine Go.st (fun t k => X0.arraylength hx (by rw [e0]; exact Ar1.1) (State.isArrayOf_alike hZ.alike Ar1.2.1) (g := (mkF m 2 #[.val (.ref a1), .val (.ref a2), .val (.ref a3), .val (.int (2 : Int32))] [(.ref a3), (.int (2 : Int32))])) rfl rfl (hb hby d14_2) t k) ?_
  rw [len_of S1 M1]
  show Go p e below _ (s₁.setTop (mkF m 3 #[.val (.ref a1), .val (.ref a2), .val (.ref a3), .val (.int (2 : Int32))] [(.int (10 : Int32)), (.int (2 : Int32))]))
  refine Go.st (fun t k => XS.icmpYes X0.here hx rfl (pc0 := 3) (pc' := 11) rfl (hb hby d14_3) rfl (Jvm.Free.XT.ii_ne_t (by decide : ¬ ((2 : Int32) = (10 : Int32)))) (by decide) (by decide) k) ?_
  show Go p e below _ (s₁.setTop (mkF m 11 #[.val (.ref a1), .val (.ref a2), .val (.ref a3), .val (.int (2 : Int32))] []))
  refine Go.st (fun t k => XS.aloadN X0.here hx rfl (hb hby d14_11) rfl rfl k) ?_
  show Go p e below _ (s₁.setTop (mkF m 12 #[.val (.ref a1), .val (.ref a2), .val (.ref a3), .val (.int (2 : Int32))] [(.ref a3)]))
  refine Go.st (fun t k => XS.iloadN X0.here hx rfl (hb hby d14_12) rfl k) ?_
  show Go p e below _ (s₁.setTop (mkF m 13 #[.val (.ref a1), .val (.ref a2), .val (.ref a3), .val (.int (2 : Int32))] [(.int (2 : Int32)), (.ref a3)]))
  refine Go.st (fun t k => XS.aloadN X0.here hx rfl (hb hby d14_13) rfl rfl k) ?_
  show Go p e below _ (s₁.setTop (mkF m 14 #[.val (.ref a1), .val (.ref a2), .val (.ref a3), .val (.int (2 : Int32))] [(.ref a2), (.int (2 : Int32)), (.ref a3)]))
  obtain ⟨cl2, Ar2, q2, S2, M2, H2, G2⟩ := id P1
  have hin2 : ¬ ((2 : Int32) < 0 ∨ cl2.slots.size ≤ ((2 : Int32)).toNatClampNeg) := inb_of S2 ⟨by decide, by decide⟩
  obtain ⟨T2, h2, X2, e2, W2, st2⟩ := stR X0 hx hZ e0 Ar2 (j := (2 : Int32)) hin2 rfl (Sto.ofV Ar2 q2 P4 (Ins.of_exa P3 (w132 hw))) (g := (mkF m 14 #[.val (.ref a1), .val (.ref a2), .val (.ref a3), .val (.int (2 : Int32))] [(.ref a2), (.int (2 : Int32)), (.ref a3)])) rfl rfl (hb hby d14_14)
  have V2 : Arv Z h2 a3 kz4 (.object "java/lang/Object") (10 : Int32) [(.ref a5), (.ref a6), (.ref a2), .null, .null, .null, .null, .null, .null, .null] .null := Arv.set Ar2 q2 S2 M2 H2 G2 rfl W2 2 rfl (Nat.le_of_ble_eq_true rfl)
  have N2 := Fr.snoc X2 N0 P2
  have O2 : Old Z n0 h2 := O0.wr W2 P2
  have K2 : Keep h0 h2 [a3, a1] := (Keep.refl h0 [a3, a1]).wr W2 (Or.inl (List.mem_of_getElem? (i := 0) rfl))
  refine Go.st st2 ?_
  show Go p e below _ (T2.setTop (mkF m 15 #[.val (.ref a1), .val (.ref a2), .val (.ref a3), .val (.int (2 : Int32))] []))
  refine Go.st (fun t k => XS.aloadN X2.here hx rfl (hb hby d14_15) rfl rfl k) ?_
  show Go p e below _ (T2.setTop (mkF m 16 #[.val (.ref a1), .val (.ref a2), .val (.ref a3), .val (.int (2 : Int32))] [(.ref a1)]))
  refine Go.st (fun t k => XS.iloadN X2.here hx rfl (hb hby d14_16) rfl k) ?_
  show Go p e below _ (T2.setTop (mkF m 17 #[.val (.ref a1), .val (.ref a2), .val (.ref a3), .val (.int (2 : Int32))] [(.int (2 : Int32)), (.ref a1)]))
  refine Go.st (fun t k => XS.iconst X2.here hx rfl (hb hby d14_17) k) ?_
  show Go p e below _ (T2.setTop (mkF m 18 #[.val (.ref a1), .val (.ref a2), .val (.ref a3), .val (.int (2 : Int32))] [(.int (1 : Int32)), (.int (2 : Int32)), (.ref a1)]))
  refine Go.st (fun t k => XS.iadd X2.here hx rfl (hb hby d14_18) rfl k) ?_
  show Go p e below _ (T2.setTop (mkF m 19 #[.val (.ref a1), .val (.ref a2), .val (.ref a3), .val (.int (2 : Int32))] [(.int (3 : Int32)), (.ref a1)]))
  obtain ⟨T3, h3, X3, e3, W3, st3⟩ := putF X2 hx hZ hown (host := "") (Or.inl (w109 hw)) Via.refl e2 (P6.other W2 (Or.inl P7)) (P5.wr W2) (Or.inl (w110 hw)) (w75 hw) (ty := .int) (by decide) rfl rfl (g := (mkF m 19 #[.val (.ref a1), .val (.ref a2), .val (.ref a3), .val (.int (2 : Int32))] [(.int (3 : Int32)), (.ref a1)])) rfl rfl (hb hby d14_19)
  have F3 : Fld Z h3 a1 "java/util/ArrayList" "size" "I" (.int (3 : Int32)) := (P6.other W2 (Or.inl P7)).same W3
  have N3 := Fr.snoc X3 N2 P8
  have O3 : Old Z n0 h3 := O2.wr W3 P8
  have K3 : Keep h0 h3 [a3, a1] := K2.wr W3 (Or.inl (List.mem_of_getElem? (i := 1) rfl))
  refine Go.st st3 ?_
  show Go p e below _ (T3.setTop (mkF m 22 #[.val (.ref a1), .val (.ref a2), .val (.ref a3), .val (.int (2 : Int32))] []))
  obtain ⟨fs, hr, hrun, hended, hWd, hsame⟩ := X3.leave (v := none) (fun _ => rfl)
  have c4 := ((P9.other W2 (Or.inl P7)).other W3 (Or.inr (slot_ne (Or.inl (w94 hw)) (Or.inl (w110 hw)) (by decide) (t := .int) (t' := .int) (by decide) (by decide))))
  have c5 := ((P10.other W2 (Or.inl P7)).other W3 (Or.inr (slot_ne (Or.inl (w97 hw)) (Or.inl (w110 hw)) (by decide) (t := (.array (.object "java/lang/Object"))) (t' := .int) (by decide) (by decide))))
  refine ⟨_, _, ?_, hrun, hended, _, _, rfl, ?_, ⟨⟨_, rfl⟩, hWd, hsame.mono (by decide) (by decide)⟩⟩
  · exact X3.returnOut hx Bd.returns (hb hby d14_22) hr
  · show Q_rm14_3 Z a1 a2 a3 kz4 a5 a6 h0 n0 _ T3.heap _
    rw [e3]
    exact ⟨rfl, N3, K3, (V2.other W3 (Ne.symm P7)), F3, c4, c5⟩
def Q_rm13_3 (Z : State) (a1 : Addr) (a2 : Addr) (a3 : Addr) (kz4 : ClassId) (a5 : Addr) (a6 : Addr) (h0 : Heap) (n0 : Nat) (v : Option Value) (h : Heap) (L : List Loc) : Prop := v = some (.int (1 : Int32)) ∧ Fr n0 L ∧ Keep h0 h [a1, a3] ∧ Fld Z h a1 "java/util/AbstractList" "modCount" "I" (.int (3 : Int32)) ∧ Fld Z h a1 "java/util/ArrayList" "elementData" "[Ljava/lang/Object;" (.ref a3) ∧ Fld Z h a1 "java/util/ArrayList" "size" "I" (.int (3 : Int32)) ∧ Arv Z h a3 kz4 (.object "java/lang/Object") (10 : Int32) [(.ref a5), (.ref a6), (.ref a2), .null, .null, .null, .null, .null, .null, .null] .null
set_option maxRecDepth 65536 in
set_option maxHeartbeats 40000000 in
theorem rm13_3 (l : Launch) (Z : State) (a0 : Array Value) (hw : ∀ d ∈ tables_1, d.before a0 Z = true) (ws : List Jvm.Cond) (a1 : Addr) (a2 : Addr) (a3 : Addr) (kz4 : ClassId) (a5 : Addr) (a6 : Addr) (h0 : Heap) (n0 : Nat) (O0 : Old Z n0 h0) (P1 : Fld Z h0 a1 "java/util/AbstractList" "modCount" "I" (.int (2 : Int32))) (P2 : Exa Z h0 a1 "java/util/ArrayList") (P3 : n0 ≤ a1) (P4 : Fld Z h0 a1 "java/util/ArrayList" "elementData" "[Ljava/lang/Object;" (.ref a3)) (P5 : Fld Z h0 a1 "java/util/ArrayList" "size" "I" (.int (2 : Int32))) (P6 : Arv Z h0 a3 kz4 (.object "java/lang/Object") (10 : Int32) [(.ref a5), (.ref a6), .null, .null, .null, .null, .null, .null, .null, .null] .null) (P7 : n0 ≤ a3) (P8 : Exa Z h0 a2 "java/lang/String") (P9 : Ovr Z kz4 "java/lang/Object") (P10 : a1 ≠ a3) :
    MetFree l (⟨"java/util/ArrayList", "add", "(Ljava/lang/Object;)Z"⟩ : MethodName) (head1 (Jvm.Cond.code (⟨"java/util/ArrayList", "add", "(Ljava/lang/Object;)Z"⟩ : MethodName) jdk_38_method_25_code 2 (some .boolean) :: ws) ({ frames := 1, cells := 0, slots := 0, locals := 15 } : Room)) (fun a U => a = #[(.ref a1), (.ref a2)] ∧ Z.Warmed39 U.vm ∧ U.heap = h0) (fun _ _ _ _ _ => True) (fun _ U o U' => ∃ v L, o = .returned v ∧ Q_rm13_3 Z a1 a2 a3 kz4 a5 a6 h0 n0 v U'.heap L ∧ FrameEnd U o U' L ({ frames := 1, cells := 0, slots := 0, locals := 15 } : Room).cells ({ frames := 1, cells := 0, slots := 0, locals := 15 } : Room).slots) := by
  refine MetFree.of_bodySF (plainFor_of_name pn_9) hisR ?_
  intro p e s m args below meth c s₁ Bd hml0 hP hK
  obtain ⟨rfl, hZ, hh⟩ := hP
  have hx := Bd.exec
  have hby := Bd.bytes
  have hml : c.maxLocals = 2 := hml0
  have hown : s.vm.findClass "java/util/ArrayList" = some m.cls := findClass_of_methodNamed Bd.named
  have hnm := (name_of_methodNamed Bd.named Bd.method).1
  have X0 : Stand p l e ({ frames := 1, cells := 0, slots := 0, locals := 15 } : Room) s m #[(.ref a1), (.ref a2)] below meth c s₁ [] 0 0 := Stand.of_body Bd
  have e0 : s₁.heap = h0 := by rw [← hh, Bd.state]; rfl
  have N0 := Fr.nil n0
  refine Go.start (P := (fun o U' => ∃ v L, o = .returned v ∧ Q_rm13_3 Z a1 a2 a3 kz4 a5 a6 h0 n0 v U'.heap L ∧ FrameEnd s o U' L ({ frames := 1, cells := 0, slots := 0, locals := 15 } : Room).cells ({ frames := 1, cells := 0, slots := 0, locals := 15 } : Room).slots)) (castTop (g' := (mkF m 0 #[.val (.ref a1), .val (.ref a2)] [])) (by first | rfl | simp [entryFrame, mkF, argsToLocals, Value.category]) (T := s₁)) ?_
  refine Go.st (fun t k => XS.aloadN X0.here hx rfl (hb hby d13_0) rfl rfl k) ?_
  show Go p e below _ (s₁.setTop (mkF m 1 #[.val (.ref a1), .val (.ref a2)] [(.ref a1)]))
  refine Go.st (fun t k => XS.dup X0.here hx rfl (hb hby d13_1) rfl rfl k) ?_
  show Go p e below _ (s₁.setTop (mkF m 2 #[.val (.ref a1), .val (.ref a2)] [(.ref a1), (.ref a1)]))
  obtain ⟨T1, X1, e1, st1⟩ := getF X0 hx hZ hown (host := "") (Or.inl (w107 hw)) (Via.of (w108 hw)) e0 P1 (g := (mkF m 2 #[.val (.ref a1), .val (.ref a2)] [(.ref a1), (.ref a1)])) rfl rfl (hb hby d13_2)
  refine Go.st st1 ?_
  show Go p e below _ (T1.setTop (mkF m 5 #[.val (.ref a1), .val (.ref a2)] [(.int (2 : Int32)), (.ref a1)]))
  refine Go.st (fun t k => XS.iconst X1.here hx rfl (hb hby d13_5) k) ?_
  show Go p e below _ (T1.setTop (mkF m 6 #[.val (.ref a1), .val (.ref a2)] [(.int (1 : Int32)), (.int (2 : Int32)), (.ref a1)]))
  refine Go.st (fun t k => XS.iadd X1.here hx rfl (hb hby d13_6) rfl k) ?_
  show Go p e below _ (T1.setTop (mkF m 7 #[.val (.ref a1), .val (.ref a2)] [(.int (3 : Int32)), (.ref a1)]))
  obtain ⟨T2, h2, X2, e2, W2, st2⟩ := putF X1 hx hZ hown (host := "") (Or.inl (w107 hw)) (Via.of (w108 hw)) e1 P1 P2 (Or.inl (w94 hw)) (w75 hw) (ty := .int) (by decide) rfl rfl (g := (mkF m 7 #[.val (.ref a1), .val (.ref a2)] [(.int (3 : Int32)), (.ref a1)])) rfl rfl (hb hby d13_7)
  have F2 : Fld Z h2 a1 "java/util/AbstractList" "modCount" "I" (.int (3 : Int32)) := P1.same W2
  have N2 := Fr.snoc X2 N0 P3
  have O2 : Old Z n0 h2 := O0.wr W2 P3
  have K2 : Keep h0 h2 [a1, a3] := (Keep.refl h0 [a1, a3]).wr W2 (Or.inl (List.mem_of_getElem? (i := 0) rfl))
  refine Go.st st2 ?_
  show Go p e below _ (T2.setTop (mkF m 10 #[.val (.ref a1), .val (.ref a2)] []))
  refine Go.st (fun t k => XS.aloadN X2.here hx rfl (hb hby d13_10) rfl rfl k) ?_
  show Go p e below _ (T2.setTop (mkF m 11 #[.val (.ref a1), .val (.ref a2)] [(.ref a1)]))
  refine Go.st (fun t k => XS.aloadN X2.here hx rfl (hb hby d13_11) rfl rfl k) ?_
  show Go p e below _ (T2.setTop (mkF m 12 #[.val (.ref a1), .val (.ref a2)] [(.ref a2), (.ref a1)]))
  refine Go.st (fun t k => XS.aloadN X2.here hx rfl (hb hby d13_12) rfl rfl k) ?_
  show Go p e below _ (T2.setTop (mkF m 13 #[.val (.ref a1), .val (.ref a2)] [(.ref a1), (.ref a2), (.ref a1)]))
  have c3 := (P4.other W2 (Or.inr (slot_ne (Or.inl (w97 hw)) (Or.inl (w94 hw)) (by decide) (t := (.array (.object "java/lang/Object"))) (t' := .int) (by decide) (by decide))))
  obtain ⟨T4, X4, e4, st4⟩ := getF X2 hx hZ hown (host := "") (Or.inl (w96 hw)) Via.refl e2 c3 (g := (mkF m 13 #[.val (.ref a1), .val (.ref a2)] [(.ref a1), (.ref a2), (.ref a1)])) rfl rfl (hb hby d13_13)
  refine Go.st st4 ?_
  show Go p e below _ (T4.setTop (mkF m 16 #[.val (.ref a1), .val (.ref a2)] [(.ref a3), (.ref a2), (.ref a1)]))
  refine Go.st (fun t k => XS.aloadN X4.here hx rfl (hb hby d13_16) rfl rfl k) ?_
  show Go p e below _ (T4.setTop (mkF m 17 #[.val (.ref a1), .val (.ref a2)] [(.ref a1), (.ref a3), (.ref a2), (.ref a1)]))
  have c5 := (P5.other W2 (Or.inr (slot_ne (Or.inl (w110 hw)) (Or.inl (w94 hw)) (by decide) (t := .int) (t' := .int) (by decide) (by decide))))
  obtain ⟨T6, X6, e6, st6⟩ := getF X4 hx hZ hown (host := "") (Or.inl (w109 hw)) Via.refl e4 c5 (g := (mkF m 17 #[.val (.ref a1), .val (.ref a2)] [(.ref a1), (.ref a3), (.ref a2), (.ref a1)])) rfl rfl (hb hby d13_17)
  refine Go.st st6 ?_
  show Go p e below _ (T6.setTop (mkF m 20 #[.val (.ref a1), .val (.ref a2)] [(.int (2 : Int32)), (.ref a3), (.ref a2), (.ref a1)]))
  obtain ⟨cq7, u7, u7'⟩ := (P2.wr W2).cell
  obtain ⟨_, _, ⟨T7, L7, k7, n7⟩, -, X7, ⟨Lc7, hQ7, l7, y7, z7⟩, st7⟩ := X6.privateBack hx (y := (⟨"java/util/ArrayList", "add", "(Ljava/lang/Object;[Ljava/lang/Object;I)V"⟩ : MethodName)) hown (mvT hZ (w111 hw)) (mvT hZ (w112 hw)) (mvT hZ (w114 hw)) (Cond.privateMethod_at (mvP hZ (w113 hw) (args := #[]))) (mvT hZ (w115 hw)) (by decide) (backOf (W := 0) (rm14_3 l Z a0 hw [] a1 a2 a3 kz4 a5 a6 h2 n0 O2 (P6.other W2 (Ne.symm P10)) P7 (P8.wr W2) P9 (P2.wr W2) c5 P10 P3 F2 c3) hZ (w115 hw) (w76 hw) (by decide) (by decide)) (g := (mkF m 20 #[.val (.ref a1), .val (.ref a2)] [(.int (2 : Int32)), (.ref a3), (.ref a2), (.ref a1)])) rfl (by rw [hml]; rfl) (Steps.refl _) (a := a1) (by rw [e6]; exact u7) u7' (argsL := [(.ref a2), (.ref a3), (.int (2 : Int32))]) (rest := []) (lenOf pd_17 rfl) rfl (by show 2 * 0 + _ ≤ _; exact Nat.le_of_eq rfl) (hb hby d13_20) (fun vm₁ hw₁ => ⟨rfl, e6, (by decide : 0 + 0 ≤ _), (by decide : 0 + 0 ≤ _)⟩)
  dsimp only [Pt.U, Pt.locs, Pt.cells, Pt.slots] at X7 l7 y7 z7 st7 hQ7
  subst l7 y7 z7
  obtain ⟨rfl, M7, K7c, r7_0, r7_1, r7_2, r7_3⟩ := hQ7
  have N7 := Fr.app N2 M7
  have O7 : Old Z n0 T7.heap := O2.keep K7c (allS P7 (allS P3 all0))
  have K7 : Keep h0 T7.heap [a1, a3] := K2.trans K7c (allS (Or.inl (List.mem_of_getElem? (i := 1) rfl)) (allS (Or.inl (List.mem_of_getElem? (i := 0) rfl)) all0))
  refine Go.tr st7 ?_
  show Go p e below _ (T7.setTop (mkF m 23 #[.val (.ref a1), .val (.ref a2)] []))
  refine Go.st (fun t k => XS.iconst X7.here hx rfl (hb hby d13_23) k) ?_
  show Go p e below _ (T7.setTop (mkF m 24 #[.val (.ref a1), .val (.ref a2)] [(.int (1 : Int32))]))
  obtain ⟨fs, hr, hrun, hended, hWd, hsame⟩ := X7.leave (v := some (.int (1 : Int32))) (fun h => by rw [Bd.returns] at h; cases h)
  refine ⟨_, _, ?_, hrun, hended, _, _, rfl, ?_, ⟨⟨_, rfl⟩, hWd, hsame.mono (by decide) (by decide)⟩⟩
  · exact retN X7 hx (t := .boolean) Bd.returns (by simp) (hb hby d13_24) hr
  · show Q_rm13_3 Z a1 a2 a3 kz4 a5 a6 h0 n0 _ T7.heap _
    exact ⟨rfl, N7, K7, r7_2, r7_3, r7_1, r7_0⟩
def Q_rm9_3 (Z : State) (a1 : Addr) (a2 : Addr) (a3 : Addr) (a4 : Addr) (kz5 : ClassId) (a6 : Addr) (a7 : Addr) (h0 : Heap) (n0 : Nat) (v : Option Value) (h : Heap) (L : List Loc) : Prop := v = none ∧ Fr n0 L ∧ Keep h0 h [a4, a3] ∧ Arv Z h a4 kz5 (.object "java/lang/Object") (10 : Int32) [(.ref a6), (.ref a7), (.ref a2), .null, .null, .null, .null, .null, .null, .null] .null ∧ Fld Z h a3 "java/util/AbstractList" "modCount" "I" (.int (3 : Int32)) ∧ Fld Z h a3 "java/util/ArrayList" "elementData" "[Ljava/lang/Object;" (.ref a4) ∧ Fld Z h a3 "java/util/ArrayList" "size" "I" (.int (3 : Int32))
set_option maxRecDepth 65536 in
set_option maxHeartbeats 40000000 in
theorem rm9_3 (l : Launch) (Z : State) (a0 : Array Value) (hw : ∀ d ∈ tables_1, d.before a0 Z = true) (ws : List Jvm.Cond) (a1 : Addr) (a2 : Addr) (a3 : Addr) (a4 : Addr) (kz5 : ClassId) (a6 : Addr) (a7 : Addr) (h0 : Heap) (n0 : Nat) (O0 : Old Z n0 h0) (P1 : Fld Z h0 a1 "com/example/cropmark/cropmark/Row" "problems" "Ljava/util/List;" (.ref a3)) (P2 : Exa Z h0 a3 "java/util/ArrayList") (P3 : Fld Z h0 a3 "java/util/AbstractList" "modCount" "I" (.int (2 : Int32))) (P4 : n0 ≤ a3) (P5 : Fld Z h0 a3 "java/util/ArrayList" "elementData" "[Ljava/lang/Object;" (.ref a4)) (P6 : Fld Z h0 a3 "java/util/ArrayList" "size" "I" (.int (2 : Int32))) (P7 : Arv Z h0 a4 kz5 (.object "java/lang/Object") (10 : Int32) [(.ref a6), (.ref a7), .null, .null, .null, .null, .null, .null, .null, .null] .null) (P8 : n0 ≤ a4) (P9 : Exa Z h0 a2 "java/lang/String") (P10 : Ovr Z kz5 "java/lang/Object") (P11 : a3 ≠ a4) :
    MetFree l (⟨"com/example/cropmark/cropmark/Row", "problem", "(Ljava/lang/String;)V"⟩ : MethodName) (head1 (Jvm.Cond.code (⟨"com/example/cropmark/cropmark/Row", "problem", "(Ljava/lang/String;)V"⟩ : MethodName) prog_67_method_18_code 2 none :: ws) ({ frames := 2, cells := 0, slots := 0, locals := 28 } : Room)) (fun a U => a = #[(.ref a1), (.ref a2)] ∧ Z.Warmed39 U.vm ∧ U.heap = h0) (fun _ _ _ _ _ => True) (fun _ U o U' => ∃ v L, o = .returned v ∧ Q_rm9_3 Z a1 a2 a3 a4 kz5 a6 a7 h0 n0 v U'.heap L ∧ FrameEnd U o U' L ({ frames := 2, cells := 0, slots := 0, locals := 28 } : Room).cells ({ frames := 2, cells := 0, slots := 0, locals := 28 } : Room).slots) := by
  refine MetFree.of_bodySF (plainFor_of_name pn_4) hisR ?_
  intro p e s m args below meth c s₁ Bd hml0 hP hK
  obtain ⟨rfl, hZ, hh⟩ := hP
  have hx := Bd.exec
  have hby := Bd.bytes
  have hml : c.maxLocals = 2 := hml0
  have hown : s.vm.findClass "com/example/cropmark/cropmark/Row" = some m.cls := findClass_of_methodNamed Bd.named
  have hnm := (name_of_methodNamed Bd.named Bd.method).1
  have X0 : Stand p l e ({ frames := 2, cells := 0, slots := 0, locals := 28 } : Room) s m #[(.ref a1), (.ref a2)] below meth c s₁ [] 0 0 := Stand.of_body Bd
  have e0 : s₁.heap = h0 := by rw [← hh, Bd.state]; rfl
  have N0 := Fr.nil n0
  refine Go.start (P := (fun o U' => ∃ v L, o = .returned v ∧ Q_rm9_3 Z a1 a2 a3 a4 kz5 a6 a7 h0 n0 v U'.heap L ∧ FrameEnd s o U' L ({ frames := 2, cells := 0, slots := 0, locals := 28 } : Room).cells ({ frames := 2, cells := 0, slots := 0, locals := 28 } : Room).slots)) (castTop (g' := (mkF m 0 #[.val (.ref a1), .val (.ref a2)] [])) (by first | rfl | simp [entryFrame, mkF, argsToLocals, Value.category]) (T := s₁)) ?_
  refine Go.st (fun t k => XS.aloadN X0.here hx rfl (hb hby d9_0) rfl rfl k) ?_
  show Go p e below _ (s₁.setTop (mkF m 1 #[.val (.ref a1), .val (.ref a2)] [(.ref a1)]))
  obtain ⟨T1, X1, e1, st1⟩ := getF X0 hx hZ hown (host := "") (Or.inl (w49 hw)) Via.refl e0 P1 (g := (mkF m 1 #[.val (.ref a1), .val (.ref a2)] [(.ref a1)])) rfl rfl (hb hby d9_1)
  refine Go.st st1 ?_
  show Go p e below _ (T1.setTop (mkF m 4 #[.val (.ref a1), .val (.ref a2)] [(.ref a3)]))
  refine Go.st (fun t k => XS.ifnonnullYes X1.here hx rfl (pc0 := 4) (pc' := 18) rfl (hb hby d9_4) rfl (by decide) (by decide) k) ?_
  show Go p e below _ (T1.setTop (mkF m 18 #[.val (.ref a1), .val (.ref a2)] []))
  refine Go.st (fun t k => XS.aloadN X1.here hx rfl (hb hby d9_18) rfl rfl k) ?_
  show Go p e below _ (T1.setTop (mkF m 19 #[.val (.ref a1), .val (.ref a2)] [(.ref a1)]))
  obtain ⟨T2, X2, e2, st2⟩ := getF X1 hx hZ hown (host := "") (Or.inl (w49 hw)) Via.refl e1 P1 (g := (mkF m 19 #[.val (.ref a1), .val (.ref a2)] [(.ref a1)])) rfl rfl (hb hby d9_19)
  refine Go.st st2 ?_
  show Go p e below _ (T2.setTop (mkF m 22 #[.val (.ref a1), .val (.ref a2)] [(.ref a3)]))
  refine Go.st (fun t k => XS.aloadN X2.here hx rfl (hb hby d9_22) rfl rfl k) ?_
  show Go p e below _ (T2.setTop (mkF m 23 #[.val (.ref a1), .val (.ref a2)] [(.ref a2), (.ref a3)]))
  obtain ⟨cq3, kq3, q3a, q3b, q3c⟩ := isOf hZ e2 P2
  obtain ⟨_, _, ⟨T3, L3, k3, n3⟩, -, X3, ⟨Lc3, hQ3, l3, y3, z3⟩, st3⟩ := X2.interfaceBack hx (xi := (⟨"java/util/List", "add", "(Ljava/lang/Object;)Z"⟩ : MethodName)) (y := (⟨"java/util/ArrayList", "add", "(Ljava/lang/Object;)Z"⟩ : MethodName)) hown (mvT hZ (w98 hw)) (mvT hZ (w99 hw)) (mvT hZ (w100 hw)) (mvT hZ (w101 hw)) (mvT hZ (w102 hw)) (mvT hZ (w103 hw)) (mvT hZ (w104 hw)) (mvT hZ (w105 hw)) (by decide) (backOf (W := 0) (rm13_3 l Z a0 hw [] a3 a2 a4 kz5 a6 a7 h0 n0 O0 P3 P2 P4 P5 P6 P7 P8 P9 P10 P11) hZ (w106 hw) (w76 hw) (by decide) (by decide)) q3a q3b q3c (g := (mkF m 23 #[.val (.ref a1), .val (.ref a2)] [(.ref a2), (.ref a3)])) rfl (by rw [hml]; rfl) (Steps.refl _) (argsL := [(.ref a2)]) (rest := []) (lenOf pd_18 rfl) rfl (by show 2 * 0 + _ ≤ _; exact Nat.le_of_eq rfl) (hb hby d9_23) (fun vm₁ hw₁ => ⟨rfl, e2, (by decide : 0 + 0 ≤ _), (by decide : 0 + 0 ≤ _)⟩)
  dsimp only [Pt.U, Pt.locs, Pt.cells, Pt.slots] at X3 l3 y3 z3 st3 hQ3
  subst l3 y3 z3
  obtain ⟨rfl, M3, K3c, r3_0, r3_1, r3_2, r3_3⟩ := hQ3
  have N3 := Fr.app N0 M3
  have O3 : Old Z n0 T3.heap := O0.keep K3c (allS P4 (allS P8 all0))
  have K3 : Keep h0 T3.heap [a4, a3] := (Keep.refl h0 [a4, a3]).trans K3c (allS (Or.inl (List.mem_of_getElem? (i := 1) rfl)) (allS (Or.inl (List.mem_of_getElem? (i := 0) rfl)) all0))
  refine Go.tr st3 ?_
  show Go p e below _ (T3.setTop (mkF m 28 #[.val (.ref a1), .val (.ref a2)] [(.int (1 : Int32))]))
  refine Go.st (fun t k => XS.pop X3.here hx rfl (hb hby d9_28) rfl rfl k) ?_
  show Go p e below _ (T3.setTop (mkF m 29 #[.val (.ref a1), .val (.ref a2)] []))
  obtain ⟨fs, hr, hrun, hended, hWd, hsame⟩ := X3.leave (v := none) (fun _ => rfl)
  refine ⟨_, _, ?_, hrun, hended, _, _, rfl, ?_, ⟨⟨_, rfl⟩, hWd, hsame.mono (by decide) (by decide)⟩⟩
  · exact X3.returnOut hx Bd.returns (hb hby d9_29) hr
  · show Q_rm9_3 Z a1 a2 a3 a4 kz5 a6 a7 h0 n0 _ T3.heap _
    exact ⟨rfl, N3, K3, r3_3, r3_0, r3_1, r3_2⟩
def Q_rm18_3 (Z : State) (a1 : Addr) (h0 : Heap) (n0 : Nat) (v : Option Value) (h : Heap) (L : List Loc) : Prop := v = some (.int (3 : Int32)) ∧ Fr n0 L ∧ h = h0
set_option maxRecDepth 65536 in
set_option maxHeartbeats 40000000 in
theorem rm18_3 (l : Launch) (Z : State) (a0 : Array Value) (hw : ∀ d ∈ tables_1, d.before a0 Z = true) (ws : List Jvm.Cond) (a1 : Addr) (h0 : Heap) (n0 : Nat) (O0 : Old Z n0 h0) (P1 : Fld Z h0 a1 "java/util/ArrayList" "size" "I" (.int (3 : Int32))) :
    MetFree l (⟨"java/util/ArrayList", "size", "()I"⟩ : MethodName) (head1 (Jvm.Cond.code (⟨"java/util/ArrayList", "size", "()I"⟩ : MethodName) jdk_38_method_8_code 1 (some .int) :: ws) ({ frames := 0, cells := 0, slots := 0, locals := 0 } : Room)) (fun a U => a = #[(.ref a1)] ∧ Z.Warmed39 U.vm ∧ U.heap = h0) (fun _ _ _ _ _ => True) (fun _ U o U' => ∃ v L, o = .returned v ∧ Q_rm18_3 Z a1 h0 n0 v U'.heap L ∧ FrameEnd U o U' L ({ frames := 0, cells := 0, slots := 0, locals := 0 } : Room).cells ({ frames := 0, cells := 0, slots := 0, locals := 0 } : Room).slots) := by
  refine MetFree.of_bodySF (plainFor_of_name pn_9) hisR ?_
  intro p e s m args below meth c s₁ Bd hml0 hP hK
  obtain ⟨rfl, hZ, hh⟩ := hP
  have hx := Bd.exec
  have hby := Bd.bytes
  have hml : c.maxLocals = 1 := hml0
  have hown : s.vm.findClass "java/util/ArrayList" = some m.cls := findClass_of_methodNamed Bd.named
  have hnm := (name_of_methodNamed Bd.named Bd.method).1
  have X0 : Stand p l e ({ frames := 0, cells := 0, slots := 0, locals := 0 } : Room) s m #[(.ref a1)] below meth c s₁ [] 0 0 := Stand.of_body Bd
  have e0 : s₁.heap = h0 := by rw [← hh, Bd.state]; rfl
  have N0 := Fr.nil n0
  refine Go.start (P := (fun o U' => ∃ v L, o = .returned v ∧ Q_rm18_3 Z a1 h0 n0 v U'.heap L ∧ FrameEnd s o U' L ({ frames := 0, cells := 0, slots := 0, locals := 0 } : Room).cells ({ frames := 0, cells := 0, slots := 0, locals := 0 } : Room).slots)) (castTop (g' := (mkF m 0 #[.val (.ref a1)] [])) (by first | rfl | simp [entryFrame, mkF, argsToLocals, Value.category]) (T := s₁)) ?_
  refine Go.st (fun t k => XS.aloadN X0.here hx rfl (hb hby d18_0) rfl rfl k) ?_
  show Go p e below _ (s₁.setTop (mkF m 1 #[.val (.ref a1)] [(.ref a1)]))
  obtain ⟨T1, X1, e1, st1⟩ := getF X0 hx hZ hown (host := "") (Or.inl (w109 hw)) Via.refl e0 P1 (g := (mkF m 1 #[.val (.ref a1)] [(.ref a1)])) rfl rfl (hb hby d18_1)
  refine Go.st st1 ?_
  show Go p e below _ (T1.setTop (mkF m 4 #[.val (.ref a1)] [(.int (3 : Int32))]))
  obtain ⟨fs, hr, hrun, hended, hWd, hsame⟩ := X1.leave (v := some (.int (3 : Int32))) (fun h => by rw [Bd.returns] at h; cases h)
  refine ⟨_, _, ?_, hrun, hended, _, _, rfl, ?_, ⟨⟨_, rfl⟩, hWd, hsame.mono (by decide) (by decide)⟩⟩
  · exact retI X1 hx Bd.returns (hb hby d18_4) hr
  · show Q_rm18_3 Z a1 h0 n0 _ T1.heap _
    rw [e1]
    exact ⟨rfl, N0, rfl⟩
def Q_rm21_4 (Z : State)  (h0 : Heap) (n0 : Nat) (v : Option Value) (h : Heap) (L : List Loc) : Prop := v = some (.int (0 : Int32)) ∧ Fr n0 L ∧ h = h0
set_option maxRecDepth 65536 in
set_option maxHeartbeats 40000000 in
theorem rm21_4 (l : Launch) (Z : State) (a0 : Array Value) (hw : ∀ d ∈ tables_1, d.before a0 Z = true) (ws : List Jvm.Cond)  (h0 : Heap) (n0 : Nat) (O0 : Old Z n0 h0) :
    MetFree l (⟨"jdk/internal/util/Preconditions", "checkIndex", "(IILjava/util/function/BiFunction;)I"⟩ : MethodName) (head1 (Jvm.Cond.code (⟨"jdk/internal/util/Preconditions", "checkIndex", "(IILjava/util/function/BiFunction;)I"⟩ : MethodName) jdk_41_method_11_code 3 (some .int) :: ws) ({ frames := 0, cells := 0, slots := 0, locals := 0 } : Room)) (fun a U => a = #[(.int (0 : Int32)), (.int (3 : Int32)), .null] ∧ Z.Warmed39 U.vm ∧ U.heap = h0) (fun _ _ _ _ _ => True) (fun _ U o U' => ∃ v L, o = .returned v ∧ Q_rm21_4 Z  h0 n0 v U'.heap L ∧ FrameEnd U o U' L ({ frames := 0, cells := 0, slots := 0, locals := 0 } : Room).cells ({ frames := 0, cells := 0, slots := 0, locals := 0 } : Room).slots) := by
  refine MetFree.of_bodySF (plainFor_of_name pn_10) hisR ?_
  intro p e s m args below meth c s₁ Bd hml0 hP hK
  obtain ⟨rfl, hZ, hh⟩ := hP
  have hx := Bd.exec
  have hby := Bd.bytes
  have hml : c.maxLocals = 3 := hml0
  have hown : s.vm.findClass "jdk/internal/util/Preconditions" = some m.cls := findClass_of_methodNamed Bd.named
  have hnm := (name_of_methodNamed Bd.named Bd.method).1
  have X0 : Stand p l e ({ frames := 0, cells := 0, slots := 0, locals := 0 } : Room) s m #[(.int (0 : Int32)), (.int (3 : Int32)), .null] below meth c s₁ [] 0 0 := Stand.of_body Bd
  have e0 : s₁.heap = h0 := by rw [← hh, Bd.state]; rfl
  have N0 := Fr.nil n0
  refine Go.start (P := (fun o U' => ∃ v L, o = .returned v ∧ Q_rm21_4 Z  h0 n0 v U'.heap L ∧ FrameEnd s o U' L ({ frames := 0, cells := 0, slots := 0, locals := 0 } : Room).cells ({ frames := 0, cells := 0, slots := 0, locals := 0 } : Room).slots)) (castTop (g' := (mkF m 0 #[.val (.int (0 : Int32)), .val (.int (3 : Int32)), .val .null] [])) (by first | rfl | simp [entryFrame, mkF, argsToLocals, Value.category]) (T := s₁)) ?_
  refine Go.st (fun t k => XS.iloadN X0.here hx rfl (hb hby d21_0) rfl k) ?_
  show Go p e below _ (s₁.setTop (mkF m 1 #[.val (.int (0 : Int32)), .val (.int (3 : Int32)), .val .null] [(.int (0 : Int32))]))
  refine Go.st (fun t k => XS.ifNo X0.here hx rfl (hb hby d21_1) rfl (Jvm.Free.XT.i0_lt_f (by decide : ¬ ((0 : Int32) < (0 : Int32)))) k) ?_
  show Go p e below _ (s₁.setTop (mkF m 4 #[.val (.int (0 : Int32)), .val (.int (3 : Int32)), .val .null] []))
  refine Go.st (fun t k => XS.iloadN X0.here hx rfl (hb hby d21_4) rfl k) ?_
  show Go p e below _ (s₁.setTop (mkF m 5 #[.val (.int (0 : Int32)), .val (.int (3 : Int32)), .val .null] [(.int (0 : Int32))]))
  refine Go.st (fun t k => XS.iloadN X0.here hx rfl (hb hby d21_5) rfl k) ?_
  show Go p e below _ (s₁.setTop (mkF m 6 #[.val (.int (0 : Int32)), .val (.int (3 : Int32)), .val .null] [(.int (3 : Int32)), (.int (0 : Int32))]))
  refine Go.st (fun t k => XS.icmpYes X0.here hx rfl (pc0 := 6) (pc' := 16) rfl (hb hby d21_6) rfl (Jvm.Free.XT.ii_lt_t (by decide : (0 : Int32) < (3 : Int32))) (by decide) (by decide) k) ?_
  show Go p e below _ (s₁.setTop (mkF m 16 #[.val (.int (0 : Int32)), .val (.int (3 : Int32)), .val .null] []))
  refine Go.st (fun t k => XS.iloadN X0.here hx rfl (hb hby d21_16) rfl k) ?_
  show Go p e below _ (s₁.setTop (mkF m 17 #[.val (.int (0 : Int32)), .val (.int (3 : Int32)), .val .null] [(.int (0 : Int32))]))
  obtain ⟨fs, hr, hrun, hended, hWd, hsame⟩ := X0.leave (v := some (.int (0 : Int32))) (fun h => by rw [Bd.returns] at h; cases h)
  refine ⟨_, _, ?_, hrun, hended, _, _, rfl, ?_, ⟨⟨_, rfl⟩, hWd, hsame.mono (by decide) (by decide)⟩⟩
  · exact retI X0 hx Bd.returns (hb hby d21_17) hr
  · show Q_rm21_4 Z  h0 n0 _ s₁.heap _
    rw [e0]
    exact ⟨rfl, N0, rfl⟩
def Q_rm20_4 (Z : State)  (h0 : Heap) (n0 : Nat) (v : Option Value) (h : Heap) (L : List Loc) : Prop := v = some (.int (0 : Int32)) ∧ Fr n0 L ∧ h = h0
set_option maxRecDepth 65536 in
set_option maxHeartbeats 40000000 in
theorem rm20_4 (l : Launch) (Z : State) (a0 : Array Value) (hw : ∀ d ∈ tables_1, d.before a0 Z = true) (ws : List Jvm.Cond)  (h0 : Heap) (n0 : Nat) (O0 : Old Z n0 h0) :
    MetFree l (⟨"java/util/Objects", "checkIndex", "(II)I"⟩ : MethodName) (head1 (Jvm.Cond.code (⟨"java/util/Objects", "checkIndex", "(II)I"⟩ : MethodName) jdk_31_method_17_code 2 (some .int) :: ws) ({ frames := 1, cells := 0, slots := 0, locals := 14 } : Room)) (fun a U => a = #[(.int (0 : Int32)), (.int (3 : Int32))] ∧ Z.Warmed39 U.vm ∧ U.heap = h0) (fun _ _ _ _ _ => True) (fun _ U o U' => ∃ v L, o = .returned v ∧ Q_rm20_4 Z  h0 n0 v U'.heap L ∧ FrameEnd U o U' L ({ frames := 1, cells := 0, slots := 0, locals := 14 } : Room).cells ({ frames := 1, cells := 0, slots := 0, locals := 14 } : Room).slots) := by
  refine MetFree.of_bodySF (plainFor_of_name pn_11) hisR ?_
  intro p e s m args below meth c s₁ Bd hml0 hP hK
  obtain ⟨rfl, hZ, hh⟩ := hP
  have hx := Bd.exec
  have hby := Bd.bytes
  have hml : c.maxLocals = 2 := hml0
  have hown : s.vm.findClass "java/util/Objects" = some m.cls := findClass_of_methodNamed Bd.named
  have hnm := (name_of_methodNamed Bd.named Bd.method).1
  have X0 : Stand p l e ({ frames := 1, cells := 0, slots := 0, locals := 14 } : Room) s m #[(.int (0 : Int32)), (.int (3 : Int32))] below meth c s₁ [] 0 0 := Stand.of_body Bd
  have e0 : s₁.heap = h0 := by rw [← hh, Bd.state]; rfl
  have N0 := Fr.nil n0
  refine Go.start (P := (fun o U' => ∃ v L, o = .returned v ∧ Q_rm20_4 Z  h0 n0 v U'.heap L ∧ FrameEnd s o U' L ({ frames := 1, cells := 0, slots := 0, locals := 14 } : Room).cells ({ frames := 1, cells := 0, slots := 0, locals := 14 } : Room).slots)) (castTop (g' := (mkF m 0 #[.val (.int (0 : Int32)), .val (.int (3 : Int32))] [])) (by first | rfl | simp [entryFrame, mkF, argsToLocals, Value.category]) (T := s₁)) ?_
  refine Go.st (fun t k => XS.iloadN X0.here hx rfl (hb hby d20_0) rfl k) ?_
  show Go p e below _ (s₁.setTop (mkF m 1 #[.val (.int (0 : Int32)), .val (.int (3 : Int32))] [(.int (0 : Int32))]))
  refine Go.st (fun t k => XS.iloadN X0.here hx rfl (hb hby d20_1) rfl k) ?_
  show Go p e below _ (s₁.setTop (mkF m 2 #[.val (.int (0 : Int32)), .val (.int (3 : Int32))] [(.int (3 : Int32)), (.int (0 : Int32))]))
  refine Go.st (fun t k => XS.aconstNull X0.here hx rfl (hb hby d20_2) k) ?_
  show Go p e below _ (s₁.setTop (mkF m 3 #[.val (.int (0 : Int32)), .val (.int (3 : Int32))] [.null, (.int (3 : Int32)), (.int (0 : Int32))]))
  obtain ⟨_, _, ⟨T1, L1, k1, n1⟩, -, X1, ⟨Lc1, hQ1, l1, y1, z1⟩, st1⟩ := Jvm.LawKit.callS X0 hx (y := (⟨"jdk/internal/util/Preconditions", "checkIndex", "(IILjava/util/function/BiFunction;)I"⟩ : MethodName)) hown (mvT hZ (w150 hw)) (mvT hZ (w151 hw)) (mvT hZ (w152 hw)) (mvT hZ (w153 hw)) (by decide) (backOf (W := 0) (rm21_4 l Z a0 hw []  h0 n0 O0 ) hZ (w153 hw) (w152 hw) (by decide) (by decide)) (g := (mkF m 3 #[.val (.int (0 : Int32)), .val (.int (3 : Int32))] [.null, (.int (3 : Int32)), (.int (0 : Int32))])) rfl (by rw [hml]; rfl) (argsL := [(.int (0 : Int32)), (.int (3 : Int32)), .null]) (rest := []) (lenOf pd_20 rfl) rfl (by show 2 * 0 + _ ≤ _; exact Nat.le_of_eq rfl) (hb hby d20_3) (fun vm₁ hw₁ => ⟨rfl, e0, (by decide : 0 + 0 ≤ _), (by decide : 0 + 0 ≤ _)⟩)
  dsimp only [Pt.U, Pt.locs, Pt.cells, Pt.slots] at X1 l1 y1 z1 st1 hQ1
  subst l1 y1 z1
  obtain ⟨rfl, M1, eh1⟩ := hQ1
  have N1 := Fr.app N0 M1
  refine Go.st st1 ?_
  show Go p e below _ (T1.setTop (mkF m 6 #[.val (.int (0 : Int32)), .val (.int (3 : Int32))] [(.int (0 : Int32))]))
  obtain ⟨fs, hr, hrun, hended, hWd, hsame⟩ := X1.leave (v := some (.int (0 : Int32))) (fun h => by rw [Bd.returns] at h; cases h)
  refine ⟨_, _, ?_, hrun, hended, _, _, rfl, ?_, ⟨⟨_, rfl⟩, hWd, hsame.mono (by decide) (by decide)⟩⟩
  · exact retI X1 hx Bd.returns (hb hby d20_6) hr
  · show Q_rm20_4 Z  h0 n0 _ T1.heap _
    rw [eh1]
    exact ⟨rfl, N1, rfl⟩
def Q_rm22_4 (Z : State) (a1 : Addr) (a2 : Addr) (kz3 : ClassId) (a4 : Addr) (a5 : Addr) (a6 : Addr) (h0 : Heap) (n0 : Nat) (v : Option Value) (h : Heap) (L : List Loc) : Prop := v = some (.ref a4) ∧ Fr n0 L ∧ h = h0
set_option maxRecDepth 65536 in
set_option maxHeartbeats 40000000 in
theorem rm22_4 (l : Launch) (Z : State) (a0 : Array Value) (hw : ∀ d ∈ tables_1, d.before a0 Z = true) (ws : List Jvm.Cond) (a1 : Addr) (a2 : Addr) (kz3 : ClassId) (a4 : Addr) (a5 : Addr) (a6 : Addr) (h0 : Heap) (n0 : Nat) (O0 : Old Z n0 h0) (P1 : Fld Z h0 a1 "java/util/ArrayList" "elementData" "[Ljava/lang/Object;" (.ref a2)) (P2 : Arv Z h0 a2 kz3 (.object "java/lang/Object") (10 : Int32) [(.ref a4), (.ref a5), (.ref a6), .null, .null, .null, .null, .null, .null, .null] .null) :
    MetFree l (⟨"java/util/ArrayList", "elementData", "(I)Ljava/lang/Object;"⟩ : MethodName) (head1 (Jvm.Cond.code (⟨"java/util/ArrayList", "elementData", "(I)Ljava/lang/Object;"⟩ : MethodName) jdk_38_method_18_code 2 (some (.object "java/lang/Object")) :: ws) ({ frames := 0, cells := 0, slots := 0, locals := 0 } : Room)) (fun a U => a = #[(.ref a1), (.int (0 : Int32))] ∧ Z.Warmed39 U.vm ∧ U.heap = h0) (fun _ _ _ _ _ => True) (fun _ U o U' => ∃ v L, o = .returned v ∧ Q_rm22_4 Z a1 a2 kz3 a4 a5 a6 h0 n0 v U'.heap L ∧ FrameEnd U o U' L ({ frames := 0, cells := 0, slots := 0, locals := 0 } : Room).cells ({ frames := 0, cells := 0, slots := 0, locals := 0 } : Room).slots) := by
  refine MetFree.of_bodySF (plainFor_of_name pn_9) hisR ?_
  intro p e s m args below meth c s₁ Bd hml0 hP hK
  obtain ⟨rfl, hZ, hh⟩ := hP
  have hx := Bd.exec
  have hby := Bd.bytes
  have hml : c.maxLocals = 2 := hml0
  have hown : s.vm.findClass "java/util/ArrayList" = some m.cls := findClass_of_methodNamed Bd.named
  have hnm := (name_of_methodNamed Bd.named Bd.method).1
  have X0 : Stand p l e ({ frames := 0, cells := 0, slots := 0, locals := 0 } : Room) s m #[(.ref a1), (.int (0 : Int32))] below meth c s₁ [] 0 0 := Stand.of_body Bd
  have e0 : s₁.heap = h0 := by rw [← hh, Bd.state]; rfl
  have N0 := Fr.nil n0
  refine Go.start (P := (fun o U' => ∃ v L, o = .returned v ∧ Q_rm22_4 Z a1 a2 kz3 a4 a5 a6 h0 n0 v U'.heap L ∧ FrameEnd s o U' L ({ frames := 0, cells := 0, slots := 0, locals := 0 } : Room).cells ({ frames := 0, cells := 0, slots := 0, locals := 0 } : Room).slots)) (castTop (g' := (mkF m 0 #[.val (.ref a1), .val (.int (0 : Int32))] [])) (by first | rfl | simp [entryFrame, mkF, argsToLocals, Value.category]) (T := s₁)) ?_
  refine Go.st (fun t k => XS.aloadN X0.here hx rfl (hb hby d22_0) rfl rfl k) ?_
  show Go p e below _ (s₁.setTop (mkF m 1 #[.val (.ref a1), .val (.int (0 : Int32))] [(.ref a1)]))
  obtain ⟨T1, X1, e1, st1⟩ := getF X0 hx hZ hown (host := "") (Or.inl (w96 hw)) Via.refl e0 P1 (g := (mkF m 1 #[.val (.ref a1), .val (.int (0 : Int32))] [(.ref a1)])) rfl rfl (hb hby d22_1)
  refine Go.st st1 ?_
  show Go p e below _ (T1.setTop (mkF m 4 #[.val (.ref a1), .val (.int (0 : Int32))] [(.ref a2)]))
  refine Go.st (fun t k => XS.iloadN X1.here hx rfl (hb hby d22_4) rfl k) ?_
  show Go p e below _ (T1.setTop (mkF m 5 #[.val (.ref a1), .val (.int (0 : Int32))] [(.int (0 : Int32)), (.ref a2)]))
  obtain ⟨cl2, Ar2, q2, S2, M2, H2, G2⟩ := id P2
  have hin2 : ¬ ((0 : Int32) < 0 ∨ cl2.slots.size ≤ ((0 : Int32)).toNatClampNeg) := inb_of S2 ⟨by decide, by decide⟩
  have hat2 : cl2.slots[((0 : Int32)).toNatClampNeg]? = some (.ref a4) := H2.at hin2 rfl
  refine Go.st (fun t k => X1.aaload hx (j := (0 : Int32)) (v := (.ref a4)) (by rw [e1]; exact Ar2.1) (State.isArrayOf_alike hZ.alike Ar2.2.1) rfl Ar2.2.2 hin2 hat2 (g := (mkF m 5 #[.val (.ref a1), .val (.int (0 : Int32))] [(.int (0 : Int32)), (.ref a2)])) rfl rfl (hb hby d22_5) t k) ?_
  show Go p e below _ (T1.setTop (mkF m 6 #[.val (.ref a1), .val (.int (0 : Int32))] [(.ref a4)]))
  obtain ⟨fs, hr, hrun, hended, hWd, hsame⟩ := X1.leave (v := some (.ref a4)) (fun h => by rw [Bd.returns] at h; cases h)
  refine ⟨_, _, ?_, hrun, hended, _, _, rfl, ?_, ⟨⟨_, rfl⟩, hWd, hsame.mono (by decide) (by decide)⟩⟩
  · exact own_retA X1 hx Bd.returns rfl rfl (hb hby d22_6) hr
  · show Q_rm22_4 Z a1 a2 kz3 a4 a5 a6 h0 n0 _ T1.heap _
    rw [e1]
    exact ⟨rfl, N0, rfl⟩
def Q_rm19_4 (Z : State) (a1 : Addr) (a2 : Addr) (kz3 : ClassId) (a4 : Addr) (a5 : Addr) (a6 : Addr) (h0 : Heap) (n0 : Nat) (v : Option Value) (h : Heap) (L : List Loc) : Prop := v = some (.ref a4) ∧ Fr n0 L ∧ h = h0
set_option maxRecDepth 65536 in
set_option maxHeartbeats 40000000 in
theorem rm19_4 (l : Launch) (Z : State) (a0 : Array Value) (hw : ∀ d ∈ tables_1, d.before a0 Z = true) (ws : List Jvm.Cond) (a1 : Addr) (a2 : Addr) (kz3 : ClassId) (a4 : Addr) (a5 : Addr) (a6 : Addr) (h0 : Heap) (n0 : Nat) (O0 : Old Z n0 h0) (P1 : Fld Z h0 a1 "java/util/ArrayList" "size" "I" (.int (3 : Int32))) (P2 : Exa Z h0 a1 "java/util/ArrayList") (P3 : Fld Z h0 a1 "java/util/ArrayList" "elementData" "[Ljava/lang/Object;" (.ref a2)) (P4 : Arv Z h0 a2 kz3 (.object "java/lang/Object") (10 : Int32) [(.ref a4), (.ref a5), (.ref a6), .null, .null, .null, .null, .null, .null, .null] .null) :
    MetFree l (⟨"java/util/ArrayList", "get", "(I)Ljava/lang/Object;"⟩ : MethodName) (head1 (Jvm.Cond.code (⟨"java/util/ArrayList", "get", "(I)Ljava/lang/Object;"⟩ : MethodName) jdk_38_method_20_code 2 (some (.object "java/lang/Object")) :: ws) ({ frames := 2, cells := 0, slots := 0, locals := 27 } : Room)) (fun a U => a = #[(.ref a1), (.int (0 : Int32))] ∧ Z.Warmed39 U.vm ∧ U.heap = h0) (fun _ _ _ _ _ => True) (fun _ U o U' => ∃ v L, o = .returned v ∧ Q_rm19_4 Z a1 a2 kz3 a4 a5 a6 h0 n0 v U'.heap L ∧ FrameEnd U o U' L ({ frames := 2, cells := 0, slots := 0, locals := 27 } : Room).cells ({ frames := 2, cells := 0, slots := 0, locals := 27 } : Room).slots) := by
  refine MetFree.of_bodySF (plainFor_of_name pn_9) hisR ?_
  intro p e s m args below meth c s₁ Bd hml0 hP hK
  obtain ⟨rfl, hZ, hh⟩ := hP
  have hx := Bd.exec
  have hby := Bd.bytes
  have hml : c.maxLocals = 2 := hml0
  have hown : s.vm.findClass "java/util/ArrayList" = some m.cls := findClass_of_methodNamed Bd.named
  have hnm := (name_of_methodNamed Bd.named Bd.method).1
  have X0 : Stand p l e ({ frames := 2, cells := 0, slots := 0, locals := 27 } : Room) s m #[(.ref a1), (.int (0 : Int32))] below meth c s₁ [] 0 0 := Stand.of_body Bd
  have e0 : s₁.heap = h0 := by rw [← hh, Bd.state]; rfl
  have N0 := Fr.nil n0
  refine Go.start (P := (fun o U' => ∃ v L, o = .returned v ∧ Q_rm19_4 Z a1 a2 kz3 a4 a5 a6 h0 n0 v U'.heap L ∧ FrameEnd s o U' L ({ frames := 2, cells := 0, slots := 0, locals := 27 } : Room).cells ({ frames := 2, cells := 0, slots := 0, locals := 27 } : Room).slots)) (castTop (g' := (mkF m 0 #[.val (.ref a1), .val (.int (0 : Int32))] [])) (by first | rfl | simp [entryFrame, mkF, argsToLocals, Value.category]) (T := s₁)) ?_
  refine Go.st (fun t k => XS.iloadN X0.here hx rfl (hb hby d19_0) rfl k) ?_
  show Go p e below _ (s₁.setTop (mkF m 1 #[.val (.ref a1), .val (.int (0 : Int32))] [(.int (0 : Int32))]))
  refine Go.st (fun t k => XS.aloadN X0.here hx rfl (hb hby d19_1) rfl rfl k) ?_
  show Go p e below _ (s₁.setTop (mkF m 2 #[.val (.ref a1), .val (.int (0 : Int32))] [(.ref a1), (.int (0 : Int32))]))
  obtain ⟨T1, X1, e1, st1⟩ := getF X0 hx hZ hown (host := "") (Or.inl (w109 hw)) Via.refl e0 P1 (g := (mkF m 2 #[.val (.ref a1), .val (.int (0 : Int32))] [(.ref a1), (.int (0 : Int32))])) rfl rfl (hb hby d19_2)
  refine Go.st st1 ?_
  show Go p e below _ (T1.setTop (mkF m 5 #[.val (.ref a1), .val (.int (0 : Int32))] [(.int (3 : Int32)), (.int (0 : Int32))]))
  obtain ⟨_, _, ⟨T2, L2, k2, n2⟩, -, X2, ⟨Lc2, hQ2, l2, y2, z2⟩, st2⟩ := Jvm.LawKit.callS X1 hx (y := (⟨"java/util/Objects", "checkIndex", "(II)I"⟩ : MethodName)) hown (mvT hZ (w146 hw)) (mvT hZ (w147 hw)) (mvT hZ (w148 hw)) (mvT hZ (w149 hw)) (by decide) (backOf (W := 0) (rm20_4 l Z a0 hw []  h0 n0 O0 ) hZ (w149 hw) (w148 hw) (by decide) (by decide)) (g := (mkF m 5 #[.val (.ref a1), .val (.int (0 : Int32))] [(.int (3 : Int32)), (.int (0 : Int32))])) rfl (by rw [hml]; rfl) (argsL := [(.int (0 : Int32)), (.int (3 : Int32))]) (rest := []) (lenOf pd_14 rfl) rfl (by show 2 * 0 + _ ≤ _; exact Nat.le_of_eq rfl) (hb hby d19_5) (fun vm₁ hw₁ => ⟨rfl, e1, (by decide : 0 + 0 ≤ _), (by decide : 0 + 0 ≤ _)⟩)
  dsimp only [Pt.U, Pt.locs, Pt.cells, Pt.slots] at X2 l2 y2 z2 st2 hQ2
  subst l2 y2 z2
  obtain ⟨rfl, M2, eh2⟩ := hQ2
  have N2 := Fr.app N0 M2
  refine Go.st st2 ?_
  show Go p e below _ (T2.setTop (mkF m 8 #[.val (.ref a1), .val (.int (0 : Int32))] [(.int (0 : Int32))]))
  refine Go.st (fun t k => XS.pop X2.here hx rfl (hb hby d19_8) rfl rfl k) ?_
  show Go p e below _ (T2.setTop (mkF m 9 #[.val (.ref a1), .val (.int (0 : Int32))] []))
  refine Go.st (fun t k => XS.aloadN X2.here hx rfl (hb hby d19_9) rfl rfl k) ?_
  show Go p e below _ (T2.setTop (mkF m 10 #[.val (.ref a1), .val (.int (0 : Int32))] [(.ref a1)]))
  refine Go.st (fun t k => XS.iloadN X2.here hx rfl (hb hby d19_10) rfl k) ?_
  show Go p e below _ (T2.setTop (mkF m 11 #[.val (.ref a1), .val (.int (0 : Int32))] [(.int (0 : Int32)), (.ref a1)]))
  obtain ⟨cq3, kq3, q3a, q3b, q3c⟩ := isOf hZ eh2 P2
  obtain ⟨_, _, ⟨T3, L3, k3, n3⟩, -, X3, ⟨Lc3, hQ3, l3, y3, z3⟩, st3⟩ := X2.virtualBack hx (y := (⟨"java/util/ArrayList", "elementData", "(I)Ljava/lang/Object;"⟩ : MethodName)) (z := (⟨"java/util/ArrayList", "elementData", "(I)Ljava/lang/Object;"⟩ : MethodName)) hown (mvT hZ (w154 hw)) (mvT hZ (w155 hw)) (notFace_of_selects (args := #[]) (mvT hZ (w157 hw))) (mvT hZ (w157 hw)) (mvT hZ (w156 hw)) (by decide) (backOf (W := 0) (rm22_4 l Z a0 hw [] a1 a2 kz3 a4 a5 a6 h0 n0 O0 P3 P4) hZ (w158 hw) (w76 hw) (by decide) (by decide)) q3a q3c (g := (mkF m 11 #[.val (.ref a1), .val (.int (0 : Int32))] [(.int (0 : Int32)), (.ref a1)])) rfl (by rw [hml]; rfl) (Steps.refl _) (argsL := [(.int (0 : Int32))]) (rest := []) (lenOf pd_21 rfl) rfl (by show 2 * 0 + _ ≤ _; exact Nat.le_of_eq rfl) (hb hby d19_11) (fun vm₁ hw₁ => ⟨rfl, eh2, (by decide : 0 + 0 ≤ _), (by decide : 0 + 0 ≤ _)⟩)
  dsimp only [Pt.U, Pt.locs, Pt.cells, Pt.slots] at X3 l3 y3 z3 st3 hQ3
  subst l3 y3 z3
  obtain ⟨rfl, M3, eh3⟩ := hQ3
  have N3 := Fr.app N2 M3
  refine Go.tr st3 ?_
  show Go p e below _ (T3.setTop (mkF m 14 #[.val (.ref a1), .val (.int (0 : Int32))] [(.ref a4)]))
  obtain ⟨fs, hr, hrun, hended, hWd, hsame⟩ := X3.leave (v := some (.ref a4)) (fun h => by rw [Bd.returns] at h; cases h)
  refine ⟨_, _, ?_, hrun, hended, _, _, rfl, ?_, ⟨⟨_, rfl⟩, hWd, hsame.mono (by decide) (by decide)⟩⟩
  · exact own_retA X3 hx Bd.returns rfl rfl (hb hby d19_14) hr
  · show Q_rm19_4 Z a1 a2 kz3 a4 a5 a6 h0 n0 _ T3.heap _
    rw [eh3]
    exact ⟨rfl, N3, rfl⟩
def Q_rm21_5 (Z : State)  (h0 : Heap) (n0 : Nat) (v : Option Value) (h : Heap) (L : List Loc) : Prop := v = some (.int (1 : Int32)) ∧ Fr n0 L ∧ h = h0
set_option maxRecDepth 65536 in
set_option maxHeartbeats 40000000 in
theorem rm21_5 (l : Launch) (Z : State) (a0 : Array Value) (hw : ∀ d ∈ tables_1, d.before a0 Z = true) (ws : List Jvm.Cond)  (h0 : Heap) (n0 : Nat) (O0 : Old Z n0 h0) :
    MetFree l (⟨"jdk/internal/util/Preconditions", "checkIndex", "(IILjava/util/function/BiFunction;)I"⟩ : MethodName) (head1 (Jvm.Cond.code (⟨"jdk/internal/util/Preconditions", "checkIndex", "(IILjava/util/function/BiFunction;)I"⟩ : MethodName) jdk_41_method_11_code 3 (some .int) :: ws) ({ frames := 0, cells := 0, slots := 0, locals := 0 } : Room)) (fun a U => a = #[(.int (1 : Int32)), (.int (3 : Int32)), .null] ∧ Z.Warmed39 U.vm ∧ U.heap = h0) (fun _ _ _ _ _ => True) (fun _ U o U' => ∃ v L, o = .returned v ∧ Q_rm21_5 Z  h0 n0 v U'.heap L ∧ FrameEnd U o U' L ({ frames := 0, cells := 0, slots := 0, locals := 0 } : Room).cells ({ frames := 0, cells := 0, slots := 0, locals := 0 } : Room).slots) := by
  refine MetFree.of_bodySF (plainFor_of_name pn_10) hisR ?_
  intro p e s m args below meth c s₁ Bd hml0 hP hK
  obtain ⟨rfl, hZ, hh⟩ := hP
  have hx := Bd.exec
  have hby := Bd.bytes
  have hml : c.maxLocals = 3 := hml0
  have hown : s.vm.findClass "jdk/internal/util/Preconditions" = some m.cls := findClass_of_methodNamed Bd.named
  have hnm := (name_of_methodNamed Bd.named Bd.method).1
  have X0 : Stand p l e ({ frames := 0, cells := 0, slots := 0, locals := 0 } : Room) s m #[(.int (1 : Int32)), (.int (3 : Int32)), .null] below meth c s₁ [] 0 0 := Stand.of_body Bd
  have e0 : s₁.heap = h0 := by rw [← hh, Bd.state]; rfl
  have N0 := Fr.nil n0
  refine Go.start (P := (fun o U' => ∃ v L, o = .returned v ∧ Q_rm21_5 Z  h0 n0 v U'.heap L ∧ FrameEnd s o U' L ({ frames := 0, cells := 0, slots := 0, locals := 0 } : Room).cells ({ frames := 0, cells := 0, slots := 0, locals := 0 } : Room).slots)) (castTop (g' := (mkF m 0 #[.val (.int (1 : Int32)), .val (.int (3 : Int32)), .val .null] [])) (by first | rfl | simp [entryFrame, mkF, argsToLocals, Value.category]) (T := s₁)) ?_
  refine Go.st (fun t k => XS.iloadN X0.here hx rfl (hb hby d21_0) rfl k) ?_
  show Go p e below _ (s₁.setTop (mkF m 1 #[.val (.int (1 : Int32)), .val (.int (3 : Int32)), .val .null] [(.int (1 : Int32))]))
  refine Go.st (fun t k => XS.ifNo X0.here hx rfl (hb hby d21_1) rfl (Jvm.Free.XT.i0_lt_f (by decide : ¬ ((1 : Int32) < (0 : Int32)))) k) ?_
  show Go p e below _ (s₁.setTop (mkF m 4 #[.val (.int (1 : Int32)), .val (.int (3 : Int32)), .val .null] []))
  refine Go.st (fun t k => XS.iloadN X0.here hx rfl (hb hby d21_4) rfl k) ?_
  show Go p e below _ (s₁.setTop (mkF m 5 #[.val (.int (1 : Int32)), .val (.int (3 : Int32)), .val .null] [(.int (1 : Int32))]))
  refine Go.st (fun t k => XS.iloadN X0.here hx rfl (hb hby d21_5) rfl k) ?_
  show Go p e below _ (s₁.setTop (mkF m 6 #[.val (.int (1 : Int32)), .val (.int (3 : Int32)), .val .null] [(.int (3 : Int32)), (.int (1 : Int32))]))
  refine Go.st (fun t k => XS.icmpYes X0.here hx rfl (pc0 := 6) (pc' := 16) rfl (hb hby d21_6) rfl (Jvm.Free.XT.ii_lt_t (by decide : (1 : Int32) < (3 : Int32))) (by decide) (by decide) k) ?_
  show Go p e below _ (s₁.setTop (mkF m 16 #[.val (.int (1 : Int32)), .val (.int (3 : Int32)), .val .null] []))
  refine Go.st (fun t k => XS.iloadN X0.here hx rfl (hb hby d21_16) rfl k) ?_
  show Go p e below _ (s₁.setTop (mkF m 17 #[.val (.int (1 : Int32)), .val (.int (3 : Int32)), .val .null] [(.int (1 : Int32))]))
  obtain ⟨fs, hr, hrun, hended, hWd, hsame⟩ := X0.leave (v := some (.int (1 : Int32))) (fun h => by rw [Bd.returns] at h; cases h)
  refine ⟨_, _, ?_, hrun, hended, _, _, rfl, ?_, ⟨⟨_, rfl⟩, hWd, hsame.mono (by decide) (by decide)⟩⟩
  · exact retI X0 hx Bd.returns (hb hby d21_17) hr
  · show Q_rm21_5 Z  h0 n0 _ s₁.heap _
    rw [e0]
    exact ⟨rfl, N0, rfl⟩
def Q_rm20_5 (Z : State)  (h0 : Heap) (n0 : Nat) (v : Option Value) (h : Heap) (L : List Loc) : Prop := v = some (.int (1 : Int32)) ∧ Fr n0 L ∧ h = h0
set_option maxRecDepth 65536 in
set_option maxHeartbeats 40000000 in
theorem rm20_5 (l : Launch) (Z : State) (a0 : Array Value) (hw : ∀ d ∈ tables_1, d.before a0 Z = true) (ws : List Jvm.Cond)  (h0 : Heap) (n0 : Nat) (O0 : Old Z n0 h0) :
    MetFree l (⟨"java/util/Objects", "checkIndex", "(II)I"⟩ : MethodName) (head1 (Jvm.Cond.code (⟨"java/util/Objects", "checkIndex", "(II)I"⟩ : MethodName) jdk_31_method_17_code 2 (some .int) :: ws) ({ frames := 1, cells := 0, slots := 0, locals := 14 } : Room)) (fun a U => a = #[(.int (1 : Int32)), (.int (3 : Int32))] ∧ Z.Warmed39 U.vm ∧ U.heap = h0) (fun _ _ _ _ _ => True) (fun _ U o U' => ∃ v L, o = .returned v ∧ Q_rm20_5 Z  h0 n0 v U'.heap L ∧ FrameEnd U o U' L ({ frames := 1, cells := 0, slots := 0, locals := 14 } : Room).cells ({ frames := 1, cells := 0, slots := 0, locals := 14 } : Room).slots) := by
  refine MetFree.of_bodySF (plainFor_of_name pn_11) hisR ?_
  intro p e s m args below meth c s₁ Bd hml0 hP hK
  obtain ⟨rfl, hZ, hh⟩ := hP
  have hx := Bd.exec
  have hby := Bd.bytes
  have hml : c.maxLocals = 2 := hml0
  have hown : s.vm.findClass "java/util/Objects" = some m.cls := findClass_of_methodNamed Bd.named
  have hnm := (name_of_methodNamed Bd.named Bd.method).1
  have X0 : Stand p l e ({ frames := 1, cells := 0, slots := 0, locals := 14 } : Room) s m #[(.int (1 : Int32)), (.int (3 : Int32))] below meth c s₁ [] 0 0 := Stand.of_body Bd
  have e0 : s₁.heap = h0 := by rw [← hh, Bd.state]; rfl
  have N0 := Fr.nil n0
  refine Go.start (P := (fun o U' => ∃ v L, o = .returned v ∧ Q_rm20_5 Z  h0 n0 v U'.heap L ∧ FrameEnd s o U' L ({ frames := 1, cells := 0, slots := 0, locals := 14 } : Room).cells ({ frames := 1, cells := 0, slots := 0, locals := 14 } : Room).slots)) (castTop (g' := (mkF m 0 #[.val (.int (1 : Int32)), .val (.int (3 : Int32))] [])) (by first | rfl | simp [entryFrame, mkF, argsToLocals, Value.category]) (T := s₁)) ?_
  refine Go.st (fun t k => XS.iloadN X0.here hx rfl (hb hby d20_0) rfl k) ?_
  show Go p e below _ (s₁.setTop (mkF m 1 #[.val (.int (1 : Int32)), .val (.int (3 : Int32))] [(.int (1 : Int32))]))
  refine Go.st (fun t k => XS.iloadN X0.here hx rfl (hb hby d20_1) rfl k) ?_
  show Go p e below _ (s₁.setTop (mkF m 2 #[.val (.int (1 : Int32)), .val (.int (3 : Int32))] [(.int (3 : Int32)), (.int (1 : Int32))]))
  refine Go.st (fun t k => XS.aconstNull X0.here hx rfl (hb hby d20_2) k) ?_
  show Go p e below _ (s₁.setTop (mkF m 3 #[.val (.int (1 : Int32)), .val (.int (3 : Int32))] [.null, (.int (3 : Int32)), (.int (1 : Int32))]))
  obtain ⟨_, _, ⟨T1, L1, k1, n1⟩, -, X1, ⟨Lc1, hQ1, l1, y1, z1⟩, st1⟩ := Jvm.LawKit.callS X0 hx (y := (⟨"jdk/internal/util/Preconditions", "checkIndex", "(IILjava/util/function/BiFunction;)I"⟩ : MethodName)) hown (mvT hZ (w150 hw)) (mvT hZ (w151 hw)) (mvT hZ (w152 hw)) (mvT hZ (w153 hw)) (by decide) (backOf (W := 0) (rm21_5 l Z a0 hw []  h0 n0 O0 ) hZ (w153 hw) (w152 hw) (by decide) (by decide)) (g := (mkF m 3 #[.val (.int (1 : Int32)), .val (.int (3 : Int32))] [.null, (.int (3 : Int32)), (.int (1 : Int32))])) rfl (by rw [hml]; rfl) (argsL := [(.int (1 : Int32)), (.int (3 : Int32)), .null]) (rest := []) (lenOf pd_20 rfl) rfl (by show 2 * 0 + _ ≤ _; exact Nat.le_of_eq rfl) (hb hby d20_3) (fun vm₁ hw₁ => ⟨rfl, e0, (by decide : 0 + 0 ≤ _), (by decide : 0 + 0 ≤ _)⟩)
  dsimp only [Pt.U, Pt.locs, Pt.cells, Pt.slots] at X1 l1 y1 z1 st1 hQ1
  subst l1 y1 z1
  obtain ⟨rfl, M1, eh1⟩ := hQ1
  have N1 := Fr.app N0 M1
  refine Go.st st1 ?_
  show Go p e below _ (T1.setTop (mkF m 6 #[.val (.int (1 : Int32)), .val (.int (3 : Int32))] [(.int (1 : Int32))]))
  obtain ⟨fs, hr, hrun, hended, hWd, hsame⟩ := X1.leave (v := some (.int (1 : Int32))) (fun h => by rw [Bd.returns] at h; cases h)
  refine ⟨_, _, ?_, hrun, hended, _, _, rfl, ?_, ⟨⟨_, rfl⟩, hWd, hsame.mono (by decide) (by decide)⟩⟩
  · exact retI X1 hx Bd.returns (hb hby d20_6) hr
  · show Q_rm20_5 Z  h0 n0 _ T1.heap _
    rw [eh1]
    exact ⟨rfl, N1, rfl⟩
def Q_rm22_5 (Z : State) (a1 : Addr) (a2 : Addr) (kz3 : ClassId) (a4 : Addr) (a5 : Addr) (a6 : Addr) (h0 : Heap) (n0 : Nat) (v : Option Value) (h : Heap) (L : List Loc) : Prop := v = some (.ref a5) ∧ Fr n0 L ∧ h = h0
set_option maxRecDepth 65536 in
set_option maxHeartbeats 40000000 in
theorem rm22_5 (l : Launch) (Z : State) (a0 : Array Value) (hw : ∀ d ∈ tables_1, d.before a0 Z = true) (ws : List Jvm.Cond) (a1 : Addr) (a2 : Addr) (kz3 : ClassId) (a4 : Addr) (a5 : Addr) (a6 : Addr) (h0 : Heap) (n0 : Nat) (O0 : Old Z n0 h0) (P1 : Fld Z h0 a1 "java/util/ArrayList" "elementData" "[Ljava/lang/Object;" (.ref a2)) (P2 : Arv Z h0 a2 kz3 (.object "java/lang/Object") (10 : Int32) [(.ref a4), (.ref a5), (.ref a6), .null, .null, .null, .null, .null, .null, .null] .null) :
    MetFree l (⟨"java/util/ArrayList", "elementData", "(I)Ljava/lang/Object;"⟩ : MethodName) (head1 (Jvm.Cond.code (⟨"java/util/ArrayList", "elementData", "(I)Ljava/lang/Object;"⟩ : MethodName) jdk_38_method_18_code 2 (some (.object "java/lang/Object")) :: ws) ({ frames := 0, cells := 0, slots := 0, locals := 0 } : Room)) (fun a U => a = #[(.ref a1), (.int (1 : Int32))] ∧ Z.Warmed39 U.vm ∧ U.heap = h0) (fun _ _ _ _ _ => True) (fun _ U o U' => ∃ v L, o = .returned v ∧ Q_rm22_5 Z a1 a2 kz3 a4 a5 a6 h0 n0 v U'.heap L ∧ FrameEnd U o U' L ({ frames := 0, cells := 0, slots := 0, locals := 0 } : Room).cells ({ frames := 0, cells := 0, slots := 0, locals := 0 } : Room).slots) := by
  refine MetFree.of_bodySF (plainFor_of_name pn_9) hisR ?_
  intro p e s m args below meth c s₁ Bd hml0 hP hK
  obtain ⟨rfl, hZ, hh⟩ := hP
  have hx := Bd.exec
  have hby := Bd.bytes
  have hml : c.maxLocals = 2 := hml0
  have hown : s.vm.findClass "java/util/ArrayList" = some m.cls := findClass_of_methodNamed Bd.named
  have hnm := (name_of_methodNamed Bd.named Bd.method).1
  have X0 : Stand p l e ({ frames := 0, cells := 0, slots := 0, locals := 0 } : Room) s m #[(.ref a1), (.int (1 : Int32))] below meth c s₁ [] 0 0 := Stand.of_body Bd
  have e0 : s₁.heap = h0 := by rw [← hh, Bd.state]; rfl
  have N0 := Fr.nil n0
  refine Go.start (P := (fun o U' => ∃ v L, o = .returned v ∧ Q_rm22_5 Z a1 a2 kz3 a4 a5 a6 h0 n0 v U'.heap L ∧ FrameEnd s o U' L ({ frames := 0, cells := 0, slots := 0, locals := 0 } : Room).cells ({ frames := 0, cells := 0, slots := 0, locals := 0 } : Room).slots)) (castTop (g' := (mkF m 0 #[.val (.ref a1), .val (.int (1 : Int32))] [])) (by first | rfl | simp [entryFrame, mkF, argsToLocals, Value.category]) (T := s₁)) ?_
  refine Go.st (fun t k => XS.aloadN X0.here hx rfl (hb hby d22_0) rfl rfl k) ?_
  show Go p e below _ (s₁.setTop (mkF m 1 #[.val (.ref a1), .val (.int (1 : Int32))] [(.ref a1)]))
  obtain ⟨T1, X1, e1, st1⟩ := getF X0 hx hZ hown (host := "") (Or.inl (w96 hw)) Via.refl e0 P1 (g := (mkF m 1 #[.val (.ref a1), .val (.int (1 : Int32))] [(.ref a1)])) rfl rfl (hb hby d22_1)
  refine Go.st st1 ?_
  show Go p e below _ (T1.setTop (mkF m 4 #[.val (.ref a1), .val (.int (1 : Int32))] [(.ref a2)]))
  refine Go.st (fun t k => XS.iloadN X1.here hx rfl (hb hby d22_4) rfl k) ?_
  show Go p e below _ (T1.setTop (mkF m 5 #[.val (.ref a1), .val (.int (1 : Int32))] [(.int (1 : Int32)), (.ref a2)]))
  obtain ⟨cl2, Ar2, q2, S2, M2, H2, G2⟩ := id P2
  have hin2 : ¬ ((1 : Int32) < 0 ∨ cl2.slots.size ≤ ((1 : Int32)).toNatClampNeg) := inb_of S2 ⟨by decide, by decide⟩
  have hat2 : cl2.slots[((1 : Int32)).toNatClampNeg]? = some (.ref a5) := H2.at hin2 rfl
  refine Go.st (fun t k => X1.aaload hx (j := (1 : Int32)) (v := (.ref a5)) (by rw [e1]; exact Ar2.1) (State.isArrayOf_alike hZ.alike Ar2.2.1) rfl Ar2.2.2 hin2 hat2 (g := (mkF m 5 #[.val (.ref a1), .val (.int (1 : Int32))] [(.int (1 : Int32)), (.ref a2)])) rfl rfl (hb hby d22_5) t k) ?_
  show Go p e below _ (T1.setTop (mkF m 6 #[.val (.ref a1), .val (.int (1 : Int32))] [(.ref a5)]))
  obtain ⟨fs, hr, hrun, hended, hWd, hsame⟩ := X1.leave (v := some (.ref a5)) (fun h => by rw [Bd.returns] at h; cases h)
  refine ⟨_, _, ?_, hrun, hended, _, _, rfl, ?_, ⟨⟨_, rfl⟩, hWd, hsame.mono (by decide) (by decide)⟩⟩
  · exact own_retA X1 hx Bd.returns rfl rfl (hb hby d22_6) hr
  · show Q_rm22_5 Z a1 a2 kz3 a4 a5 a6 h0 n0 _ T1.heap _
    rw [e1]
    exact ⟨rfl, N0, rfl⟩
def Q_rm19_5 (Z : State) (a1 : Addr) (a2 : Addr) (kz3 : ClassId) (a4 : Addr) (a5 : Addr) (a6 : Addr) (h0 : Heap) (n0 : Nat) (v : Option Value) (h : Heap) (L : List Loc) : Prop := v = some (.ref a5) ∧ Fr n0 L ∧ h = h0
set_option maxRecDepth 65536 in
set_option maxHeartbeats 40000000 in
theorem rm19_5 (l : Launch) (Z : State) (a0 : Array Value) (hw : ∀ d ∈ tables_1, d.before a0 Z = true) (ws : List Jvm.Cond) (a1 : Addr) (a2 : Addr) (kz3 : ClassId) (a4 : Addr) (a5 : Addr) (a6 : Addr) (h0 : Heap) (n0 : Nat) (O0 : Old Z n0 h0) (P1 : Fld Z h0 a1 "java/util/ArrayList" "size" "I" (.int (3 : Int32))) (P2 : Exa Z h0 a1 "java/util/ArrayList") (P3 : Fld Z h0 a1 "java/util/ArrayList" "elementData" "[Ljava/lang/Object;" (.ref a2)) (P4 : Arv Z h0 a2 kz3 (.object "java/lang/Object") (10 : Int32) [(.ref a4), (.ref a5), (.ref a6), .null, .null, .null, .null, .null, .null, .null] .null) :
    MetFree l (⟨"java/util/ArrayList", "get", "(I)Ljava/lang/Object;"⟩ : MethodName) (head1 (Jvm.Cond.code (⟨"java/util/ArrayList", "get", "(I)Ljava/lang/Object;"⟩ : MethodName) jdk_38_method_20_code 2 (some (.object "java/lang/Object")) :: ws) ({ frames := 2, cells := 0, slots := 0, locals := 27 } : Room)) (fun a U => a = #[(.ref a1), (.int (1 : Int32))] ∧ Z.Warmed39 U.vm ∧ U.heap = h0) (fun _ _ _ _ _ => True) (fun _ U o U' => ∃ v L, o = .returned v ∧ Q_rm19_5 Z a1 a2 kz3 a4 a5 a6 h0 n0 v U'.heap L ∧ FrameEnd U o U' L ({ frames := 2, cells := 0, slots := 0, locals := 27 } : Room).cells ({ frames := 2, cells := 0, slots := 0, locals := 27 } : Room).slots) := by
  refine MetFree.of_bodySF (plainFor_of_name pn_9) hisR ?_
  intro p e s m args below meth c s₁ Bd hml0 hP hK
  obtain ⟨rfl, hZ, hh⟩ := hP
  have hx := Bd.exec
  have hby := Bd.bytes
  have hml : c.maxLocals = 2 := hml0
  have hown : s.vm.findClass "java/util/ArrayList" = some m.cls := findClass_of_methodNamed Bd.named
  have hnm := (name_of_methodNamed Bd.named Bd.method).1
  have X0 : Stand p l e ({ frames := 2, cells := 0, slots := 0, locals := 27 } : Room) s m #[(.ref a1), (.int (1 : Int32))] below meth c s₁ [] 0 0 := Stand.of_body Bd
  have e0 : s₁.heap = h0 := by rw [← hh, Bd.state]; rfl
  have N0 := Fr.nil n0
  refine Go.start (P := (fun o U' => ∃ v L, o = .returned v ∧ Q_rm19_5 Z a1 a2 kz3 a4 a5 a6 h0 n0 v U'.heap L ∧ FrameEnd s o U' L ({ frames := 2, cells := 0, slots := 0, locals := 27 } : Room).cells ({ frames := 2, cells := 0, slots := 0, locals := 27 } : Room).slots)) (castTop (g' := (mkF m 0 #[.val (.ref a1), .val (.int (1 : Int32))] [])) (by first | rfl | simp [entryFrame, mkF, argsToLocals, Value.category]) (T := s₁)) ?_
  refine Go.st (fun t k => XS.iloadN X0.here hx rfl (hb hby d19_0) rfl k) ?_
  show Go p e below _ (s₁.setTop (mkF m 1 #[.val (.ref a1), .val (.int (1 : Int32))] [(.int (1 : Int32))]))
  refine Go.st (fun t k => XS.aloadN X0.here hx rfl (hb hby d19_1) rfl rfl k) ?_
  show Go p e below _ (s₁.setTop (mkF m 2 #[.val (.ref a1), .val (.int (1 : Int32))] [(.ref a1), (.int (1 : Int32))]))
  obtain ⟨T1, X1, e1, st1⟩ := getF X0 hx hZ hown (host := "") (Or.inl (w109 hw)) Via.refl e0 P1 (g := (mkF m 2 #[.val (.ref a1), .val (.int (1 : Int32))] [(.ref a1), (.int (1 : Int32))])) rfl rfl (hb hby d19_2)
  refine Go.st st1 ?_
  show Go p e below _ (T1.setTop (mkF m 5 #[.val (.ref a1), .val (.int (1 : Int32))] [(.int (3 : Int32)), (.int (1 : Int32))]))
  obtain ⟨_, _, ⟨T2, L2, k2, n2⟩, -, X2, ⟨Lc2, hQ2, l2, y2, z2⟩, st2⟩ := Jvm.LawKit.callS X1 hx (y := (⟨"java/util/Objects", "checkIndex", "(II)I"⟩ : MethodName)) hown (mvT hZ (w146 hw)) (mvT hZ (w147 hw)) (mvT hZ (w148 hw)) (mvT hZ (w149 hw)) (by decide) (backOf (W := 0) (rm20_5 l Z a0 hw []  h0 n0 O0 ) hZ (w149 hw) (w148 hw) (by decide) (by decide)) (g := (mkF m 5 #[.val (.ref a1), .val (.int (1 : Int32))] [(.int (3 : Int32)), (.int (1 : Int32))])) rfl (by rw [hml]; rfl) (argsL := [(.int (1 : Int32)), (.int (3 : Int32))]) (rest := []) (lenOf pd_14 rfl) rfl (by show 2 * 0 + _ ≤ _; exact Nat.le_of_eq rfl) (hb hby d19_5) (fun vm₁ hw₁ => ⟨rfl, e1, (by decide : 0 + 0 ≤ _), (by decide : 0 + 0 ≤ _)⟩)
  dsimp only [Pt.U, Pt.locs, Pt.cells, Pt.slots] at X2 l2 y2 z2 st2 hQ2
  subst l2 y2 z2
  obtain ⟨rfl, M2, eh2⟩ := hQ2
  have N2 := Fr.app N0 M2
  refine Go.st st2 ?_
  show Go p e below _ (T2.setTop (mkF m 8 #[.val (.ref a1), .val (.int (1 : Int32))] [(.int (1 : Int32))]))
  refine Go.st (fun t k => XS.pop X2.here hx rfl (hb hby d19_8) rfl rfl k) ?_
  show Go p e below _ (T2.setTop (mkF m 9 #[.val (.ref a1), .val (.int (1 : Int32))] []))
  refine Go.st (fun t k => XS.aloadN X2.here hx rfl (hb hby d19_9) rfl rfl k) ?_
  show Go p e below _ (T2.setTop (mkF m 10 #[.val (.ref a1), .val (.int (1 : Int32))] [(.ref a1)]))
  refine Go.st (fun t k => XS.iloadN X2.here hx rfl (hb hby d19_10) rfl k) ?_
  show Go p e below _ (T2.setTop (mkF m 11 #[.val (.ref a1), .val (.int (1 : Int32))] [(.int (1 : Int32)), (.ref a1)]))
  obtain ⟨cq3, kq3, q3a, q3b, q3c⟩ := isOf hZ eh2 P2
  obtain ⟨_, _, ⟨T3, L3, k3, n3⟩, -, X3, ⟨Lc3, hQ3, l3, y3, z3⟩, st3⟩ := X2.virtualBack hx (y := (⟨"java/util/ArrayList", "elementData", "(I)Ljava/lang/Object;"⟩ : MethodName)) (z := (⟨"java/util/ArrayList", "elementData", "(I)Ljava/lang/Object;"⟩ : MethodName)) hown (mvT hZ (w154 hw)) (mvT hZ (w155 hw)) (notFace_of_selects (args := #[]) (mvT hZ (w157 hw))) (mvT hZ (w157 hw)) (mvT hZ (w156 hw)) (by decide) (backOf (W := 0) (rm22_5 l Z a0 hw [] a1 a2 kz3 a4 a5 a6 h0 n0 O0 P3 P4) hZ (w158 hw) (w76 hw) (by decide) (by decide)) q3a q3c (g := (mkF m 11 #[.val (.ref a1), .val (.int (1 : Int32))] [(.int (1 : Int32)), (.ref a1)])) rfl (by rw [hml]; rfl) (Steps.refl _) (argsL := [(.int (1 : Int32))]) (rest := []) (lenOf pd_21 rfl) rfl (by show 2 * 0 + _ ≤ _; exact Nat.le_of_eq rfl) (hb hby d19_11) (fun vm₁ hw₁ => ⟨rfl, eh2, (by decide : 0 + 0 ≤ _), (by decide : 0 + 0 ≤ _)⟩)
  dsimp only [Pt.U, Pt.locs, Pt.cells, Pt.slots] at X3 l3 y3 z3 st3 hQ3
  subst l3 y3 z3
  obtain ⟨rfl, M3, eh3⟩ := hQ3
  have N3 := Fr.app N2 M3
  refine Go.tr st3 ?_
  show Go p e below _ (T3.setTop (mkF m 14 #[.val (.ref a1), .val (.int (1 : Int32))] [(.ref a5)]))
  obtain ⟨fs, hr, hrun, hended, hWd, hsame⟩ := X3.leave (v := some (.ref a5)) (fun h => by rw [Bd.returns] at h; cases h)
  refine ⟨_, _, ?_, hrun, hended, _, _, rfl, ?_, ⟨⟨_, rfl⟩, hWd, hsame.mono (by decide) (by decide)⟩⟩
  · exact own_retA X3 hx Bd.returns rfl rfl (hb hby d19_14) hr
  · show Q_rm19_5 Z a1 a2 kz3 a4 a5 a6 h0 n0 _ T3.heap _
    rw [eh3]
    exact ⟨rfl, N3, rfl⟩
def Q_rm21_6 (Z : State)  (h0 : Heap) (n0 : Nat) (v : Option Value) (h : Heap) (L : List Loc) : Prop := v = some (.int (2 : Int32)) ∧ Fr n0 L ∧ h = h0
set_option maxRecDepth 65536 in
set_option maxHeartbeats 40000000 in
theorem rm21_6 (l : Launch) (Z : State) (a0 : Array Value) (hw : ∀ d ∈ tables_1, d.before a0 Z = true) (ws : List Jvm.Cond)  (h0 : Heap) (n0 : Nat) (O0 : Old Z n0 h0) :
    MetFree l (⟨"jdk/internal/util/Preconditions", "checkIndex", "(IILjava/util/function/BiFunction;)I"⟩ : MethodName) (head1 (Jvm.Cond.code (⟨"jdk/internal/util/Preconditions", "checkIndex", "(IILjava/util/function/BiFunction;)I"⟩ : MethodName) jdk_41_method_11_code 3 (some .int) :: ws) ({ frames := 0, cells := 0, slots := 0, locals := 0 } : Room)) (fun a U => a = #[(.int (2 : Int32)), (.int (3 : Int32)), .null] ∧ Z.Warmed39 U.vm ∧ U.heap = h0) (fun _ _ _ _ _ => True) (fun _ U o U' => ∃ v L, o = .returned v ∧ Q_rm21_6 Z  h0 n0 v U'.heap L ∧ FrameEnd U o U' L ({ frames := 0, cells := 0, slots := 0, locals := 0 } : Room).cells ({ frames := 0, cells := 0, slots := 0, locals := 0 } : Room).slots) := by
  refine MetFree.of_bodySF (plainFor_of_name pn_10) hisR ?_
  intro p e s m args below meth c s₁ Bd hml0 hP hK
  obtain ⟨rfl, hZ, hh⟩ := hP
  have hx := Bd.exec
  have hby := Bd.bytes
  have hml : c.maxLocals = 3 := hml0
  have hown : s.vm.findClass "jdk/internal/util/Preconditions" = some m.cls := findClass_of_methodNamed Bd.named
  have hnm := (name_of_methodNamed Bd.named Bd.method).1
  have X0 : Stand p l e ({ frames := 0, cells := 0, slots := 0, locals := 0 } : Room) s m #[(.int (2 : Int32)), (.int (3 : Int32)), .null] below meth c s₁ [] 0 0 := Stand.of_body Bd
  have e0 : s₁.heap = h0 := by rw [← hh, Bd.state]; rfl
  have N0 := Fr.nil n0
  refine Go.start (P := (fun o U' => ∃ v L, o = .returned v ∧ Q_rm21_6 Z  h0 n0 v U'.heap L ∧ FrameEnd s o U' L ({ frames := 0, cells := 0, slots := 0, locals := 0 } : Room).cells ({ frames := 0, cells := 0, slots := 0, locals := 0 } : Room).slots)) (castTop (g' := (mkF m 0 #[.val (.int (2 : Int32)), .val (.int (3 : Int32)), .val .null] [])) (by first | rfl | simp [entryFrame, mkF, argsToLocals, Value.category]) (T := s₁)) ?_
  refine Go.st (fun t k => XS.iloadN X0.here hx rfl (hb hby d21_0) rfl k) ?_
  show Go p e below _ (s₁.setTop (mkF m 1 #[.val (.int (2 : Int32)), .val (.int (3 : Int32)), .val .null] [(.int (2 : Int32))]))
  refine Go.st (fun t k => XS.ifNo X0.here hx rfl (hb hby d21_1) rfl (Jvm.Free.XT.i0_lt_f (by decide : ¬ ((2 : Int32) < (0 : Int32)))) k) ?_
  show Go p e below _ (s₁.setTop (mkF m 4 #[.val (.int (2 : Int32)), .val (.int (3 : Int32)), .val .null] []))
  refine Go.st (fun t k => XS.iloadN X0.here hx rfl (hb hby d21_4) rfl k) ?_
  show Go p e below _ (s₁.setTop (mkF m 5 #[.val (.int (2 : Int32)), .val (.int (3 : Int32)), .val .null] [(.int (2 : Int32))]))
  refine Go.st (fun t k => XS.iloadN X0.here hx rfl (hb hby d21_5) rfl k) ?_
  show Go p e below _ (s₁.setTop (mkF m 6 #[.val (.int (2 : Int32)), .val (.int (3 : Int32)), .val .null] [(.int (3 : Int32)), (.int (2 : Int32))]))
  refine Go.st (fun t k => XS.icmpYes X0.here hx rfl (pc0 := 6) (pc' := 16) rfl (hb hby d21_6) rfl (Jvm.Free.XT.ii_lt_t (by decide : (2 : Int32) < (3 : Int32))) (by decide) (by decide) k) ?_
  show Go p e below _ (s₁.setTop (mkF m 16 #[.val (.int (2 : Int32)), .val (.int (3 : Int32)), .val .null] []))
  refine Go.st (fun t k => XS.iloadN X0.here hx rfl (hb hby d21_16) rfl k) ?_
  show Go p e below _ (s₁.setTop (mkF m 17 #[.val (.int (2 : Int32)), .val (.int (3 : Int32)), .val .null] [(.int (2 : Int32))]))
  obtain ⟨fs, hr, hrun, hended, hWd, hsame⟩ := X0.leave (v := some (.int (2 : Int32))) (fun h => by rw [Bd.returns] at h; cases h)
  refine ⟨_, _, ?_, hrun, hended, _, _, rfl, ?_, ⟨⟨_, rfl⟩, hWd, hsame.mono (by decide) (by decide)⟩⟩
  · exact retI X0 hx Bd.returns (hb hby d21_17) hr
  · show Q_rm21_6 Z  h0 n0 _ s₁.heap _
    rw [e0]
    exact ⟨rfl, N0, rfl⟩
def Q_rm20_6 (Z : State)  (h0 : Heap) (n0 : Nat) (v : Option Value) (h : Heap) (L : List Loc) : Prop := v = some (.int (2 : Int32)) ∧ Fr n0 L ∧ h = h0
set_option maxRecDepth 65536 in
set_option maxHeartbeats 40000000 in
theorem rm20_6 (l : Launch) (Z : State) (a0 : Array Value) (hw : ∀ d ∈ tables_1, d.before a0 Z = true) (ws : List Jvm.Cond)  (h0 : Heap) (n0 : Nat) (O0 : Old Z n0 h0) :
    MetFree l (⟨"java/util/Objects", "checkIndex", "(II)I"⟩ : MethodName) (head1 (Jvm.Cond.code (⟨"java/util/Objects", "checkIndex", "(II)I"⟩ : MethodName) jdk_31_method_17_code 2 (some .int) :: ws) ({ frames := 1, cells := 0, slots := 0, locals := 14 } : Room)) (fun a U => a = #[(.int (2 : Int32)), (.int (3 : Int32))] ∧ Z.Warmed39 U.vm ∧ U.heap = h0) (fun _ _ _ _ _ => True) (fun _ U o U' => ∃ v L, o = .returned v ∧ Q_rm20_6 Z  h0 n0 v U'.heap L ∧ FrameEnd U o U' L ({ frames := 1, cells := 0, slots := 0, locals := 14 } : Room).cells ({ frames := 1, cells := 0, slots := 0, locals := 14 } : Room).slots) := by
  refine MetFree.of_bodySF (plainFor_of_name pn_11) hisR ?_
  intro p e s m args below meth c s₁ Bd hml0 hP hK
  obtain ⟨rfl, hZ, hh⟩ := hP
  have hx := Bd.exec
  have hby := Bd.bytes
  have hml : c.maxLocals = 2 := hml0
  have hown : s.vm.findClass "java/util/Objects" = some m.cls := findClass_of_methodNamed Bd.named
  have hnm := (name_of_methodNamed Bd.named Bd.method).1
  have X0 : Stand p l e ({ frames := 1, cells := 0, slots := 0, locals := 14 } : Room) s m #[(.int (2 : Int32)), (.int (3 : Int32))] below meth c s₁ [] 0 0 := Stand.of_body Bd
  have e0 : s₁.heap = h0 := by rw [← hh, Bd.state]; rfl
  have N0 := Fr.nil n0
  refine Go.start (P := (fun o U' => ∃ v L, o = .returned v ∧ Q_rm20_6 Z  h0 n0 v U'.heap L ∧ FrameEnd s o U' L ({ frames := 1, cells := 0, slots := 0, locals := 14 } : Room).cells ({ frames := 1, cells := 0, slots := 0, locals := 14 } : Room).slots)) (castTop (g' := (mkF m 0 #[.val (.int (2 : Int32)), .val (.int (3 : Int32))] [])) (by first | rfl | simp [entryFrame, mkF, argsToLocals, Value.category]) (T := s₁)) ?_
  refine Go.st (fun t k => XS.iloadN X0.here hx rfl (hb hby d20_0) rfl k) ?_
  show Go p e below _ (s₁.setTop (mkF m 1 #[.val (.int (2 : Int32)), .val (.int (3 : Int32))] [(.int (2 : Int32))]))
  refine Go.st (fun t k => XS.iloadN X0.here hx rfl (hb hby d20_1) rfl k) ?_
  show Go p e below _ (s₁.setTop (mkF m 2 #[.val (.int (2 : Int32)), .val (.int (3 : Int32))] [(.int (3 : Int32)), (.int (2 : Int32))]))
  refine Go.st (fun t k => XS.aconstNull X0.here hx rfl (hb hby d20_2) k) ?_
  show Go p e below _ (s₁.setTop (mkF m 3 #[.val (.int (2 : Int32)), .val (.int (3 : Int32))] [.null, (.int (3 : Int32)), (.int (2 : Int32))]))
  obtain ⟨_, _, ⟨T1, L1, k1, n1⟩, -, X1, ⟨Lc1, hQ1, l1, y1, z1⟩, st1⟩ := Jvm.LawKit.callS X0 hx (y := (⟨"jdk/internal/util/Preconditions", "checkIndex", "(IILjava/util/function/BiFunction;)I"⟩ : MethodName)) hown (mvT hZ (w150 hw)) (mvT hZ (w151 hw)) (mvT hZ (w152 hw)) (mvT hZ (w153 hw)) (by decide) (backOf (W := 0) (rm21_6 l Z a0 hw []  h0 n0 O0 ) hZ (w153 hw) (w152 hw) (by decide) (by decide)) (g := (mkF m 3 #[.val (.int (2 : Int32)), .val (.int (3 : Int32))] [.null, (.int (3 : Int32)), (.int (2 : Int32))])) rfl (by rw [hml]; rfl) (argsL := [(.int (2 : Int32)), (.int (3 : Int32)), .null]) (rest := []) (lenOf pd_20 rfl) rfl (by show 2 * 0 + _ ≤ _; exact Nat.le_of_eq rfl) (hb hby d20_3) (fun vm₁ hw₁ => ⟨rfl, e0, (by decide : 0 + 0 ≤ _), (by decide : 0 + 0 ≤ _)⟩)
  dsimp only [Pt.U, Pt.locs, Pt.cells, Pt.slots] at X1 l1 y1 z1 st1 hQ1
  subst l1 y1 z1
  obtain ⟨rfl, M1, eh1⟩ := hQ1
  have N1 := Fr.app N0 M1
  refine Go.st st1 ?_
  show Go p e below _ (T1.setTop (mkF m 6 #[.val (.int (2 : Int32)), .val (.int (3 : Int32))] [(.int (2 : Int32))]))
  obtain ⟨fs, hr, hrun, hended, hWd, hsame⟩ := X1.leave (v := some (.int (2 : Int32))) (fun h => by rw [Bd.returns] at h; cases h)
  refine ⟨_, _, ?_, hrun, hended, _, _, rfl, ?_, ⟨⟨_, rfl⟩, hWd, hsame.mono (by decide) (by decide)⟩⟩
  · exact retI X1 hx Bd.returns (hb hby d20_6) hr
  · show Q_rm20_6 Z  h0 n0 _ T1.heap _
    rw [eh1]
    exact ⟨rfl, N1, rfl⟩
def Q_rm22_6 (Z : State) (a1 : Addr) (a2 : Addr) (kz3 : ClassId) (a4 : Addr) (a5 : Addr) (a6 : Addr) (h0 : Heap) (n0 : Nat) (v : Option Value) (h : Heap) (L : List Loc) : Prop := v = some (.ref a6) ∧ Fr n0 L ∧ h = h0
set_option maxRecDepth 65536 in
set_option maxHeartbeats 40000000 in
theorem rm22_6 (l : Launch) (Z : State) (a0 : Array Value) (hw : ∀ d ∈ tables_1, d.before a0 Z = true) (ws : List Jvm.Cond) (a1 : Addr) (a2 : Addr) (kz3 : ClassId) (a4 : Addr) (a5 : Addr) (a6 : Addr) (h0 : Heap) (n0 : Nat) (O0 : Old Z n0 h0) (P1 : Fld Z h0 a1 "java/util/ArrayList" "elementData" "[Ljava/lang/Object;" (.ref a2)) (P2 : Arv Z h0 a2 kz3 (.object "java/lang/Object") (10 : Int32) [(.ref a4), (.ref a5), (.ref a6), .null, .null, .null, .null, .null, .null, .null] .null) :
    MetFree l (⟨"java/util/ArrayList", "elementData", "(I)Ljava/lang/Object;"⟩ : MethodName) (head1 (Jvm.Cond.code (⟨"java/util/ArrayList", "elementData", "(I)Ljava/lang/Object;"⟩ : MethodName) jdk_38_method_18_code 2 (some (.object "java/lang/Object")) :: ws) ({ frames := 0, cells := 0, slots := 0, locals := 0 } : Room)) (fun a U => a = #[(.ref a1), (.int (2 : Int32))] ∧ Z.Warmed39 U.vm ∧ U.heap = h0) (fun _ _ _ _ _ => True) (fun _ U o U' => ∃ v L, o = .returned v ∧ Q_rm22_6 Z a1 a2 kz3 a4 a5 a6 h0 n0 v U'.heap L ∧ FrameEnd U o U' L ({ frames := 0, cells := 0, slots := 0, locals := 0 } : Room).cells ({ frames := 0, cells := 0, slots := 0, locals := 0 } : Room).slots) := by
  refine MetFree.of_bodySF (plainFor_of_name pn_9) hisR ?_
  intro p e s m args below meth c s₁ Bd hml0 hP hK
  obtain ⟨rfl, hZ, hh⟩ := hP
  have hx := Bd.exec
  have hby := Bd.bytes
  have hml : c.maxLocals = 2 := hml0
  have hown : s.vm.findClass "java/util/ArrayList" = some m.cls := findClass_of_methodNamed Bd.named
  have hnm := (name_of_methodNamed Bd.named Bd.method).1
  have X0 : Stand p l e ({ frames := 0, cells := 0, slots := 0, locals := 0 } : Room) s m #[(.ref a1), (.int (2 : Int32))] below meth c s₁ [] 0 0 := Stand.of_body Bd
  have e0 : s₁.heap = h0 := by rw [← hh, Bd.state]; rfl
  have N0 := Fr.nil n0
  refine Go.start (P := (fun o U' => ∃ v L, o = .returned v ∧ Q_rm22_6 Z a1 a2 kz3 a4 a5 a6 h0 n0 v U'.heap L ∧ FrameEnd s o U' L ({ frames := 0, cells := 0, slots := 0, locals := 0 } : Room).cells ({ frames := 0, cells := 0, slots := 0, locals := 0 } : Room).slots)) (castTop (g' := (mkF m 0 #[.val (.ref a1), .val (.int (2 : Int32))] [])) (by first | rfl | simp [entryFrame, mkF, argsToLocals, Value.category]) (T := s₁)) ?_
  refine Go.st (fun t k => XS.aloadN X0.here hx rfl (hb hby d22_0) rfl rfl k) ?_
  show Go p e below _ (s₁.setTop (mkF m 1 #[.val (.ref a1), .val (.int (2 : Int32))] [(.ref a1)]))
  obtain ⟨T1, X1, e1, st1⟩ := getF X0 hx hZ hown (host := "") (Or.inl (w96 hw)) Via.refl e0 P1 (g := (mkF m 1 #[.val (.ref a1), .val (.int (2 : Int32))] [(.ref a1)])) rfl rfl (hb hby d22_1)
  refine Go.st st1 ?_
  show Go p e below _ (T1.setTop (mkF m 4 #[.val (.ref a1), .val (.int (2 : Int32))] [(.ref a2)]))
  refine Go.st (fun t k => XS.iloadN X1.here hx rfl (hb hby d22_4) rfl k) ?_
  show Go p e below _ (T1.setTop (mkF m 5 #[.val (.ref a1), .val (.int (2 : Int32))] [(.int (2 : Int32)), (.ref a2)]))
  obtain ⟨cl2, Ar2, q2, S2, M2, H2, G2⟩ := id P2
  have hin2 : ¬ ((2 : Int32) < 0 ∨ cl2.slots.size ≤ ((2 : Int32)).toNatClampNeg) := inb_of S2 ⟨by decide, by decide⟩
  have hat2 : cl2.slots[((2 : Int32)).toNatClampNeg]? = some (.ref a6) := H2.at hin2 rfl
  refine Go.st (fun t k => X1.aaload hx (j := (2 : Int32)) (v := (.ref a6)) (by rw [e1]; exact Ar2.1) (State.isArrayOf_alike hZ.alike Ar2.2.1) rfl Ar2.2.2 hin2 hat2 (g := (mkF m 5 #[.val (.ref a1), .val (.int (2 : Int32))] [(.int (2 : Int32)), (.ref a2)])) rfl rfl (hb hby d22_5) t k) ?_
  show Go p e below _ (T1.setTop (mkF m 6 #[.val (.ref a1), .val (.int (2 : Int32))] [(.ref a6)]))
  obtain ⟨fs, hr, hrun, hended, hWd, hsame⟩ := X1.leave (v := some (.ref a6)) (fun h => by rw [Bd.returns] at h; cases h)
  refine ⟨_, _, ?_, hrun, hended, _, _, rfl, ?_, ⟨⟨_, rfl⟩, hWd, hsame.mono (by decide) (by decide)⟩⟩
  · exact own_retA X1 hx Bd.returns rfl rfl (hb hby d22_6) hr
  · show Q_rm22_6 Z a1 a2 kz3 a4 a5 a6 h0 n0 _ T1.heap _
    rw [e1]
    exact ⟨rfl, N0, rfl⟩
def Q_rm19_6 (Z : State) (a1 : Addr) (a2 : Addr) (kz3 : ClassId) (a4 : Addr) (a5 : Addr) (a6 : Addr) (h0 : Heap) (n0 : Nat) (v : Option Value) (h : Heap) (L : List Loc) : Prop := v = some (.ref a6) ∧ Fr n0 L ∧ h = h0
set_option maxRecDepth 65536 in
set_option maxHeartbeats 40000000 in
theorem rm19_6 (l : Launch) (Z : State) (a0 : Array Value) (hw : ∀ d ∈ tables_1, d.before a0 Z = true) (ws : List Jvm.Cond) (a1 : Addr) (a2 : Addr) (kz3 : ClassId) (a4 : Addr) (a5 : Addr) (a6 : Addr) (h0 : Heap) (n0 : Nat) (O0 : Old Z n0 h0) (P1 : Fld Z h0 a1 "java/util/ArrayList" "size" "I" (.int (3 : Int32))) (P2 : Exa Z h0 a1 "java/util/ArrayList") (P3 : Fld Z h0 a1 "java/util/ArrayList" "elementData" "[Ljava/lang/Object;" (.ref a2)) (P4 : Arv Z h0 a2 kz3 (.object "java/lang/Object") (10 : Int32) [(.ref a4), (.ref a5), (.ref a6), .null, .null, .null, .null, .null, .null, .null] .null) :
    MetFree l (⟨"java/util/ArrayList", "get", "(I)Ljava/lang/Object;"⟩ : MethodName) (head1 (Jvm.Cond.code (⟨"java/util/ArrayList", "get", "(I)Ljava/lang/Object;"⟩ : MethodName) jdk_38_method_20_code 2 (some (.object "java/lang/Object")) :: ws) ({ frames := 2, cells := 0, slots := 0, locals := 27 } : Room)) (fun a U => a = #[(.ref a1), (.int (2 : Int32))] ∧ Z.Warmed39 U.vm ∧ U.heap = h0) (fun _ _ _ _ _ => True) (fun _ U o U' => ∃ v L, o = .returned v ∧ Q_rm19_6 Z a1 a2 kz3 a4 a5 a6 h0 n0 v U'.heap L ∧ FrameEnd U o U' L ({ frames := 2, cells := 0, slots := 0, locals := 27 } : Room).cells ({ frames := 2, cells := 0, slots := 0, locals := 27 } : Room).slots) := by
  refine MetFree.of_bodySF (plainFor_of_name pn_9) hisR ?_
  intro p e s m args below meth c s₁ Bd hml0 hP hK
  obtain ⟨rfl, hZ, hh⟩ := hP
  have hx := Bd.exec
  have hby := Bd.bytes
  have hml : c.maxLocals = 2 := hml0
  have hown : s.vm.findClass "java/util/ArrayList" = some m.cls := findClass_of_methodNamed Bd.named
  have hnm := (name_of_methodNamed Bd.named Bd.method).1
  have X0 : Stand p l e ({ frames := 2, cells := 0, slots := 0, locals := 27 } : Room) s m #[(.ref a1), (.int (2 : Int32))] below meth c s₁ [] 0 0 := Stand.of_body Bd
  have e0 : s₁.heap = h0 := by rw [← hh, Bd.state]; rfl
  have N0 := Fr.nil n0
  refine Go.start (P := (fun o U' => ∃ v L, o = .returned v ∧ Q_rm19_6 Z a1 a2 kz3 a4 a5 a6 h0 n0 v U'.heap L ∧ FrameEnd s o U' L ({ frames := 2, cells := 0, slots := 0, locals := 27 } : Room).cells ({ frames := 2, cells := 0, slots := 0, locals := 27 } : Room).slots)) (castTop (g' := (mkF m 0 #[.val (.ref a1), .val (.int (2 : Int32))] [])) (by first | rfl | simp [entryFrame, mkF, argsToLocals, Value.category]) (T := s₁)) ?_
  refine Go.st (fun t k => XS.iloadN X0.here hx rfl (hb hby d19_0) rfl k) ?_
  show Go p e below _ (s₁.setTop (mkF m 1 #[.val (.ref a1), .val (.int (2 : Int32))] [(.int (2 : Int32))]))
  refine Go.st (fun t k => XS.aloadN X0.here hx rfl (hb hby d19_1) rfl rfl k) ?_
  show Go p e below _ (s₁.setTop (mkF m 2 #[.val (.ref a1), .val (.int (2 : Int32))] [(.ref a1), (.int (2 : Int32))]))
  obtain ⟨T1, X1, e1, st1⟩ := getF X0 hx hZ hown (host := "") (Or.inl (w109 hw)) Via.refl e0 P1 (g := (mkF m 2 #[.val (.ref a1), .val (.int (2 : Int32))] [(.ref a1), (.int (2 : Int32))])) rfl rfl (hb hby d19_2)
  refine Go.st st1 ?_
  show Go p e below _ (T1.setTop (mkF m 5 #[.val (.ref a1), .val (.int (2 : Int32))] [(.int (3 : Int32)), (.int (2 : Int32))]))
  obtain ⟨_, _, ⟨T2, L2, k2, n2⟩, -, X2, ⟨Lc2, hQ2, l2, y2, z2⟩, st2⟩ := Jvm.LawKit.callS X1 hx (y := (⟨"java/util/Objects", "checkIndex", "(II)I"⟩ : MethodName)) hown (mvT hZ (w146 hw)) (mvT hZ (w147 hw)) (mvT hZ (w148 hw)) (mvT hZ (w149 hw)) (by decide) (backOf (W := 0) (rm20_6 l Z a0 hw []  h0 n0 O0 ) hZ (w149 hw) (w148 hw) (by decide) (by decide)) (g := (mkF m 5 #[.val (.ref a1), .val (.int (2 : Int32))] [(.int (3 : Int32)), (.int (2 : Int32))])) rfl (by rw [hml]; rfl) (argsL := [(.int (2 : Int32)), (.int (3 : Int32))]) (rest := []) (lenOf pd_14 rfl) rfl (by show 2 * 0 + _ ≤ _; exact Nat.le_of_eq rfl) (hb hby d19_5) (fun vm₁ hw₁ => ⟨rfl, e1, (by decide : 0 + 0 ≤ _), (by decide : 0 + 0 ≤ _)⟩)
  dsimp only [Pt.U, Pt.locs, Pt.cells, Pt.slots] at X2 l2 y2 z2 st2 hQ2
  subst l2 y2 z2
  obtain ⟨rfl, M2, eh2⟩ := hQ2
  have N2 := Fr.app N0 M2
  refine Go.st st2 ?_
  show Go p e below _ (T2.setTop (mkF m 8 #[.val (.ref a1), .val (.int (2 : Int32))] [(.int (2 : Int32))]))
  refine Go.st (fun t k => XS.pop X2.here hx rfl (hb hby d19_8) rfl rfl k) ?_
  show Go p e below _ (T2.setTop (mkF m 9 #[.val (.ref a1), .val (.int (2 : Int32))] []))
  refine Go.st (fun t k => XS.aloadN X2.here hx rfl (hb hby d19_9) rfl rfl k) ?_
  show Go p e below _ (T2.setTop (mkF m 10 #[.val (.ref a1), .val (.int (2 : Int32))] [(.ref a1)]))
  refine Go.st (fun t k => XS.iloadN X2.here hx rfl (hb hby d19_10) rfl k) ?_
  show Go p e below _ (T2.setTop (mkF m 11 #[.val (.ref a1), .val (.int (2 : Int32))] [(.int (2 : Int32)), (.ref a1)]))
  obtain ⟨cq3, kq3, q3a, q3b, q3c⟩ := isOf hZ eh2 P2
  obtain ⟨_, _, ⟨T3, L3, k3, n3⟩, -, X3, ⟨Lc3, hQ3, l3, y3, z3⟩, st3⟩ := X2.virtualBack hx (y := (⟨"java/util/ArrayList", "elementData", "(I)Ljava/lang/Object;"⟩ : MethodName)) (z := (⟨"java/util/ArrayList", "elementData", "(I)Ljava/lang/Object;"⟩ : MethodName)) hown (mvT hZ (w154 hw)) (mvT hZ (w155 hw)) (notFace_of_selects (args := #[]) (mvT hZ (w157 hw))) (mvT hZ (w157 hw)) (mvT hZ (w156 hw)) (by decide) (backOf (W := 0) (rm22_6 l Z a0 hw [] a1 a2 kz3 a4 a5 a6 h0 n0 O0 P3 P4) hZ (w158 hw) (w76 hw) (by decide) (by decide)) q3a q3c (g := (mkF m 11 #[.val (.ref a1), .val (.int (2 : Int32))] [(.int (2 : Int32)), (.ref a1)])) rfl (by rw [hml]; rfl) (Steps.refl _) (argsL := [(.int (2 : Int32))]) (rest := []) (lenOf pd_21 rfl) rfl (by show 2 * 0 + _ ≤ _; exact Nat.le_of_eq rfl) (hb hby d19_11) (fun vm₁ hw₁ => ⟨rfl, eh2, (by decide : 0 + 0 ≤ _), (by decide : 0 + 0 ≤ _)⟩)
  dsimp only [Pt.U, Pt.locs, Pt.cells, Pt.slots] at X3 l3 y3 z3 st3 hQ3
  subst l3 y3 z3
  obtain ⟨rfl, M3, eh3⟩ := hQ3
  have N3 := Fr.app N2 M3
  refine Go.tr st3 ?_
  show Go p e below _ (T3.setTop (mkF m 14 #[.val (.ref a1), .val (.int (2 : Int32))] [(.ref a6)]))
  obtain ⟨fs, hr, hrun, hended, hWd, hsame⟩ := X3.leave (v := some (.ref a6)) (fun h => by rw [Bd.returns] at h; cases h)
  refine ⟨_, _, ?_, hrun, hended, _, _, rfl, ?_, ⟨⟨_, rfl⟩, hWd, hsame.mono (by decide) (by decide)⟩⟩
  · exact own_retA X3 hx Bd.returns rfl rfl (hb hby d19_14) hr
  · show Q_rm19_6 Z a1 a2 kz3 a4 a5 a6 h0 n0 _ T3.heap _
    rw [eh3]
    exact ⟨rfl, N3, rfl⟩
def Q_rm0 (n0 : Nat) (v : Option Value) (L : List Loc) : Prop := v = some (.int (1 : Int32)) ∧ Fr n0 L
set_option maxRecDepth 65536 in
set_option maxHeartbeats 400000000 in
theorem rm0 (l : Launch) (Z : State) (a0 : Array Value) (hw : ∀ d ∈ tables_1, d.before a0 Z = true) (ws : List Jvm.Cond) (i0 : Int32) (i1 : Int32) (i2 : Int32) (i3 : Int32) (i4 : Int32) (w1a : Addr) (w5a : Addr) (w15a : Addr) (w20i : Int32) (k8c : ClassId) (k18c : ClassId) (h0 : Heap) (n0 : Nat) (O0 : Old Z n0 h0) (Y3 : Sta Z Z.heap "java/util/ImmutableCollections" "EMPTY_LIST" "Ljava/util/ImmutableCollections$ListN;" (.ref w1a)) (Y4 : Exa Z Z.heap w1a "java/util/ImmutableCollections$ListN") (Y7 : Fld Z Z.heap w1a "java/util/ImmutableCollections$ListN" "elements" "[Ljava/lang/Object;" (.ref w5a)) (Y17 : Sta Z Z.heap "java/util/ArrayList" "DEFAULTCAPACITY_EMPTY_ELEMENTDATA" "[Ljava/lang/Object;" (.ref w15a)) (Y22 : Sta Z Z.heap "java/lang/String" "COMPACT_STRINGS" "Z" (.int w20i)) (Y25 : ¬ (w20i = (0 : Int32))) (Y30 : Arv Z Z.heap w5a k8c (.object "java/lang/Object") (0 : Int32) [] .null) (Y32 : Arv Z Z.heap w15a k18c (.object "java/lang/Object") (0 : Int32) [] .null) (HH_0 : Jvm.Lit.constHeld Z "java/lang/String" 7) (HC : Jvm.Lit.compactW.before a0 Z = true) :
    MetFree l x (head1 (Jvm.Cond.code x code maxLocals ret :: ws) room_1) (fun a U => a = #[(.int i0), (.int i1), (.int i2), (.int i3), (.int i4)] ∧ Z.Warmed39 U.vm ∧ U.heap = h0 ∧ U.vm = Z.vm) (fun _ _ _ _ _ => True) (fun _ U o U' => ∃ v L, o = .returned v ∧ Q_rm0 n0 v L ∧ ReturnedEndW U o U' L room_1.cells room_1.slots) := by
  refine MetFree.of_bodySF (plainFor_of_name pn_3) hisR ?_
  intro p e s m args below meth c s₁ Bd hml0 hP hK
  obtain ⟨rfl, hZ, hh, hvm⟩ := hP
  have hx := Bd.exec
  have hby := Bd.bytes
  have hml : c.maxLocals = 14 := hml0
  have hown : s.vm.findClass "com/example/cropmark/cropmark/RowProblemsPinLaw" = some m.cls := findClass_of_methodNamed Bd.named
  have hnm := (name_of_methodNamed Bd.named Bd.method).1
  have X0 : Stand p l e room_1 s m #[(.int i0), (.int i1), (.int i2), (.int i3), (.int i4)] below meth c s₁ [] 0 0 := Stand.of_body Bd
  have e0 : s₁.heap = h0 := by rw [← hh, Bd.state]; rfl
  have N0 := Fr.nil n0
  have I0 : IB Z s.vm [] := by rw [hvm]; exact IB.start
  refine Go.start (P := (fun o U' => ∃ v L, o = .returned v ∧ Q_rm0 n0 v L ∧ ReturnedEndW s o U' L room_1.cells room_1.slots)) (castTop (g' := (mkF m 0 #[.val (.int i0), .val (.int i1), .val (.int i2), .val (.int i3), .val (.int i4), .unset, .unset, .unset, .unset, .unset, .unset, .unset, .unset, .unset] [])) (by first | rfl | simp [entryFrame, mkF, argsToLocals, Value.category, maxLocals]) (T := s₁)) ?_
  refine Go.st (fun t k => XS.iloadN X0.here hx rfl (hb hby at_0) rfl k) ?_
  show Go p e below _ (s₁.setTop (mkF m 1 #[.val (.int i0), .val (.int i1), .val (.int i2), .val (.int i3), .val (.int i4), .unset, .unset, .unset, .unset, .unset, .unset, .unset, .unset, .unset] [(.int i1)]))
  obtain ⟨_, _, ⟨T1, L1, k1, n1⟩, -, X1, hS1, hg1, ⟨Lc1, hQ1, l1, y1, z1⟩, st1⟩ := Jvm.RoadKit.callSS X0 hx (y := (⟨"com/example/cropmark/cropmark/RowProblemsPinLaw", "reason", "(I)Ljava/lang/String;"⟩ : MethodName)) hown (mvT hZ (w0 hw)) (mvT hZ (w1 hw)) (mvT hZ (w2 hw)) (mvT hZ (w3 hw)) (by decide) (own_backOfV (VP := fun vm => own_LT Z h0 vm) (Q := Q_rmS Z i1 w20i h0 n0) (rm := ({ frames := 4, cells := 4, slots := 8, locals := 66 } : Room)) (W := 0) (rmS l Z a0 hw [] i1 w20i h0 n0 O0 HH_0 HC Y22 Y25) hZ (w3 hw) (w2 hw) (by decide) (by decide)) (g := (mkF m 1 #[.val (.int i0), .val (.int i1), .val (.int i2), .val (.int i3), .val (.int i4), .unset, .unset, .unset, .unset, .unset, .unset, .unset, .unset, .unset] [(.int i1)])) rfl (by rw [hml]; rfl) (argsL := [(.int i1)]) (rest := []) (lenOf pd_9 rfl) rfl (by show 2 * 0 + _ ≤ _; exact Nat.le_of_eq rfl) (hb hby at_1) (fun vm₁ hw₁ => ⟨rfl, e0, (own_ltW (Or.inl I0) hw₁), (by decide : 0 + 4 ≤ _), (by decide : 0 + 8 ≤ _)⟩)
  dsimp only [Pt.U, Pt.locs, Pt.cells, Pt.slots] at X1 l1 y1 z1 st1 hQ1 hS1 hg1
  subst l1 y1 z1
  have hZ : Z.Warmed39 (s.setVm T1.vm).vm := State.Warmed39.trans (t := s) hZ hS1.1
  have hown : (s.setVm T1.vm).vm.findClass "com/example/cropmark/cropmark/RowProblemsPinLaw" = some m.cls := by rw [show (s.setVm T1.vm).vm = T1.vm from rfl, hS1.1.alike.findClass]; exact hown
  have hS10 := hS1.1
  obtain ⟨bs_1, rfl, M1, K1c, r1_0, vq1_0⟩ := hQ1
  have N1 := Fr.app N0 M1
  have O1 : Old Z n0 T1.heap := O0.keep K1c all0
  refine Go.tr st1 ?_
  show Go p e below _ (T1.setTop (mkF m 4 #[.val (.int i0), .val (.int i1), .val (.int i2), .val (.int i3), .val (.int i4), .unset, .unset, .unset, .unset, .unset, .unset, .unset, .unset, .unset] [(.ref bs_1)]))
  refine Go.st (fun t k => XS.astore X1.here hx rfl (hb hby at_4) rfl rfl (l' := #[.val (.int i0), .val (.int i1), .val (.int i2), .val (.int i3), .val (.int i4), .val (.ref bs_1), .unset, .unset, .unset, .unset, .unset, .unset, .unset, .unset]) rfl k) ?_
  show Go p e below _ (T1.setTop (mkF m 6 #[.val (.int i0), .val (.int i1), .val (.int i2), .val (.int i3), .val (.int i4), .val (.ref bs_1), .unset, .unset, .unset, .unset, .unset, .unset, .unset, .unset] []))
  refine Go.st (fun t k => XS.iloadN X1.here hx rfl (hb hby at_6) rfl k) ?_
  show Go p e below _ (T1.setTop (mkF m 7 #[.val (.int i0), .val (.int i1), .val (.int i2), .val (.int i3), .val (.int i4), .val (.ref bs_1), .unset, .unset, .unset, .unset, .unset, .unset, .unset, .unset] [(.int i2)]))
  obtain ⟨_, _, ⟨T2, L2, k2, n2⟩, -, X2, hS2, hg2, ⟨Lc2, hQ2, l2, y2, z2⟩, st2⟩ := Jvm.RoadKit.callSS X1 hx (y := (⟨"com/example/cropmark/cropmark/RowProblemsPinLaw", "reason", "(I)Ljava/lang/String;"⟩ : MethodName)) hown (mvT hZ (w0 hw)) (mvT hZ (w1 hw)) (mvT hZ (w2 hw)) (mvT hZ (w3 hw)) (by decide) (own_backOfV (VP := fun vm => own_LT Z T1.heap vm) (Q := Q_rmS Z i2 w20i T1.heap n0) (rm := ({ frames := 4, cells := 4, slots := 8, locals := 66 } : Room)) (W := 0) (rmS l Z a0 hw [] i2 w20i T1.heap n0 O1 HH_0 HC Y22 Y25) hZ (w3 hw) (w2 hw) (by decide) (by decide)) (g := (mkF m 7 #[.val (.int i0), .val (.int i1), .val (.int i2), .val (.int i3), .val (.int i4), .val (.ref bs_1), .unset, .unset, .unset, .unset, .unset, .unset, .unset, .unset] [(.int i2)])) rfl (by rw [hml]; rfl) (argsL := [(.int i2)]) (rest := []) (lenOf pd_9 rfl) rfl (by show 2 * 0 + _ ≤ _; exact Nat.le_of_eq rfl) (hb hby at_7) (fun vm₁ hw₁ => ⟨rfl, rfl, (own_ltW vq1_0 hw₁), (by decide : 4 + 4 ≤ _), (by decide : 8 + 8 ≤ _)⟩)
  dsimp only [Pt.U, Pt.locs, Pt.cells, Pt.slots] at X2 l2 y2 z2 st2 hQ2 hS2 hg2
  subst l2 y2 z2
  have hg2' : T1.heap.size ≤ T2.heap.size := hg2
  have hZ : Z.Warmed39 (s.setVm T2.vm).vm := State.Warmed39.trans (t := (s.setVm T1.vm)) hZ hS2.1
  have hown : (s.setVm T2.vm).vm.findClass "com/example/cropmark/cropmark/RowProblemsPinLaw" = some m.cls := by rw [show (s.setVm T2.vm).vm = T2.vm from rfl, hS2.1.alike.findClass]; exact hown
  have hS20 := hS2.1
  obtain ⟨X2, hS2⟩ := Jvm.Stand.againW X2 hS1 hS2 (Nat.le_trans (Nat.le_refl _) hg2')
  obtain ⟨bs_2, rfl, M2, K2c, r2_0, vq2_0⟩ := hQ2
  have N2 := Fr.app N1 M2
  have O2 : Old Z n0 T2.heap := O1.keep K2c all0
  refine Go.tr st2 ?_
  show Go p e below _ (T2.setTop (mkF m 10 #[.val (.int i0), .val (.int i1), .val (.int i2), .val (.int i3), .val (.int i4), .val (.ref bs_1), .unset, .unset, .unset, .unset, .unset, .unset, .unset, .unset] [(.ref bs_2)]))
  refine Go.st (fun t k => XS.astore X2.here hx rfl (hb hby at_10) rfl rfl (l' := #[.val (.int i0), .val (.int i1), .val (.int i2), .val (.int i3), .val (.int i4), .val (.ref bs_1), .val (.ref bs_2), .unset, .unset, .unset, .unset, .unset, .unset, .unset]) rfl k) ?_
  show Go p e below _ (T2.setTop (mkF m 12 #[.val (.int i0), .val (.int i1), .val (.int i2), .val (.int i3), .val (.int i4), .val (.ref bs_1), .val (.ref bs_2), .unset, .unset, .unset, .unset, .unset, .unset, .unset] []))
  refine Go.st (fun t k => XS.iloadN X2.here hx rfl (hb hby at_12) rfl k) ?_
  show Go p e below _ (T2.setTop (mkF m 13 #[.val (.int i0), .val (.int i1), .val (.int i2), .val (.int i3), .val (.int i4), .val (.ref bs_1), .val (.ref bs_2), .unset, .unset, .unset, .unset, .unset, .unset, .unset] [(.int i3)]))
  obtain ⟨_, _, ⟨T3, L3, k3, n3⟩, -, X3, hS3, hg3, ⟨Lc3, hQ3, l3, y3, z3⟩, st3⟩ := Jvm.RoadKit.callSS X2 hx (y := (⟨"com/example/cropmark/cropmark/RowProblemsPinLaw", "reason", "(I)Ljava/lang/String;"⟩ : MethodName)) hown (mvT hZ (w0 hw)) (mvT hZ (w1 hw)) (mvT hZ (w2 hw)) (mvT hZ (w3 hw)) (by decide) (own_backOfV (VP := fun vm => own_LT Z T2.heap vm) (Q := Q_rmS Z i3 w20i T2.heap n0) (rm := ({ frames := 4, cells := 4, slots := 8, locals := 66 } : Room)) (W := 0) (rmS l Z a0 hw [] i3 w20i T2.heap n0 O2 HH_0 HC Y22 Y25) hZ (w3 hw) (w2 hw) (by decide) (by decide)) (g := (mkF m 13 #[.val (.int i0), .val (.int i1), .val (.int i2), .val (.int i3), .val (.int i4), .val (.ref bs_1), .val (.ref bs_2), .unset, .unset, .unset, .unset, .unset, .unset, .unset] [(.int i3)])) rfl (by rw [hml]; rfl) (argsL := [(.int i3)]) (rest := []) (lenOf pd_9 rfl) rfl (by show 2 * 0 + _ ≤ _; exact Nat.le_of_eq rfl) (hb hby at_13) (fun vm₁ hw₁ => ⟨rfl, rfl, (own_ltW vq2_0 hw₁), (by decide : 8 + 4 ≤ _), (by decide : 16 + 8 ≤ _)⟩)
  dsimp only [Pt.U, Pt.locs, Pt.cells, Pt.slots] at X3 l3 y3 z3 st3 hQ3 hS3 hg3
  subst l3 y3 z3
  have hg3' : T2.heap.size ≤ T3.heap.size := hg3
  have hZ : Z.Warmed39 (s.setVm T3.vm).vm := State.Warmed39.trans (t := (s.setVm T2.vm)) hZ hS3.1
  have hown : (s.setVm T3.vm).vm.findClass "com/example/cropmark/cropmark/RowProblemsPinLaw" = some m.cls := by rw [show (s.setVm T3.vm).vm = T3.vm from rfl, hS3.1.alike.findClass]; exact hown
  have hS30 := hS3.1
  obtain ⟨X3, hS3⟩ := Jvm.Stand.againW X3 hS2 hS3 (Nat.le_trans (Nat.le_refl _) hg3')
  obtain ⟨bs_3, rfl, M3, K3c, r3_0, vq3_0⟩ := hQ3
  have N3 := Fr.app N2 M3
  have O3 : Old Z n0 T3.heap := O2.keep K3c all0
  refine Go.tr st3 ?_
  show Go p e below _ (T3.setTop (mkF m 16 #[.val (.int i0), .val (.int i1), .val (.int i2), .val (.int i3), .val (.int i4), .val (.ref bs_1), .val (.ref bs_2), .unset, .unset, .unset, .unset, .unset, .unset, .unset] [(.ref bs_3)]))
  refine Go.st (fun t k => XS.astore X3.here hx rfl (hb hby at_16) rfl rfl (l' := #[.val (.int i0), .val (.int i1), .val (.int i2), .val (.int i3), .val (.int i4), .val (.ref bs_1), .val (.ref bs_2), .val (.ref bs_3), .unset, .unset, .unset, .unset, .unset, .unset]) rfl k) ?_
  show Go p e below _ (T3.setTop (mkF m 18 #[.val (.int i0), .val (.int i1), .val (.int i2), .val (.int i3), .val (.int i4), .val (.ref bs_1), .val (.ref bs_2), .val (.ref bs_3), .unset, .unset, .unset, .unset, .unset, .unset] []))
  refine Go.st (fun t k => XS.iloadN X3.here hx rfl (hb hby at_18) rfl k) ?_
  show Go p e below _ (T3.setTop (mkF m 19 #[.val (.int i0), .val (.int i1), .val (.int i2), .val (.int i3), .val (.int i4), .val (.ref bs_1), .val (.ref bs_2), .val (.ref bs_3), .unset, .unset, .unset, .unset, .unset, .unset] [(.int i0)]))
  refine Go.st (fun t k => XS.iconst X3.here hx rfl (hb hby at_19) k) ?_
  show Go p e below _ (T3.setTop (mkF m 20 #[.val (.int i0), .val (.int i1), .val (.int i2), .val (.int i3), .val (.int i4), .val (.ref bs_1), .val (.ref bs_2), .val (.ref bs_3), .unset, .unset, .unset, .unset, .unset, .unset] [(.int (3 : Int32)), (.int i0)]))
  refine Go.st (fun t k => XS.iand X3.here hx rfl (hb hby at_20) rfl k) ?_
  show Go p e below _ (T3.setTop (mkF m 21 #[.val (.int i0), .val (.int i1), .val (.int i2), .val (.int i3), .val (.int i4), .val (.ref bs_1), .val (.ref bs_2), .val (.ref bs_3), .unset, .unset, .unset, .unset, .unset, .unset] [(.int (i0 &&& (3 : Int32)))]))
  refine Go.st (fun t k => XS.istore X3.here hx rfl (hb hby at_21) rfl (l' := #[.val (.int i0), .val (.int i1), .val (.int i2), .val (.int i3), .val (.int i4), .val (.ref bs_1), .val (.ref bs_2), .val (.ref bs_3), .val (.int (i0 &&& (3 : Int32))), .unset, .unset, .unset, .unset, .unset]) rfl k) ?_
  show Go p e below _ (T3.setTop (mkF m 23 #[.val (.int i0), .val (.int i1), .val (.int i2), .val (.int i3), .val (.int i4), .val (.ref bs_1), .val (.ref bs_2), .val (.ref bs_3), .val (.int (i0 &&& (3 : Int32))), .unset, .unset, .unset, .unset, .unset] []))
  obtain ⟨T4, h4, X4, e4, E4, A4, D4, -, st4⟩ := newO X3 hx hZ hown (w26 hw) (w27 hw) (w28 hw) rfl (g := (mkF m 23 #[.val (.int i0), .val (.int i1), .val (.int i2), .val (.int i3), .val (.int i4), .val (.ref bs_1), .val (.ref bs_2), .val (.ref bs_3), .val (.int (i0 &&& (3 : Int32))), .unset, .unset, .unset, .unset, .unset] [])) rfl (hb hby at_23) (by decide) (by decide)
  obtain ⟨b4, z4⟩ : ∃ z, z = T3.heap.size := ⟨_, rfl⟩
  rw [← z4] at A4 D4 st4
  have g_b4 : n0 ≤ b4 := Nat.le_trans (own_n0 O3) (Nat.le_of_eq z4.symm)
  have O4 : Old Z n0 h4 := O3.ext E4
  have f4_35 : Fld Z h4 b4 "com/example/cropmark/cropmark/Row" "line" "I" (.int (0 : Int32)) := D4 (Or.inr (w35 hw)) (ty := .int) (by decide)
  have f4_37 : Fld Z h4 b4 "com/example/cropmark/cropmark/Row" "columns" "Ljava/util/Map;" .null := D4 (Or.inr (w37 hw)) (ty := (.object "java/util/Map")) (by decide)
  have f4_39 : Fld Z h4 b4 "com/example/cropmark/cropmark/Row" "bytes" "[B" .null := D4 (Or.inr (w39 hw)) (ty := (.array .byte)) (by decide)
  have f4_41 : Fld Z h4 b4 "com/example/cropmark/cropmark/Row" "starts" "[I" .null := D4 (Or.inr (w41 hw)) (ty := (.array .int)) (by decide)
  have f4_43 : Fld Z h4 b4 "com/example/cropmark/cropmark/Row" "ends" "[I" .null := D4 (Or.inr (w43 hw)) (ty := (.array .int)) (by decide)
  have f4_50 : Fld Z h4 b4 "com/example/cropmark/cropmark/Row" "problems" "Ljava/util/List;" .null := D4 (Or.inl (w50 hw)) (ty := (.object "java/util/List")) (by decide)
  refine Go.st st4 ?_
  show Go p e below _ (T4.setTop (mkF m 26 #[.val (.int i0), .val (.int i1), .val (.int i2), .val (.int i3), .val (.int i4), .val (.ref bs_1), .val (.ref bs_2), .val (.ref bs_3), .val (.int (i0 &&& (3 : Int32))), .unset, .unset, .unset, .unset, .unset] [(.ref b4)]))
  refine Go.st (fun t k => XS.dup X4.here hx rfl (hb hby at_26) rfl rfl k) ?_
  show Go p e below _ (T4.setTop (mkF m 27 #[.val (.int i0), .val (.int i1), .val (.int i2), .val (.int i3), .val (.int i4), .val (.ref bs_1), .val (.ref bs_2), .val (.ref bs_3), .val (.int (i0 &&& (3 : Int32))), .unset, .unset, .unset, .unset, .unset] [(.ref b4), (.ref b4)]))
  refine Go.st (fun t k => XS.iload X4.here hx rfl (hb hby at_27) rfl k) ?_
  show Go p e below _ (T4.setTop (mkF m 29 #[.val (.int i0), .val (.int i1), .val (.int i2), .val (.int i3), .val (.int i4), .val (.ref bs_1), .val (.ref bs_2), .val (.ref bs_3), .val (.int (i0 &&& (3 : Int32))), .unset, .unset, .unset, .unset, .unset] [(.int i4), (.ref b4), (.ref b4)]))
  refine Go.st (fun t k => XS.aconstNull X4.here hx rfl (hb hby at_29) k) ?_
  show Go p e below _ (T4.setTop (mkF m 30 #[.val (.int i0), .val (.int i1), .val (.int i2), .val (.int i3), .val (.int i4), .val (.ref bs_1), .val (.ref bs_2), .val (.ref bs_3), .val (.int (i0 &&& (3 : Int32))), .unset, .unset, .unset, .unset, .unset] [.null, (.int i4), (.ref b4), (.ref b4)]))
  refine Go.st (fun t k => XS.iconst X4.here hx rfl (hb hby at_30) k) ?_
  show Go p e below _ (T4.setTop (mkF m 31 #[.val (.int i0), .val (.int i1), .val (.int i2), .val (.int i3), .val (.int i4), .val (.ref bs_1), .val (.ref bs_2), .val (.ref bs_3), .val (.int (i0 &&& (3 : Int32))), .unset, .unset, .unset, .unset, .unset] [(.int (0 : Int32)), .null, (.int i4), (.ref b4), (.ref b4)]))
  obtain ⟨T5, h5, k5, X5, e5, E5, A5, st5⟩ := newP X4 hx hZ (aty := .byte) (w19 hw) e4 (g := (mkF m 31 #[.val (.int i0), .val (.int i1), .val (.int i2), .val (.int i3), .val (.int i4), .val (.ref bs_1), .val (.ref bs_2), .val (.ref bs_3), .val (.int (i0 &&& (3 : Int32))), .unset, .unset, .unset, .unset, .unset] [(.int (0 : Int32)), .null, (.int i4), (.ref b4), (.ref b4)])) rfl (hb hby at_31) rfl (by decide) (cap := 0) (by decide) (by decide) (by decide) (by decide)
  obtain ⟨b5, z5⟩ : ∃ z, z = h4.size := ⟨_, rfl⟩
  rw [← z5] at A5 st5
  have g_b5 : n0 ≤ b5 := Nat.le_trans (own_n0 O4) (Nat.le_of_eq z5.symm)
  have V5 : Arv Z h5 b5 k5 .byte (0 : Int32) [] (.int (0 : Int32)) := (Arv.new A5 (by decide)).pad (pad_rep [] (.int (0 : Int32)) 0)
  have O5 : Old Z n0 h5 := O4.ext E5
  refine Go.st st5 ?_
  show Go p e below _ (T5.setTop (mkF m 33 #[.val (.int i0), .val (.int i1), .val (.int i2), .val (.int i3), .val (.int i4), .val (.ref bs_1), .val (.ref bs_2), .val (.ref bs_3), .val (.int (i0 &&& (3 : Int32))), .unset, .unset, .unset, .unset, .unset] [(.ref b5), .null, (.int i4), (.ref b4), (.ref b4)]))
  refine Go.st (fun t k => XS.iconst X5.here hx rfl (hb hby at_33) k) ?_
  show Go p e below _ (T5.setTop (mkF m 34 #[.val (.int i0), .val (.int i1), .val (.int i2), .val (.int i3), .val (.int i4), .val (.ref bs_1), .val (.ref bs_2), .val (.ref bs_3), .val (.int (i0 &&& (3 : Int32))), .unset, .unset, .unset, .unset, .unset] [(.int (0 : Int32)), (.ref b5), .null, (.int i4), (.ref b4), (.ref b4)]))
  obtain ⟨T6, h6, k6, X6, e6, E6, A6, st6⟩ := newP X5 hx hZ (aty := .int) (w29 hw) e5 (g := (mkF m 34 #[.val (.int i0), .val (.int i1), .val (.int i2), .val (.int i3), .val (.int i4), .val (.ref bs_1), .val (.ref bs_2), .val (.ref bs_3), .val (.int (i0 &&& (3 : Int32))), .unset, .unset, .unset, .unset, .unset] [(.int (0 : Int32)), (.ref b5), .null, (.int i4), (.ref b4), (.ref b4)])) rfl (hb hby at_34) rfl (by decide) (cap := 0) (by decide) (by decide) (by decide) (by decide)
  obtain ⟨b6, z6⟩ : ∃ z, z = h5.size := ⟨_, rfl⟩
  rw [← z6] at A6 st6
  have g_b6 : n0 ≤ b6 := Nat.le_trans (own_n0 O5) (Nat.le_of_eq z6.symm)
  have V6 : Arv Z h6 b6 k6 .int (0 : Int32) [] (.int (0 : Int32)) := (Arv.new A6 (by decide)).pad (pad_rep [] (.int (0 : Int32)) 0)
  have O6 : Old Z n0 h6 := O5.ext E6
  refine Go.st st6 ?_
  show Go p e below _ (T6.setTop (mkF m 36 #[.val (.int i0), .val (.int i1), .val (.int i2), .val (.int i3), .val (.int i4), .val (.ref bs_1), .val (.ref bs_2), .val (.ref bs_3), .val (.int (i0 &&& (3 : Int32))), .unset, .unset, .unset, .unset, .unset] [(.ref b6), (.ref b5), .null, (.int i4), (.ref b4), (.ref b4)]))
  refine Go.st (fun t k => XS.iconst X6.here hx rfl (hb hby at_36) k) ?_
  show Go p e below _ (T6.setTop (mkF m 37 #[.val (.int i0), .val (.int i1), .val (.int i2), .val (.int i3), .val (.int i4), .val (.ref bs_1), .val (.ref bs_2), .val (.ref bs_3), .val (.int (i0 &&& (3 : Int32))), .unset, .unset, .unset, .unset, .unset] [(.int (0 : Int32)), (.ref b6), (.ref b5), .null, (.int i4), (.ref b4), (.ref b4)]))
  obtain ⟨T7, h7, k7, X7, e7, E7, A7, st7⟩ := newP X6 hx hZ (aty := .int) (w29 hw) e6 (g := (mkF m 37 #[.val (.int i0), .val (.int i1), .val (.int i2), .val (.int i3), .val (.int i4), .val (.ref bs_1), .val (.ref bs_2), .val (.ref bs_3), .val (.int (i0 &&& (3 : Int32))), .unset, .unset, .unset, .unset, .unset] [(.int (0 : Int32)), (.ref b6), (.ref b5), .null, (.int i4), (.ref b4), (.ref b4)])) rfl (hb hby at_37) rfl (by decide) (cap := 0) (by decide) (by decide) (by decide) (by decide)
  obtain ⟨b7, z7⟩ : ∃ z, z = h6.size := ⟨_, rfl⟩
  rw [← z7] at A7 st7
  have g_b7 : n0 ≤ b7 := Nat.le_trans (own_n0 O6) (Nat.le_of_eq z7.symm)
  have V7 : Arv Z h7 b7 k7 .int (0 : Int32) [] (.int (0 : Int32)) := (Arv.new A7 (by decide)).pad (pad_rep [] (.int (0 : Int32)) 0)
  have O7 : Old Z n0 h7 := O6.ext E7
  refine Go.st st7 ?_
  show Go p e below _ (T7.setTop (mkF m 39 #[.val (.int i0), .val (.int i1), .val (.int i2), .val (.int i3), .val (.int i4), .val (.ref bs_1), .val (.ref bs_2), .val (.ref bs_3), .val (.int (i0 &&& (3 : Int32))), .unset, .unset, .unset, .unset, .unset] [(.ref b7), (.ref b6), (.ref b5), .null, (.int i4), (.ref b4), (.ref b4)]))
  obtain ⟨_, _, ⟨T8, L8, k8, n8⟩, -, X8, ⟨Lc8, hQ8, l8, y8, z8⟩, st8⟩ := X7.specialBack hx (y := (⟨"com/example/cropmark/cropmark/Row", "<init>", "(ILjava/util/Map;[B[I[I)V"⟩ : MethodName)) rfl hown (mvT hZ (w30 hw)) (mvT hZ (w31 hw)) (mvT hZ (w32 hw)) (by decide) (backOf (W := 1) (rm5_1 l Z a0 hw [] b4 i4 b5 b6 b7 h7 n0 O7 (((A4.ext E5).ext E6).ext E7) (((f4_35.ext E5).ext E6).ext E7) g_b4 (((f4_37.ext E5).ext E6).ext E7) (((f4_39.ext E5).ext E6).ext E7) (((f4_41.ext E5).ext E6).ext E7) (((f4_43.ext E5).ext E6).ext E7) (((f4_50.ext E5).ext E6).ext E7)) hZ (w32 hw) (w28 hw) (by decide) (by decide)) (g := (mkF m 39 #[.val (.int i0), .val (.int i1), .val (.int i2), .val (.int i3), .val (.int i4), .val (.ref bs_1), .val (.ref bs_2), .val (.ref bs_3), .val (.int (i0 &&& (3 : Int32))), .unset, .unset, .unset, .unset, .unset] [(.ref b7), (.ref b6), (.ref b5), .null, (.int i4), (.ref b4), (.ref b4)])) rfl (by rw [hml]; rfl) (Steps.refl _) (a := b4) (argsL := [(.int i4), .null, (.ref b5), (.ref b6), (.ref b7)]) (rest := [(.ref b4)]) (lenOf pd_10 rfl) rfl (by show 2 * 0 + _ ≤ _; exact Nat.le_of_eq rfl) (hb hby at_39) (fun vm₁ hw₁ => ⟨rfl, e7, (by decide : 16 + 0 ≤ _), (by decide : 30 + 0 ≤ _)⟩)
  dsimp only [Pt.U, Pt.locs, Pt.cells, Pt.slots] at X8 l8 y8 z8 st8 hQ8
  subst l8 y8 z8
  obtain ⟨rfl, M8, K8c, r8_0, r8_1, r8_2, r8_3, r8_4, r8_5⟩ := hQ8
  have N8 := Fr.app N3 M8
  have O8 : Old Z n0 T8.heap := O7.keep K8c (allS g_b4 all0)
  refine Go.tr st8 ?_
  show Go p e below _ (T8.setTop (mkF m 42 #[.val (.int i0), .val (.int i1), .val (.int i2), .val (.int i3), .val (.int i4), .val (.ref bs_1), .val (.ref bs_2), .val (.ref bs_3), .val (.int (i0 &&& (3 : Int32))), .unset, .unset, .unset, .unset, .unset] [(.ref b4)]))
  refine Go.st (fun t k => XS.astore X8.here hx rfl (hb hby at_42) rfl rfl (l' := #[.val (.int i0), .val (.int i1), .val (.int i2), .val (.int i3), .val (.int i4), .val (.ref bs_1), .val (.ref bs_2), .val (.ref bs_3), .val (.int (i0 &&& (3 : Int32))), .val (.ref b4), .unset, .unset, .unset, .unset]) rfl k) ?_
  show Go p e below _ (T8.setTop (mkF m 44 #[.val (.int i0), .val (.int i1), .val (.int i2), .val (.int i3), .val (.int i4), .val (.ref bs_1), .val (.ref bs_2), .val (.ref bs_3), .val (.int (i0 &&& (3 : Int32))), .val (.ref b4), .unset, .unset, .unset, .unset] []))
  refine Go.st (fun t k => XS.aload X8.here hx rfl (hb hby at_44) rfl rfl k) ?_
  show Go p e below _ (T8.setTop (mkF m 46 #[.val (.int i0), .val (.int i1), .val (.int i2), .val (.int i3), .val (.int i4), .val (.ref bs_1), .val (.ref bs_2), .val (.ref bs_3), .val (.int (i0 &&& (3 : Int32))), .val (.ref b4), .unset, .unset, .unset, .unset] [(.ref b4)]))
  obtain ⟨cq9, kq9, q9a, q9b, q9c⟩ := isOf hZ rfl ((((A4.ext E5).ext E6).ext E7).keep K8c)
  obtain ⟨_, _, ⟨T9, L9, k9, n9⟩, -, X9, ⟨Lc9, hQ9, l9, y9, z9⟩, st9⟩ := X8.virtualBack hx (y := (⟨"com/example/cropmark/cropmark/Row", "problems", "()Ljava/util/List;"⟩ : MethodName)) (z := (⟨"com/example/cropmark/cropmark/Row", "problems", "()Ljava/util/List;"⟩ : MethodName)) hown (mvT hZ (w44 hw)) (mvT hZ (w45 hw)) (notFace_of_selects (args := #[]) (mvT hZ (w47 hw))) (mvT hZ (w47 hw)) (mvT hZ (w46 hw)) (by decide) (backOf (W := 0) (rm6_1 l Z a0 hw [] b4 w1a T8.heap n0 O8 r8_5 Y3) hZ (w48 hw) (w28 hw) (by decide) (by decide)) q9a q9c (g := (mkF m 46 #[.val (.int i0), .val (.int i1), .val (.int i2), .val (.int i3), .val (.int i4), .val (.ref bs_1), .val (.ref bs_2), .val (.ref bs_3), .val (.int (i0 &&& (3 : Int32))), .val (.ref b4), .unset, .unset, .unset, .unset] [(.ref b4)])) rfl (by rw [hml]; rfl) (Steps.refl _) (argsL := []) (rest := []) (lenOf pd_11 rfl) rfl (by show 2 * 0 + _ ≤ _; exact Nat.le_of_eq rfl) (hb hby at_46) (fun vm₁ hw₁ => ⟨rfl, rfl, (by decide : 16 + 0 ≤ _), (by decide : 30 + 0 ≤ _)⟩)
  dsimp only [Pt.U, Pt.locs, Pt.cells, Pt.slots] at X9 l9 y9 z9 st9 hQ9
  subst l9 y9 z9
  obtain ⟨rfl, M9, eh9⟩ := hQ9
  have N9 := Fr.app N8 M9
  refine Go.tr st9 ?_
  show Go p e below _ (T9.setTop (mkF m 49 #[.val (.int i0), .val (.int i1), .val (.int i2), .val (.int i3), .val (.int i4), .val (.ref bs_1), .val (.ref bs_2), .val (.ref bs_3), .val (.int (i0 &&& (3 : Int32))), .val (.ref b4), .unset, .unset, .unset, .unset] [(.ref w1a)]))
  refine Go.st (fun t k => XS.astore X9.here hx rfl (hb hby at_49) rfl rfl (l' := #[.val (.int i0), .val (.int i1), .val (.int i2), .val (.int i3), .val (.int i4), .val (.ref bs_1), .val (.ref bs_2), .val (.ref bs_3), .val (.int (i0 &&& (3 : Int32))), .val (.ref b4), .val (.ref w1a), .unset, .unset, .unset]) rfl k) ?_
  show Go p e below _ (T9.setTop (mkF m 51 #[.val (.int i0), .val (.int i1), .val (.int i2), .val (.int i3), .val (.int i4), .val (.ref bs_1), .val (.ref bs_2), .val (.ref bs_3), .val (.int (i0 &&& (3 : Int32))), .val (.ref b4), .val (.ref w1a), .unset, .unset, .unset] []))
  refine Go.st (fun t k => XS.aload X9.here hx rfl (hb hby at_51) rfl rfl k) ?_
  show Go p e below _ (T9.setTop (mkF m 53 #[.val (.int i0), .val (.int i1), .val (.int i2), .val (.int i3), .val (.int i4), .val (.ref bs_1), .val (.ref bs_2), .val (.ref bs_3), .val (.int (i0 &&& (3 : Int32))), .val (.ref b4), .val (.ref w1a), .unset, .unset, .unset] [(.ref w1a)]))
  refine Go.st (fun t k => XS.ifnullNo X9.here hx rfl (hb hby at_53) rfl k) ?_
  show Go p e below _ (T9.setTop (mkF m 56 #[.val (.int i0), .val (.int i1), .val (.int i2), .val (.int i3), .val (.int i4), .val (.ref bs_1), .val (.ref bs_2), .val (.ref bs_3), .val (.int (i0 &&& (3 : Int32))), .val (.ref b4), .val (.ref w1a), .unset, .unset, .unset] []))
  refine Go.st (fun t k => XS.aload X9.here hx rfl (hb hby at_56) rfl rfl k) ?_
  show Go p e below _ (T9.setTop (mkF m 58 #[.val (.int i0), .val (.int i1), .val (.int i2), .val (.int i3), .val (.int i4), .val (.ref bs_1), .val (.ref bs_2), .val (.ref bs_3), .val (.int (i0 &&& (3 : Int32))), .val (.ref b4), .val (.ref w1a), .unset, .unset, .unset] [(.ref w1a)]))
  obtain ⟨cq10, kq10, q10a, q10b, q10c⟩ := isOf hZ eh9 (Y4.ext O8.2)
  obtain ⟨_, _, ⟨T10, L10, k10, n10⟩, -, X10, ⟨Lc10, hQ10, l10, y10, z10⟩, st10⟩ := X9.interfaceBack hx (xi := (⟨"java/util/List", "size", "()I"⟩ : MethodName)) (y := (⟨"java/util/ImmutableCollections$ListN", "size", "()I"⟩ : MethodName)) hown (mvT hZ (w57 hw)) (mvT hZ (w58 hw)) (mvT hZ (w59 hw)) (mvT hZ (w60 hw)) (mvT hZ (w61 hw)) (mvT hZ (w62 hw)) (mvT hZ (w63 hw)) (mvT hZ (w64 hw)) (by decide) (backOf (W := 0) (rm8_1 l Z a0 hw [] w1a w5a k8c T8.heap n0 O8 Y7 Y30) hZ (w66 hw) (w65 hw) (by decide) (by decide)) q10a q10b q10c (g := (mkF m 58 #[.val (.int i0), .val (.int i1), .val (.int i2), .val (.int i3), .val (.int i4), .val (.ref bs_1), .val (.ref bs_2), .val (.ref bs_3), .val (.int (i0 &&& (3 : Int32))), .val (.ref b4), .val (.ref w1a), .unset, .unset, .unset] [(.ref w1a)])) rfl (by rw [hml]; rfl) (Steps.refl _) (argsL := []) (rest := []) (lenOf pd_12 rfl) rfl (by show 2 * 0 + _ ≤ _; exact Nat.le_of_eq rfl) (hb hby at_58) (fun vm₁ hw₁ => ⟨rfl, eh9, (by decide : 16 + 0 ≤ _), (by decide : 30 + 0 ≤ _)⟩)
  dsimp only [Pt.U, Pt.locs, Pt.cells, Pt.slots] at X10 l10 y10 z10 st10 hQ10
  subst l10 y10 z10
  obtain ⟨rfl, M10, eh10⟩ := hQ10
  have N10 := Fr.app N9 M10
  refine Go.tr st10 ?_
  show Go p e below _ (T10.setTop (mkF m 63 #[.val (.int i0), .val (.int i1), .val (.int i2), .val (.int i3), .val (.int i4), .val (.ref bs_1), .val (.ref bs_2), .val (.ref bs_3), .val (.int (i0 &&& (3 : Int32))), .val (.ref b4), .val (.ref w1a), .unset, .unset, .unset] [(.int (0 : Int32))]))
  refine Go.st (fun t k => XS.ifYes X10.here hx rfl (pc0 := 63) (pc' := 68) rfl (hb hby at_63) rfl (Jvm.Free.XT.i0_eq_t (by decide : (0 : Int32) = (0 : Int32))) (by decide) (by decide) k) ?_
  show Go p e below _ (T10.setTop (mkF m 68 #[.val (.int i0), .val (.int i1), .val (.int i2), .val (.int i3), .val (.int i4), .val (.ref bs_1), .val (.ref bs_2), .val (.ref bs_3), .val (.int (i0 &&& (3 : Int32))), .val (.ref b4), .val (.ref w1a), .unset, .unset, .unset] []))
  refine Go.st (fun t k => XS.iload X10.here hx rfl (hb hby at_68) rfl k) ?_
  show Go p e below _ (T10.setTop (mkF m 70 #[.val (.int i0), .val (.int i1), .val (.int i2), .val (.int i3), .val (.int i4), .val (.ref bs_1), .val (.ref bs_2), .val (.ref bs_3), .val (.int (i0 &&& (3 : Int32))), .val (.ref b4), .val (.ref w1a), .unset, .unset, .unset] [(.int (i0 &&& (3 : Int32)))]))
  refine Go.st (fun t k => XS.iconst X10.here hx rfl (hb hby at_70) k) ?_
  show Go p e below _ (T10.setTop (mkF m 71 #[.val (.int i0), .val (.int i1), .val (.int i2), .val (.int i3), .val (.int i4), .val (.ref bs_1), .val (.ref bs_2), .val (.ref bs_3), .val (.int (i0 &&& (3 : Int32))), .val (.ref b4), .val (.ref w1a), .unset, .unset, .unset] [(.int (1 : Int32)), (.int (i0 &&& (3 : Int32)))]))
  by_cases hc11 : (i0 &&& (3 : Int32)) < (1 : Int32)
  · refine Go.st (fun t k => XS.icmpYes X10.here hx rfl (pc0 := 71) (pc' := 81) rfl (hb hby at_71) rfl (Jvm.Free.XT.ii_lt_t hc11) (by decide) (by decide) k) ?_
    show Go p e below _ (T10.setTop (mkF m 81 #[.val (.int i0), .val (.int i1), .val (.int i2), .val (.int i3), .val (.int i4), .val (.ref bs_1), .val (.ref bs_2), .val (.ref bs_3), .val (.int (i0 &&& (3 : Int32))), .val (.ref b4), .val (.ref w1a), .unset, .unset, .unset] []))
    refine Go.st (fun t k => XS.iload X10.here hx rfl (hb hby at_81) rfl k) ?_
    show Go p e below _ (T10.setTop (mkF m 83 #[.val (.int i0), .val (.int i1), .val (.int i2), .val (.int i3), .val (.int i4), .val (.ref bs_1), .val (.ref bs_2), .val (.ref bs_3), .val (.int (i0 &&& (3 : Int32))), .val (.ref b4), .val (.ref w1a), .unset, .unset, .unset] [(.int (i0 &&& (3 : Int32)))]))
    refine Go.st (fun t k => XS.iconst X10.here hx rfl (hb hby at_83) k) ?_
    show Go p e below _ (T10.setTop (mkF m 84 #[.val (.int i0), .val (.int i1), .val (.int i2), .val (.int i3), .val (.int i4), .val (.ref bs_1), .val (.ref bs_2), .val (.ref bs_3), .val (.int (i0 &&& (3 : Int32))), .val (.ref b4), .val (.ref w1a), .unset, .unset, .unset] [(.int (2 : Int32)), (.int (i0 &&& (3 : Int32)))]))
    have hp12 : (i0 &&& (3 : Int32)) < (2 : Int32) := by
      have j1 := own_c32 (i0)
      have j2 : (3 : Int) ≤ ((3 : Int32)).toInt ∧ ((3 : Int32)).toInt ≤ 3 := ⟨by decide, by decide⟩
      have j3 := own_maskE32 i0 (3 : Int32) 2 4 (by decide) (by decide) (by decide) (by decide)
      have j4 : (0 : Int) ≤ ((i0 &&& (3 : Int32))).toInt ∧ ((i0 &&& (3 : Int32))).toInt ≤ 3 := j3.2
      have j5 : (1 : Int) ≤ ((1 : Int32)).toInt ∧ ((1 : Int32)).toInt ≤ 1 := ⟨by decide, by decide⟩
      have j6 := Int32.lt_iff_toInt_lt.mp hc11
      have j7 : (0 : Int) ≤ ((i0 &&& (3 : Int32))).toInt ∧ ((i0 &&& (3 : Int32))).toInt ≤ 0 := by constructor <;> omega
      have j8 : (2 : Int) ≤ ((2 : Int32)).toInt ∧ ((2 : Int32)).toInt ≤ 2 := ⟨by decide, by decide⟩
      exact own_ltT32 j7 j8 (by decide)
    refine Go.st (fun t k => XS.icmpYes X10.here hx rfl (pc0 := 84) (pc' := 94) rfl (hb hby at_84) rfl (Jvm.Free.XT.ii_lt_t hp12) (by decide) (by decide) k) ?_
    show Go p e below _ (T10.setTop (mkF m 94 #[.val (.int i0), .val (.int i1), .val (.int i2), .val (.int i3), .val (.int i4), .val (.ref bs_1), .val (.ref bs_2), .val (.ref bs_3), .val (.int (i0 &&& (3 : Int32))), .val (.ref b4), .val (.ref w1a), .unset, .unset, .unset] []))
    refine Go.st (fun t k => XS.iload X10.here hx rfl (hb hby at_94) rfl k) ?_
    show Go p e below _ (T10.setTop (mkF m 96 #[.val (.int i0), .val (.int i1), .val (.int i2), .val (.int i3), .val (.int i4), .val (.ref bs_1), .val (.ref bs_2), .val (.ref bs_3), .val (.int (i0 &&& (3 : Int32))), .val (.ref b4), .val (.ref w1a), .unset, .unset, .unset] [(.int (i0 &&& (3 : Int32)))]))
    refine Go.st (fun t k => XS.iconst X10.here hx rfl (hb hby at_96) k) ?_
    show Go p e below _ (T10.setTop (mkF m 97 #[.val (.int i0), .val (.int i1), .val (.int i2), .val (.int i3), .val (.int i4), .val (.ref bs_1), .val (.ref bs_2), .val (.ref bs_3), .val (.int (i0 &&& (3 : Int32))), .val (.ref b4), .val (.ref w1a), .unset, .unset, .unset] [(.int (3 : Int32)), (.int (i0 &&& (3 : Int32)))]))
    have hp13 : (i0 &&& (3 : Int32)) < (3 : Int32) := by
      have j1 := own_c32 (i0)
      have j2 : (3 : Int) ≤ ((3 : Int32)).toInt ∧ ((3 : Int32)).toInt ≤ 3 := ⟨by decide, by decide⟩
      have j3 := own_maskE32 i0 (3 : Int32) 2 4 (by decide) (by decide) (by decide) (by decide)
      have j4 : (0 : Int) ≤ ((i0 &&& (3 : Int32))).toInt ∧ ((i0 &&& (3 : Int32))).toInt ≤ 3 := j3.2
      have j5 : (1 : Int) ≤ ((1 : Int32)).toInt ∧ ((1 : Int32)).toInt ≤ 1 := ⟨by decide, by decide⟩
      have j6 := Int32.lt_iff_toInt_lt.mp hc11
      have j7 : (0 : Int) ≤ ((i0 &&& (3 : Int32))).toInt ∧ ((i0 &&& (3 : Int32))).toInt ≤ 0 := by constructor <;> omega
      exact own_ltT32 j7 j2 (by decide)
    refine Go.st (fun t k => XS.icmpYes X10.here hx rfl (pc0 := 97) (pc' := 107) rfl (hb hby at_97) rfl (Jvm.Free.XT.ii_lt_t hp13) (by decide) (by decide) k) ?_
    show Go p e below _ (T10.setTop (mkF m 107 #[.val (.int i0), .val (.int i1), .val (.int i2), .val (.int i3), .val (.int i4), .val (.ref bs_1), .val (.ref bs_2), .val (.ref bs_3), .val (.int (i0 &&& (3 : Int32))), .val (.ref b4), .val (.ref w1a), .unset, .unset, .unset] []))
    refine Go.st (fun t k => XS.aload X10.here hx rfl (hb hby at_107) rfl rfl k) ?_
    show Go p e below _ (T10.setTop (mkF m 109 #[.val (.int i0), .val (.int i1), .val (.int i2), .val (.int i3), .val (.int i4), .val (.ref bs_1), .val (.ref bs_2), .val (.ref bs_3), .val (.int (i0 &&& (3 : Int32))), .val (.ref b4), .val (.ref w1a), .unset, .unset, .unset] [(.ref b4)]))
    obtain ⟨cq14, kq14, q14a, q14b, q14c⟩ := isOf hZ eh10 ((((A4.ext E5).ext E6).ext E7).keep K8c)
    obtain ⟨_, _, ⟨T14, L14, k14, n14⟩, -, X14, ⟨Lc14, hQ14, l14, y14, z14⟩, st14⟩ := X10.virtualBack hx (y := (⟨"com/example/cropmark/cropmark/Row", "problems", "()Ljava/util/List;"⟩ : MethodName)) (z := (⟨"com/example/cropmark/cropmark/Row", "problems", "()Ljava/util/List;"⟩ : MethodName)) hown (mvT hZ (w44 hw)) (mvT hZ (w45 hw)) (notFace_of_selects (args := #[]) (mvT hZ (w47 hw))) (mvT hZ (w47 hw)) (mvT hZ (w46 hw)) (by decide) (backOf (W := 0) (rm6_1 l Z a0 hw [] b4 w1a T8.heap n0 O8 r8_5 Y3) hZ (w48 hw) (w28 hw) (by decide) (by decide)) q14a q14c (g := (mkF m 109 #[.val (.int i0), .val (.int i1), .val (.int i2), .val (.int i3), .val (.int i4), .val (.ref bs_1), .val (.ref bs_2), .val (.ref bs_3), .val (.int (i0 &&& (3 : Int32))), .val (.ref b4), .val (.ref w1a), .unset, .unset, .unset] [(.ref b4)])) rfl (by rw [hml]; rfl) (Steps.refl _) (argsL := []) (rest := []) (lenOf pd_11 rfl) rfl (by show 2 * 0 + _ ≤ _; exact Nat.le_of_eq rfl) (hb hby at_109) (fun vm₁ hw₁ => ⟨rfl, eh10, (by decide : 16 + 0 ≤ _), (by decide : 30 + 0 ≤ _)⟩)
    dsimp only [Pt.U, Pt.locs, Pt.cells, Pt.slots] at X14 l14 y14 z14 st14 hQ14
    subst l14 y14 z14
    obtain ⟨rfl, M14, eh14⟩ := hQ14
    have N14 := Fr.app N10 M14
    refine Go.tr st14 ?_
    show Go p e below _ (T14.setTop (mkF m 112 #[.val (.int i0), .val (.int i1), .val (.int i2), .val (.int i3), .val (.int i4), .val (.ref bs_1), .val (.ref bs_2), .val (.ref bs_3), .val (.int (i0 &&& (3 : Int32))), .val (.ref b4), .val (.ref w1a), .unset, .unset, .unset] [(.ref w1a)]))
    refine Go.st (fun t k => XS.astore X14.here hx rfl (hb hby at_112) rfl rfl (l' := #[.val (.int i0), .val (.int i1), .val (.int i2), .val (.int i3), .val (.int i4), .val (.ref bs_1), .val (.ref bs_2), .val (.ref bs_3), .val (.int (i0 &&& (3 : Int32))), .val (.ref b4), .val (.ref w1a), .val (.ref w1a), .unset, .unset]) rfl k) ?_
    show Go p e below _ (T14.setTop (mkF m 114 #[.val (.int i0), .val (.int i1), .val (.int i2), .val (.int i3), .val (.int i4), .val (.ref bs_1), .val (.ref bs_2), .val (.ref bs_3), .val (.int (i0 &&& (3 : Int32))), .val (.ref b4), .val (.ref w1a), .val (.ref w1a), .unset, .unset] []))
    refine Go.st (fun t k => XS.aload X14.here hx rfl (hb hby at_114) rfl rfl k) ?_
    show Go p e below _ (T14.setTop (mkF m 116 #[.val (.int i0), .val (.int i1), .val (.int i2), .val (.int i3), .val (.int i4), .val (.ref bs_1), .val (.ref bs_2), .val (.ref bs_3), .val (.int (i0 &&& (3 : Int32))), .val (.ref b4), .val (.ref w1a), .val (.ref w1a), .unset, .unset] [(.ref w1a)]))
    refine Go.st (fun t k => XS.ifnullNo X14.here hx rfl (hb hby at_116) rfl k) ?_
    show Go p e below _ (T14.setTop (mkF m 119 #[.val (.int i0), .val (.int i1), .val (.int i2), .val (.int i3), .val (.int i4), .val (.ref bs_1), .val (.ref bs_2), .val (.ref bs_3), .val (.int (i0 &&& (3 : Int32))), .val (.ref b4), .val (.ref w1a), .val (.ref w1a), .unset, .unset] []))
    refine Go.st (fun t k => XS.aload X14.here hx rfl (hb hby at_119) rfl rfl k) ?_
    show Go p e below _ (T14.setTop (mkF m 121 #[.val (.int i0), .val (.int i1), .val (.int i2), .val (.int i3), .val (.int i4), .val (.ref bs_1), .val (.ref bs_2), .val (.ref bs_3), .val (.int (i0 &&& (3 : Int32))), .val (.ref b4), .val (.ref w1a), .val (.ref w1a), .unset, .unset] [(.ref w1a)]))
    obtain ⟨cq15, kq15, q15a, q15b, q15c⟩ := isOf hZ eh14 (Y4.ext O8.2)
    obtain ⟨_, _, ⟨T15, L15, k15, n15⟩, -, X15, ⟨Lc15, hQ15, l15, y15, z15⟩, st15⟩ := X14.interfaceBack hx (xi := (⟨"java/util/List", "size", "()I"⟩ : MethodName)) (y := (⟨"java/util/ImmutableCollections$ListN", "size", "()I"⟩ : MethodName)) hown (mvT hZ (w57 hw)) (mvT hZ (w58 hw)) (mvT hZ (w59 hw)) (mvT hZ (w60 hw)) (mvT hZ (w61 hw)) (mvT hZ (w62 hw)) (mvT hZ (w63 hw)) (mvT hZ (w64 hw)) (by decide) (backOf (W := 0) (rm8_1 l Z a0 hw [] w1a w5a k8c T8.heap n0 O8 Y7 Y30) hZ (w66 hw) (w65 hw) (by decide) (by decide)) q15a q15b q15c (g := (mkF m 121 #[.val (.int i0), .val (.int i1), .val (.int i2), .val (.int i3), .val (.int i4), .val (.ref bs_1), .val (.ref bs_2), .val (.ref bs_3), .val (.int (i0 &&& (3 : Int32))), .val (.ref b4), .val (.ref w1a), .val (.ref w1a), .unset, .unset] [(.ref w1a)])) rfl (by rw [hml]; rfl) (Steps.refl _) (argsL := []) (rest := []) (lenOf pd_12 rfl) rfl (by show 2 * 0 + _ ≤ _; exact Nat.le_of_eq rfl) (hb hby at_121) (fun vm₁ hw₁ => ⟨rfl, eh14, (by decide : 16 + 0 ≤ _), (by decide : 30 + 0 ≤ _)⟩)
    dsimp only [Pt.U, Pt.locs, Pt.cells, Pt.slots] at X15 l15 y15 z15 st15 hQ15
    subst l15 y15 z15
    obtain ⟨rfl, M15, eh15⟩ := hQ15
    have N15 := Fr.app N14 M15
    refine Go.tr st15 ?_
    show Go p e below _ (T15.setTop (mkF m 126 #[.val (.int i0), .val (.int i1), .val (.int i2), .val (.int i3), .val (.int i4), .val (.ref bs_1), .val (.ref bs_2), .val (.ref bs_3), .val (.int (i0 &&& (3 : Int32))), .val (.ref b4), .val (.ref w1a), .val (.ref w1a), .unset, .unset] [(.int (0 : Int32))]))
    refine Go.st (fun t k => XS.iload X15.here hx rfl (hb hby at_126) rfl k) ?_
    show Go p e below _ (T15.setTop (mkF m 128 #[.val (.int i0), .val (.int i1), .val (.int i2), .val (.int i3), .val (.int i4), .val (.ref bs_1), .val (.ref bs_2), .val (.ref bs_3), .val (.int (i0 &&& (3 : Int32))), .val (.ref b4), .val (.ref w1a), .val (.ref w1a), .unset, .unset] [(.int (i0 &&& (3 : Int32))), (.int (0 : Int32))]))
    have hp16 : (0 : Int32) = (i0 &&& (3 : Int32)) := by
      have j1 : (0 : Int) ≤ ((0 : Int32)).toInt ∧ ((0 : Int32)).toInt ≤ 0 := ⟨by decide, by decide⟩
      have j2 := own_c32 (i0)
      have j3 : (3 : Int) ≤ ((3 : Int32)).toInt ∧ ((3 : Int32)).toInt ≤ 3 := ⟨by decide, by decide⟩
      have j4 := own_maskE32 i0 (3 : Int32) 2 4 (by decide) (by decide) (by decide) (by decide)
      have j5 : (0 : Int) ≤ ((i0 &&& (3 : Int32))).toInt ∧ ((i0 &&& (3 : Int32))).toInt ≤ 3 := j4.2
      have j6 : (1 : Int) ≤ ((1 : Int32)).toInt ∧ ((1 : Int32)).toInt ≤ 1 := ⟨by decide, by decide⟩
      have j7 := Int32.lt_iff_toInt_lt.mp hc11
      have j8 : (0 : Int) ≤ ((i0 &&& (3 : Int32))).toInt ∧ ((i0 &&& (3 : Int32))).toInt ≤ 0 := by constructor <;> omega
      have j9 := Int32.lt_iff_toInt_lt.mp hc11
      rw [← Int32.toInt_inj]
      omega
    refine Go.st (fun t k => XS.icmpYes X15.here hx rfl (pc0 := 128) (pc' := 133) rfl (hb hby at_128) rfl (Jvm.Free.XT.ii_eq_t hp16) (by decide) (by decide) k) ?_
    show Go p e below _ (T15.setTop (mkF m 133 #[.val (.int i0), .val (.int i1), .val (.int i2), .val (.int i3), .val (.int i4), .val (.ref bs_1), .val (.ref bs_2), .val (.ref bs_3), .val (.int (i0 &&& (3 : Int32))), .val (.ref b4), .val (.ref w1a), .val (.ref w1a), .unset, .unset] []))
    refine Go.st (fun t k => XS.iconst X15.here hx rfl (hb hby at_133) k) ?_
    show Go p e below _ (T15.setTop (mkF m 134 #[.val (.int i0), .val (.int i1), .val (.int i2), .val (.int i3), .val (.int i4), .val (.ref bs_1), .val (.ref bs_2), .val (.ref bs_3), .val (.int (i0 &&& (3 : Int32))), .val (.ref b4), .val (.ref w1a), .val (.ref w1a), .unset, .unset] [(.int (1 : Int32))]))
    refine Go.st (fun t k => XS.istore X15.here hx rfl (hb hby at_134) rfl (l' := #[.val (.int i0), .val (.int i1), .val (.int i2), .val (.int i3), .val (.int i4), .val (.ref bs_1), .val (.ref bs_2), .val (.ref bs_3), .val (.int (i0 &&& (3 : Int32))), .val (.ref b4), .val (.ref w1a), .val (.ref w1a), .val (.int (1 : Int32)), .unset]) rfl k) ?_
    show Go p e below _ (T15.setTop (mkF m 136 #[.val (.int i0), .val (.int i1), .val (.int i2), .val (.int i3), .val (.int i4), .val (.ref bs_1), .val (.ref bs_2), .val (.ref bs_3), .val (.int (i0 &&& (3 : Int32))), .val (.ref b4), .val (.ref w1a), .val (.ref w1a), .val (.int (1 : Int32)), .unset] []))
    refine Go.st (fun t k => XS.iload X15.here hx rfl (hb hby at_136) rfl k) ?_
    show Go p e below _ (T15.setTop (mkF m 138 #[.val (.int i0), .val (.int i1), .val (.int i2), .val (.int i3), .val (.int i4), .val (.ref bs_1), .val (.ref bs_2), .val (.ref bs_3), .val (.int (i0 &&& (3 : Int32))), .val (.ref b4), .val (.ref w1a), .val (.ref w1a), .val (.int (1 : Int32)), .unset] [(.int (i0 &&& (3 : Int32)))]))
    refine Go.st (fun t k => XS.iconst X15.here hx rfl (hb hby at_138) k) ?_
    show Go p e below _ (T15.setTop (mkF m 139 #[.val (.int i0), .val (.int i1), .val (.int i2), .val (.int i3), .val (.int i4), .val (.ref bs_1), .val (.ref bs_2), .val (.ref bs_3), .val (.int (i0 &&& (3 : Int32))), .val (.ref b4), .val (.ref w1a), .val (.ref w1a), .val (.int (1 : Int32)), .unset] [(.int (1 : Int32)), (.int (i0 &&& (3 : Int32)))]))
    refine Go.st (fun t k => XS.icmpYes X15.here hx rfl (pc0 := 139) (pc' := 173) rfl (hb hby at_139) rfl (Jvm.Free.XT.ii_lt_t hc11) (by decide) (by decide) k) ?_
    show Go p e below _ (T15.setTop (mkF m 173 #[.val (.int i0), .val (.int i1), .val (.int i2), .val (.int i3), .val (.int i4), .val (.ref bs_1), .val (.ref bs_2), .val (.ref bs_3), .val (.int (i0 &&& (3 : Int32))), .val (.ref b4), .val (.ref w1a), .val (.ref w1a), .val (.int (1 : Int32)), .unset] []))
    refine Go.st (fun t k => XS.iload X15.here hx rfl (hb hby at_173) rfl k) ?_
    show Go p e below _ (T15.setTop (mkF m 175 #[.val (.int i0), .val (.int i1), .val (.int i2), .val (.int i3), .val (.int i4), .val (.ref bs_1), .val (.ref bs_2), .val (.ref bs_3), .val (.int (i0 &&& (3 : Int32))), .val (.ref b4), .val (.ref w1a), .val (.ref w1a), .val (.int (1 : Int32)), .unset] [(.int (i0 &&& (3 : Int32)))]))
    refine Go.st (fun t k => XS.iconst X15.here hx rfl (hb hby at_175) k) ?_
    show Go p e below _ (T15.setTop (mkF m 176 #[.val (.int i0), .val (.int i1), .val (.int i2), .val (.int i3), .val (.int i4), .val (.ref bs_1), .val (.ref bs_2), .val (.ref bs_3), .val (.int (i0 &&& (3 : Int32))), .val (.ref b4), .val (.ref w1a), .val (.ref w1a), .val (.int (1 : Int32)), .unset] [(.int (2 : Int32)), (.int (i0 &&& (3 : Int32)))]))
    refine Go.st (fun t k => XS.icmpYes X15.here hx rfl (pc0 := 176) (pc' := 210) rfl (hb hby at_176) rfl (Jvm.Free.XT.ii_lt_t hp12) (by decide) (by decide) k) ?_
    show Go p e below _ (T15.setTop (mkF m 210 #[.val (.int i0), .val (.int i1), .val (.int i2), .val (.int i3), .val (.int i4), .val (.ref bs_1), .val (.ref bs_2), .val (.ref bs_3), .val (.int (i0 &&& (3 : Int32))), .val (.ref b4), .val (.ref w1a), .val (.ref w1a), .val (.int (1 : Int32)), .unset] []))
    refine Go.st (fun t k => XS.iload X15.here hx rfl (hb hby at_210) rfl k) ?_
    show Go p e below _ (T15.setTop (mkF m 212 #[.val (.int i0), .val (.int i1), .val (.int i2), .val (.int i3), .val (.int i4), .val (.ref bs_1), .val (.ref bs_2), .val (.ref bs_3), .val (.int (i0 &&& (3 : Int32))), .val (.ref b4), .val (.ref w1a), .val (.ref w1a), .val (.int (1 : Int32)), .unset] [(.int (i0 &&& (3 : Int32)))]))
    refine Go.st (fun t k => XS.iconst X15.here hx rfl (hb hby at_212) k) ?_
    show Go p e below _ (T15.setTop (mkF m 213 #[.val (.int i0), .val (.int i1), .val (.int i2), .val (.int i3), .val (.int i4), .val (.ref bs_1), .val (.ref bs_2), .val (.ref bs_3), .val (.int (i0 &&& (3 : Int32))), .val (.ref b4), .val (.ref w1a), .val (.ref w1a), .val (.int (1 : Int32)), .unset] [(.int (3 : Int32)), (.int (i0 &&& (3 : Int32)))]))
    refine Go.st (fun t k => XS.icmpYes X15.here hx rfl (pc0 := 213) (pc' := 247) rfl (hb hby at_213) rfl (Jvm.Free.XT.ii_lt_t hp13) (by decide) (by decide) k) ?_
    show Go p e below _ (T15.setTop (mkF m 247 #[.val (.int i0), .val (.int i1), .val (.int i2), .val (.int i3), .val (.int i4), .val (.ref bs_1), .val (.ref bs_2), .val (.ref bs_3), .val (.int (i0 &&& (3 : Int32))), .val (.ref b4), .val (.ref w1a), .val (.ref w1a), .val (.int (1 : Int32)), .unset] []))
    refine Go.st (fun t k => XS.aload X15.here hx rfl (hb hby at_247) rfl rfl k) ?_
    show Go p e below _ (T15.setTop (mkF m 249 #[.val (.int i0), .val (.int i1), .val (.int i2), .val (.int i3), .val (.int i4), .val (.ref bs_1), .val (.ref bs_2), .val (.ref bs_3), .val (.int (i0 &&& (3 : Int32))), .val (.ref b4), .val (.ref w1a), .val (.ref w1a), .val (.int (1 : Int32)), .unset] [(.ref b4)]))
    obtain ⟨cq17, kq17, q17a, q17b, q17c⟩ := isOf hZ eh15 ((((A4.ext E5).ext E6).ext E7).keep K8c)
    obtain ⟨_, _, ⟨T17, L17, k17, n17⟩, -, X17, ⟨Lc17, hQ17, l17, y17, z17⟩, st17⟩ := X15.virtualBack hx (y := (⟨"com/example/cropmark/cropmark/Row", "problems", "()Ljava/util/List;"⟩ : MethodName)) (z := (⟨"com/example/cropmark/cropmark/Row", "problems", "()Ljava/util/List;"⟩ : MethodName)) hown (mvT hZ (w44 hw)) (mvT hZ (w45 hw)) (notFace_of_selects (args := #[]) (mvT hZ (w47 hw))) (mvT hZ (w47 hw)) (mvT hZ (w46 hw)) (by decide) (backOf (W := 0) (rm6_1 l Z a0 hw [] b4 w1a T8.heap n0 O8 r8_5 Y3) hZ (w48 hw) (w28 hw) (by decide) (by decide)) q17a q17c (g := (mkF m 249 #[.val (.int i0), .val (.int i1), .val (.int i2), .val (.int i3), .val (.int i4), .val (.ref bs_1), .val (.ref bs_2), .val (.ref bs_3), .val (.int (i0 &&& (3 : Int32))), .val (.ref b4), .val (.ref w1a), .val (.ref w1a), .val (.int (1 : Int32)), .unset] [(.ref b4)])) rfl (by rw [hml]; rfl) (Steps.refl _) (argsL := []) (rest := []) (lenOf pd_11 rfl) rfl (by show 2 * 0 + _ ≤ _; exact Nat.le_of_eq rfl) (hb hby at_249) (fun vm₁ hw₁ => ⟨rfl, eh15, (by decide : 16 + 0 ≤ _), (by decide : 30 + 0 ≤ _)⟩)
    dsimp only [Pt.U, Pt.locs, Pt.cells, Pt.slots] at X17 l17 y17 z17 st17 hQ17
    subst l17 y17 z17
    obtain ⟨rfl, M17, eh17⟩ := hQ17
    have N17 := Fr.app N15 M17
    refine Go.tr st17 ?_
    show Go p e below _ (T17.setTop (mkF m 252 #[.val (.int i0), .val (.int i1), .val (.int i2), .val (.int i3), .val (.int i4), .val (.ref bs_1), .val (.ref bs_2), .val (.ref bs_3), .val (.int (i0 &&& (3 : Int32))), .val (.ref b4), .val (.ref w1a), .val (.ref w1a), .val (.int (1 : Int32)), .unset] [(.ref w1a)]))
    refine Go.st (fun t k => XS.astore X17.here hx rfl (hb hby at_252) rfl rfl (l' := #[.val (.int i0), .val (.int i1), .val (.int i2), .val (.int i3), .val (.int i4), .val (.ref bs_1), .val (.ref bs_2), .val (.ref bs_3), .val (.int (i0 &&& (3 : Int32))), .val (.ref b4), .val (.ref w1a), .val (.ref w1a), .val (.int (1 : Int32)), .val (.ref w1a)]) rfl k) ?_
    show Go p e below _ (T17.setTop (mkF m 254 #[.val (.int i0), .val (.int i1), .val (.int i2), .val (.int i3), .val (.int i4), .val (.ref bs_1), .val (.ref bs_2), .val (.ref bs_3), .val (.int (i0 &&& (3 : Int32))), .val (.ref b4), .val (.ref w1a), .val (.ref w1a), .val (.int (1 : Int32)), .val (.ref w1a)] []))
    refine Go.st (fun t k => XS.aload X17.here hx rfl (hb hby at_254) rfl rfl k) ?_
    show Go p e below _ (T17.setTop (mkF m 256 #[.val (.int i0), .val (.int i1), .val (.int i2), .val (.int i3), .val (.int i4), .val (.ref bs_1), .val (.ref bs_2), .val (.ref bs_3), .val (.int (i0 &&& (3 : Int32))), .val (.ref b4), .val (.ref w1a), .val (.ref w1a), .val (.int (1 : Int32)), .val (.ref w1a)] [(.ref w1a)]))
    refine Go.st (fun t k => XS.ifnullNo X17.here hx rfl (hb hby at_256) rfl k) ?_
    show Go p e below _ (T17.setTop (mkF m 259 #[.val (.int i0), .val (.int i1), .val (.int i2), .val (.int i3), .val (.int i4), .val (.ref bs_1), .val (.ref bs_2), .val (.ref bs_3), .val (.int (i0 &&& (3 : Int32))), .val (.ref b4), .val (.ref w1a), .val (.ref w1a), .val (.int (1 : Int32)), .val (.ref w1a)] []))
    refine Go.st (fun t k => XS.aload X17.here hx rfl (hb hby at_259) rfl rfl k) ?_
    show Go p e below _ (T17.setTop (mkF m 261 #[.val (.int i0), .val (.int i1), .val (.int i2), .val (.int i3), .val (.int i4), .val (.ref bs_1), .val (.ref bs_2), .val (.ref bs_3), .val (.int (i0 &&& (3 : Int32))), .val (.ref b4), .val (.ref w1a), .val (.ref w1a), .val (.int (1 : Int32)), .val (.ref w1a)] [(.ref w1a)]))
    obtain ⟨cq18, kq18, q18a, q18b, q18c⟩ := isOf hZ eh17 (Y4.ext O8.2)
    obtain ⟨_, _, ⟨T18, L18, k18, n18⟩, -, X18, ⟨Lc18, hQ18, l18, y18, z18⟩, st18⟩ := X17.interfaceBack hx (xi := (⟨"java/util/List", "size", "()I"⟩ : MethodName)) (y := (⟨"java/util/ImmutableCollections$ListN", "size", "()I"⟩ : MethodName)) hown (mvT hZ (w57 hw)) (mvT hZ (w58 hw)) (mvT hZ (w59 hw)) (mvT hZ (w60 hw)) (mvT hZ (w61 hw)) (mvT hZ (w62 hw)) (mvT hZ (w63 hw)) (mvT hZ (w64 hw)) (by decide) (backOf (W := 0) (rm8_1 l Z a0 hw [] w1a w5a k8c T8.heap n0 O8 Y7 Y30) hZ (w66 hw) (w65 hw) (by decide) (by decide)) q18a q18b q18c (g := (mkF m 261 #[.val (.int i0), .val (.int i1), .val (.int i2), .val (.int i3), .val (.int i4), .val (.ref bs_1), .val (.ref bs_2), .val (.ref bs_3), .val (.int (i0 &&& (3 : Int32))), .val (.ref b4), .val (.ref w1a), .val (.ref w1a), .val (.int (1 : Int32)), .val (.ref w1a)] [(.ref w1a)])) rfl (by rw [hml]; rfl) (Steps.refl _) (argsL := []) (rest := []) (lenOf pd_12 rfl) rfl (by show 2 * 0 + _ ≤ _; exact Nat.le_of_eq rfl) (hb hby at_261) (fun vm₁ hw₁ => ⟨rfl, eh17, (by decide : 16 + 0 ≤ _), (by decide : 30 + 0 ≤ _)⟩)
    dsimp only [Pt.U, Pt.locs, Pt.cells, Pt.slots] at X18 l18 y18 z18 st18 hQ18
    subst l18 y18 z18
    obtain ⟨rfl, M18, eh18⟩ := hQ18
    have N18 := Fr.app N17 M18
    refine Go.tr st18 ?_
    show Go p e below _ (T18.setTop (mkF m 266 #[.val (.int i0), .val (.int i1), .val (.int i2), .val (.int i3), .val (.int i4), .val (.ref bs_1), .val (.ref bs_2), .val (.ref bs_3), .val (.int (i0 &&& (3 : Int32))), .val (.ref b4), .val (.ref w1a), .val (.ref w1a), .val (.int (1 : Int32)), .val (.ref w1a)] [(.int (0 : Int32))]))
    refine Go.st (fun t k => XS.iload X18.here hx rfl (hb hby at_266) rfl k) ?_
    show Go p e below _ (T18.setTop (mkF m 268 #[.val (.int i0), .val (.int i1), .val (.int i2), .val (.int i3), .val (.int i4), .val (.ref bs_1), .val (.ref bs_2), .val (.ref bs_3), .val (.int (i0 &&& (3 : Int32))), .val (.ref b4), .val (.ref w1a), .val (.ref w1a), .val (.int (1 : Int32)), .val (.ref w1a)] [(.int (i0 &&& (3 : Int32))), (.int (0 : Int32))]))
    refine Go.st (fun t k => XS.icmpYes X18.here hx rfl (pc0 := 268) (pc' := 273) rfl (hb hby at_268) rfl (Jvm.Free.XT.ii_eq_t hp16) (by decide) (by decide) k) ?_
    show Go p e below _ (T18.setTop (mkF m 273 #[.val (.int i0), .val (.int i1), .val (.int i2), .val (.int i3), .val (.int i4), .val (.ref bs_1), .val (.ref bs_2), .val (.ref bs_3), .val (.int (i0 &&& (3 : Int32))), .val (.ref b4), .val (.ref w1a), .val (.ref w1a), .val (.int (1 : Int32)), .val (.ref w1a)] []))
    refine Go.st (fun t k => XS.iload X18.here hx rfl (hb hby at_273) rfl k) ?_
    show Go p e below _ (T18.setTop (mkF m 275 #[.val (.int i0), .val (.int i1), .val (.int i2), .val (.int i3), .val (.int i4), .val (.ref bs_1), .val (.ref bs_2), .val (.ref bs_3), .val (.int (i0 &&& (3 : Int32))), .val (.ref b4), .val (.ref w1a), .val (.ref w1a), .val (.int (1 : Int32)), .val (.ref w1a)] [(.int (i0 &&& (3 : Int32)))]))
    refine Go.st (fun t k => XS.iconst X18.here hx rfl (hb hby at_275) k) ?_
    show Go p e below _ (T18.setTop (mkF m 276 #[.val (.int i0), .val (.int i1), .val (.int i2), .val (.int i3), .val (.int i4), .val (.ref bs_1), .val (.ref bs_2), .val (.ref bs_3), .val (.int (i0 &&& (3 : Int32))), .val (.ref b4), .val (.ref w1a), .val (.ref w1a), .val (.int (1 : Int32)), .val (.ref w1a)] [(.int (1 : Int32)), (.int (i0 &&& (3 : Int32)))]))
    refine Go.st (fun t k => XS.icmpYes X18.here hx rfl (pc0 := 276) (pc' := 310) rfl (hb hby at_276) rfl (Jvm.Free.XT.ii_lt_t hc11) (by decide) (by decide) k) ?_
    show Go p e below _ (T18.setTop (mkF m 310 #[.val (.int i0), .val (.int i1), .val (.int i2), .val (.int i3), .val (.int i4), .val (.ref bs_1), .val (.ref bs_2), .val (.ref bs_3), .val (.int (i0 &&& (3 : Int32))), .val (.ref b4), .val (.ref w1a), .val (.ref w1a), .val (.int (1 : Int32)), .val (.ref w1a)] []))
    refine Go.st (fun t k => XS.iload X18.here hx rfl (hb hby at_310) rfl k) ?_
    show Go p e below _ (T18.setTop (mkF m 312 #[.val (.int i0), .val (.int i1), .val (.int i2), .val (.int i3), .val (.int i4), .val (.ref bs_1), .val (.ref bs_2), .val (.ref bs_3), .val (.int (i0 &&& (3 : Int32))), .val (.ref b4), .val (.ref w1a), .val (.ref w1a), .val (.int (1 : Int32)), .val (.ref w1a)] [(.int (i0 &&& (3 : Int32)))]))
    refine Go.st (fun t k => XS.iconst X18.here hx rfl (hb hby at_312) k) ?_
    show Go p e below _ (T18.setTop (mkF m 313 #[.val (.int i0), .val (.int i1), .val (.int i2), .val (.int i3), .val (.int i4), .val (.ref bs_1), .val (.ref bs_2), .val (.ref bs_3), .val (.int (i0 &&& (3 : Int32))), .val (.ref b4), .val (.ref w1a), .val (.ref w1a), .val (.int (1 : Int32)), .val (.ref w1a)] [(.int (3 : Int32)), (.int (i0 &&& (3 : Int32)))]))
    refine Go.st (fun t k => XS.icmpYes X18.here hx rfl (pc0 := 313) (pc' := 347) rfl (hb hby at_313) rfl (Jvm.Free.XT.ii_lt_t hp13) (by decide) (by decide) k) ?_
    show Go p e below _ (T18.setTop (mkF m 347 #[.val (.int i0), .val (.int i1), .val (.int i2), .val (.int i3), .val (.int i4), .val (.ref bs_1), .val (.ref bs_2), .val (.ref bs_3), .val (.int (i0 &&& (3 : Int32))), .val (.ref b4), .val (.ref w1a), .val (.ref w1a), .val (.int (1 : Int32)), .val (.ref w1a)] []))
    refine Go.st (fun t k => XS.iload X18.here hx rfl (hb hby at_347) rfl k) ?_
    show Go p e below _ (T18.setTop (mkF m 349 #[.val (.int i0), .val (.int i1), .val (.int i2), .val (.int i3), .val (.int i4), .val (.ref bs_1), .val (.ref bs_2), .val (.ref bs_3), .val (.int (i0 &&& (3 : Int32))), .val (.ref b4), .val (.ref w1a), .val (.ref w1a), .val (.int (1 : Int32)), .val (.ref w1a)] [(.int (1 : Int32))]))
    obtain ⟨fs, hr, hrun, hended, hEnd⟩ := X18.leaveW hS3 (by rw [eh18]; exact (Nat.le_trans (Nat.le_trans (Nat.le_trans (Nat.le_trans (Nat.le_trans (Nat.le_refl _) E4.1) E5.1) E6.1) E7.1) K8c.1)) (v := some (.int (1 : Int32))) (fun h => by rw [Bd.returns] at h; cases h)
    refine ⟨_, _, ?_, hrun, hended, _, _, rfl, ?_, ⟨hEnd.1, hEnd.2.1, hEnd.2.2.1, hEnd.2.2.2.mono (by decide) (by decide)⟩⟩
    · exact retN X18 hx (t := .boolean) Bd.returns (by simp) (hb hby at_349) hr
    · exact ⟨rfl, N18⟩
  · refine Go.st (fun t k => XS.icmpNo X10.here hx rfl (hb hby at_71) rfl (Jvm.Free.XT.ii_lt_f hc11) k) ?_
    show Go p e below _ (T10.setTop (mkF m 74 #[.val (.int i0), .val (.int i1), .val (.int i2), .val (.int i3), .val (.int i4), .val (.ref bs_1), .val (.ref bs_2), .val (.ref bs_3), .val (.int (i0 &&& (3 : Int32))), .val (.ref b4), .val (.ref w1a), .unset, .unset, .unset] []))
    refine Go.st (fun t k => XS.aload X10.here hx rfl (hb hby at_74) rfl rfl k) ?_
    show Go p e below _ (T10.setTop (mkF m 76 #[.val (.int i0), .val (.int i1), .val (.int i2), .val (.int i3), .val (.int i4), .val (.ref bs_1), .val (.ref bs_2), .val (.ref bs_3), .val (.int (i0 &&& (3 : Int32))), .val (.ref b4), .val (.ref w1a), .unset, .unset, .unset] [(.ref b4)]))
    refine Go.st (fun t k => XS.aload X10.here hx rfl (hb hby at_76) rfl rfl k) ?_
    show Go p e below _ (T10.setTop (mkF m 78 #[.val (.int i0), .val (.int i1), .val (.int i2), .val (.int i3), .val (.int i4), .val (.ref bs_1), .val (.ref bs_2), .val (.ref bs_3), .val (.int (i0 &&& (3 : Int32))), .val (.ref b4), .val (.ref w1a), .unset, .unset, .unset] [(.ref bs_1), (.ref b4)]))
    have c19 := (((((((r1_0.keep K2c).keep K3c).ext E4).ext E5).ext E6).ext E7).keep K8c)
    obtain ⟨cq20, kq20, q20a, q20b, q20c⟩ := isOf hZ eh10 ((((A4.ext E5).ext E6).ext E7).keep K8c)
    obtain ⟨_, _, ⟨T20, L20, k20, n20⟩, -, X20, ⟨Lc20, hQ20, l20, y20, z20⟩, st20⟩ := X10.virtualBack hx (y := (⟨"com/example/cropmark/cropmark/Row", "problem", "(Ljava/lang/String;)V"⟩ : MethodName)) (z := (⟨"com/example/cropmark/cropmark/Row", "problem", "(Ljava/lang/String;)V"⟩ : MethodName)) hown (mvT hZ (w69 hw)) (mvT hZ (w70 hw)) (notFace_of_selects (args := #[]) (mvT hZ (w72 hw))) (mvT hZ (w72 hw)) (mvT hZ (w71 hw)) (by decide) (backOf (W := 0) (rm9_1 l Z a0 hw [] b4 bs_1 w15a k18c i4 b5 b6 b7 T8.heap n0 O8 r8_5 Y17 ((((A4.ext E5).ext E6).ext E7).keep K8c) g_b4 Y32 c19 r8_0 r8_1 r8_2 r8_3 r8_4) hZ (w73 hw) (w28 hw) (by decide) (by decide)) q20a q20c (g := (mkF m 78 #[.val (.int i0), .val (.int i1), .val (.int i2), .val (.int i3), .val (.int i4), .val (.ref bs_1), .val (.ref bs_2), .val (.ref bs_3), .val (.int (i0 &&& (3 : Int32))), .val (.ref b4), .val (.ref w1a), .unset, .unset, .unset] [(.ref bs_1), (.ref b4)])) rfl (by rw [hml]; rfl) (Steps.refl _) (argsL := [(.ref bs_1)]) (rest := []) (lenOf pd_19 rfl) rfl (by show 2 * 0 + _ ≤ _; exact Nat.le_of_eq rfl) (hb hby at_78) (fun vm₁ hw₁ => ⟨rfl, eh10, (by decide : 16 + 2 ≤ _), (by decide : 30 + 13 ≤ _)⟩)
    dsimp only [Pt.U, Pt.locs, Pt.cells, Pt.slots] at X20 l20 y20 z20 st20 hQ20
    subst l20 y20 z20
    obtain ⟨b2_20, b6_2_2_7_10_20, k6_2_2_7_10_20, rfl, M20, K20c, r20_0, r20_1, r20_2, r20_3, r20_4, r20_5, r20_6, r20_7, r20_8, r20_9, r20_10, r20_11, r20_12, r20_13, r20_14⟩ := hQ20
    have N20 := Fr.app N10 M20
    have g_b2_20 : n0 ≤ b2_20 := Nat.le_trans (own_n0 O8) r20_0
    have g_b6_2_2_7_10_20 : n0 ≤ b6_2_2_7_10_20 := Nat.le_trans (own_n0 O8) r20_1
    have O20 : Old Z n0 T20.heap := O8.keep K20c (allS g_b4 all0)
    refine Go.tr st20 ?_
    show Go p e below _ (T20.setTop (mkF m 81 #[.val (.int i0), .val (.int i1), .val (.int i2), .val (.int i3), .val (.int i4), .val (.ref bs_1), .val (.ref bs_2), .val (.ref bs_3), .val (.int (i0 &&& (3 : Int32))), .val (.ref b4), .val (.ref w1a), .unset, .unset, .unset] []))
    refine Go.st (fun t k => XS.iload X20.here hx rfl (hb hby at_81) rfl k) ?_
    show Go p e below _ (T20.setTop (mkF m 83 #[.val (.int i0), .val (.int i1), .val (.int i2), .val (.int i3), .val (.int i4), .val (.ref bs_1), .val (.ref bs_2), .val (.ref bs_3), .val (.int (i0 &&& (3 : Int32))), .val (.ref b4), .val (.ref w1a), .unset, .unset, .unset] [(.int (i0 &&& (3 : Int32)))]))
    refine Go.st (fun t k => XS.iconst X20.here hx rfl (hb hby at_83) k) ?_
    show Go p e below _ (T20.setTop (mkF m 84 #[.val (.int i0), .val (.int i1), .val (.int i2), .val (.int i3), .val (.int i4), .val (.ref bs_1), .val (.ref bs_2), .val (.ref bs_3), .val (.int (i0 &&& (3 : Int32))), .val (.ref b4), .val (.ref w1a), .unset, .unset, .unset] [(.int (2 : Int32)), (.int (i0 &&& (3 : Int32)))]))
    by_cases hc21 : (i0 &&& (3 : Int32)) < (2 : Int32)
    · refine Go.st (fun t k => XS.icmpYes X20.here hx rfl (pc0 := 84) (pc' := 94) rfl (hb hby at_84) rfl (Jvm.Free.XT.ii_lt_t hc21) (by decide) (by decide) k) ?_
      show Go p e below _ (T20.setTop (mkF m 94 #[.val (.int i0), .val (.int i1), .val (.int i2), .val (.int i3), .val (.int i4), .val (.ref bs_1), .val (.ref bs_2), .val (.ref bs_3), .val (.int (i0 &&& (3 : Int32))), .val (.ref b4), .val (.ref w1a), .unset, .unset, .unset] []))
      refine Go.st (fun t k => XS.iload X20.here hx rfl (hb hby at_94) rfl k) ?_
      show Go p e below _ (T20.setTop (mkF m 96 #[.val (.int i0), .val (.int i1), .val (.int i2), .val (.int i3), .val (.int i4), .val (.ref bs_1), .val (.ref bs_2), .val (.ref bs_3), .val (.int (i0 &&& (3 : Int32))), .val (.ref b4), .val (.ref w1a), .unset, .unset, .unset] [(.int (i0 &&& (3 : Int32)))]))
      refine Go.st (fun t k => XS.iconst X20.here hx rfl (hb hby at_96) k) ?_
      show Go p e below _ (T20.setTop (mkF m 97 #[.val (.int i0), .val (.int i1), .val (.int i2), .val (.int i3), .val (.int i4), .val (.ref bs_1), .val (.ref bs_2), .val (.ref bs_3), .val (.int (i0 &&& (3 : Int32))), .val (.ref b4), .val (.ref w1a), .unset, .unset, .unset] [(.int (3 : Int32)), (.int (i0 &&& (3 : Int32)))]))
      have hp22 : (i0 &&& (3 : Int32)) < (3 : Int32) := by
        have j1 := own_c32 (i0)
        have j2 : (3 : Int) ≤ ((3 : Int32)).toInt ∧ ((3 : Int32)).toInt ≤ 3 := ⟨by decide, by decide⟩
        have j3 := own_maskE32 i0 (3 : Int32) 2 4 (by decide) (by decide) (by decide) (by decide)
        have j4 : (0 : Int) ≤ ((i0 &&& (3 : Int32))).toInt ∧ ((i0 &&& (3 : Int32))).toInt ≤ 3 := j3.2
        have j5 : (1 : Int) ≤ ((1 : Int32)).toInt ∧ ((1 : Int32)).toInt ≤ 1 := ⟨by decide, by decide⟩
        have j6 := own_nlt32 hc11
        have j7 : (2 : Int) ≤ ((2 : Int32)).toInt ∧ ((2 : Int32)).toInt ≤ 2 := ⟨by decide, by decide⟩
        have j8 := Int32.lt_iff_toInt_lt.mp hc21
        have j9 : (1 : Int) ≤ ((i0 &&& (3 : Int32))).toInt ∧ ((i0 &&& (3 : Int32))).toInt ≤ 1 := by constructor <;> omega
        exact own_ltT32 j9 j2 (by decide)
      refine Go.st (fun t k => XS.icmpYes X20.here hx rfl (pc0 := 97) (pc' := 107) rfl (hb hby at_97) rfl (Jvm.Free.XT.ii_lt_t hp22) (by decide) (by decide) k) ?_
      show Go p e below _ (T20.setTop (mkF m 107 #[.val (.int i0), .val (.int i1), .val (.int i2), .val (.int i3), .val (.int i4), .val (.ref bs_1), .val (.ref bs_2), .val (.ref bs_3), .val (.int (i0 &&& (3 : Int32))), .val (.ref b4), .val (.ref w1a), .unset, .unset, .unset] []))
      refine Go.st (fun t k => XS.aload X20.here hx rfl (hb hby at_107) rfl rfl k) ?_
      show Go p e below _ (T20.setTop (mkF m 109 #[.val (.int i0), .val (.int i1), .val (.int i2), .val (.int i3), .val (.int i4), .val (.ref bs_1), .val (.ref bs_2), .val (.ref bs_3), .val (.int (i0 &&& (3 : Int32))), .val (.ref b4), .val (.ref w1a), .unset, .unset, .unset] [(.ref b4)]))
      have c24 := (((((A4.ext E5).ext E6).ext E7).keep K8c).keep K20c)
      obtain ⟨cq23, kq23, q23a, q23b, q23c⟩ := isOf hZ rfl c24
      obtain ⟨_, _, ⟨T23, L23, k23, n23⟩, -, X23, ⟨Lc23, hQ23, l23, y23, z23⟩, st23⟩ := X20.virtualBack hx (y := (⟨"com/example/cropmark/cropmark/Row", "problems", "()Ljava/util/List;"⟩ : MethodName)) (z := (⟨"com/example/cropmark/cropmark/Row", "problems", "()Ljava/util/List;"⟩ : MethodName)) hown (mvT hZ (w44 hw)) (mvT hZ (w45 hw)) (notFace_of_selects (args := #[]) (mvT hZ (w47 hw))) (mvT hZ (w47 hw)) (mvT hZ (w46 hw)) (by decide) (backOf (W := 0) (rm6_2 l Z a0 hw [] b4 b2_20 T20.heap n0 O20 r20_3) hZ (w48 hw) (w28 hw) (by decide) (by decide)) q23a q23c (g := (mkF m 109 #[.val (.int i0), .val (.int i1), .val (.int i2), .val (.int i3), .val (.int i4), .val (.ref bs_1), .val (.ref bs_2), .val (.ref bs_3), .val (.int (i0 &&& (3 : Int32))), .val (.ref b4), .val (.ref w1a), .unset, .unset, .unset] [(.ref b4)])) rfl (by rw [hml]; rfl) (Steps.refl _) (argsL := []) (rest := []) (lenOf pd_11 rfl) rfl (by show 2 * 0 + _ ≤ _; exact Nat.le_of_eq rfl) (hb hby at_109) (fun vm₁ hw₁ => ⟨rfl, rfl, (by decide : 18 + 0 ≤ _), (by decide : 43 + 0 ≤ _)⟩)
      dsimp only [Pt.U, Pt.locs, Pt.cells, Pt.slots] at X23 l23 y23 z23 st23 hQ23
      subst l23 y23 z23
      obtain ⟨rfl, M23, eh23⟩ := hQ23
      have N23 := Fr.app N20 M23
      refine Go.tr st23 ?_
      show Go p e below _ (T23.setTop (mkF m 112 #[.val (.int i0), .val (.int i1), .val (.int i2), .val (.int i3), .val (.int i4), .val (.ref bs_1), .val (.ref bs_2), .val (.ref bs_3), .val (.int (i0 &&& (3 : Int32))), .val (.ref b4), .val (.ref w1a), .unset, .unset, .unset] [(.ref b2_20)]))
      refine Go.st (fun t k => XS.astore X23.here hx rfl (hb hby at_112) rfl rfl (l' := #[.val (.int i0), .val (.int i1), .val (.int i2), .val (.int i3), .val (.int i4), .val (.ref bs_1), .val (.ref bs_2), .val (.ref bs_3), .val (.int (i0 &&& (3 : Int32))), .val (.ref b4), .val (.ref w1a), .val (.ref b2_20), .unset, .unset]) rfl k) ?_
      show Go p e below _ (T23.setTop (mkF m 114 #[.val (.int i0), .val (.int i1), .val (.int i2), .val (.int i3), .val (.int i4), .val (.ref bs_1), .val (.ref bs_2), .val (.ref bs_3), .val (.int (i0 &&& (3 : Int32))), .val (.ref b4), .val (.ref w1a), .val (.ref b2_20), .unset, .unset] []))
      refine Go.st (fun t k => XS.aload X23.here hx rfl (hb hby at_114) rfl rfl k) ?_
      show Go p e below _ (T23.setTop (mkF m 116 #[.val (.int i0), .val (.int i1), .val (.int i2), .val (.int i3), .val (.int i4), .val (.ref bs_1), .val (.ref bs_2), .val (.ref bs_3), .val (.int (i0 &&& (3 : Int32))), .val (.ref b4), .val (.ref w1a), .val (.ref b2_20), .unset, .unset] [(.ref b2_20)]))
      refine Go.st (fun t k => XS.ifnullNo X23.here hx rfl (hb hby at_116) rfl k) ?_
      show Go p e below _ (T23.setTop (mkF m 119 #[.val (.int i0), .val (.int i1), .val (.int i2), .val (.int i3), .val (.int i4), .val (.ref bs_1), .val (.ref bs_2), .val (.ref bs_3), .val (.int (i0 &&& (3 : Int32))), .val (.ref b4), .val (.ref w1a), .val (.ref b2_20), .unset, .unset] []))
      refine Go.st (fun t k => XS.aload X23.here hx rfl (hb hby at_119) rfl rfl k) ?_
      show Go p e below _ (T23.setTop (mkF m 121 #[.val (.int i0), .val (.int i1), .val (.int i2), .val (.int i3), .val (.int i4), .val (.ref bs_1), .val (.ref bs_2), .val (.ref bs_3), .val (.int (i0 &&& (3 : Int32))), .val (.ref b4), .val (.ref w1a), .val (.ref b2_20), .unset, .unset] [(.ref b2_20)]))
      obtain ⟨cq25, kq25, q25a, q25b, q25c⟩ := isOf hZ eh23 r20_9
      obtain ⟨_, _, ⟨T25, L25, k25, n25⟩, -, X25, ⟨Lc25, hQ25, l25, y25, z25⟩, st25⟩ := X23.interfaceBack hx (xi := (⟨"java/util/List", "size", "()I"⟩ : MethodName)) (y := (⟨"java/util/ArrayList", "size", "()I"⟩ : MethodName)) hown (mvT hZ (w57 hw)) (mvT hZ (w58 hw)) (mvT hZ (w59 hw)) (mvT hZ (w133 hw)) (mvT hZ (w134 hw)) (mvT hZ (w135 hw)) (mvT hZ (w136 hw)) (mvT hZ (w105 hw)) (by decide) (backOf (W := 0) (rm18_1 l Z a0 hw [] b2_20 T20.heap n0 O20 r20_12) hZ (w137 hw) (w76 hw) (by decide) (by decide)) q25a q25b q25c (g := (mkF m 121 #[.val (.int i0), .val (.int i1), .val (.int i2), .val (.int i3), .val (.int i4), .val (.ref bs_1), .val (.ref bs_2), .val (.ref bs_3), .val (.int (i0 &&& (3 : Int32))), .val (.ref b4), .val (.ref w1a), .val (.ref b2_20), .unset, .unset] [(.ref b2_20)])) rfl (by rw [hml]; rfl) (Steps.refl _) (argsL := []) (rest := []) (lenOf pd_12 rfl) rfl (by show 2 * 0 + _ ≤ _; exact Nat.le_of_eq rfl) (hb hby at_121) (fun vm₁ hw₁ => ⟨rfl, eh23, (by decide : 18 + 0 ≤ _), (by decide : 43 + 0 ≤ _)⟩)
      dsimp only [Pt.U, Pt.locs, Pt.cells, Pt.slots] at X25 l25 y25 z25 st25 hQ25
      subst l25 y25 z25
      obtain ⟨rfl, M25, eh25⟩ := hQ25
      have N25 := Fr.app N23 M25
      refine Go.tr st25 ?_
      show Go p e below _ (T25.setTop (mkF m 126 #[.val (.int i0), .val (.int i1), .val (.int i2), .val (.int i3), .val (.int i4), .val (.ref bs_1), .val (.ref bs_2), .val (.ref bs_3), .val (.int (i0 &&& (3 : Int32))), .val (.ref b4), .val (.ref w1a), .val (.ref b2_20), .unset, .unset] [(.int (1 : Int32))]))
      refine Go.st (fun t k => XS.iload X25.here hx rfl (hb hby at_126) rfl k) ?_
      show Go p e below _ (T25.setTop (mkF m 128 #[.val (.int i0), .val (.int i1), .val (.int i2), .val (.int i3), .val (.int i4), .val (.ref bs_1), .val (.ref bs_2), .val (.ref bs_3), .val (.int (i0 &&& (3 : Int32))), .val (.ref b4), .val (.ref w1a), .val (.ref b2_20), .unset, .unset] [(.int (i0 &&& (3 : Int32))), (.int (1 : Int32))]))
      have hp26 : (1 : Int32) = (i0 &&& (3 : Int32)) := by
        have j1 : (1 : Int) ≤ ((1 : Int32)).toInt ∧ ((1 : Int32)).toInt ≤ 1 := ⟨by decide, by decide⟩
        have j2 := own_c32 (i0)
        have j3 : (3 : Int) ≤ ((3 : Int32)).toInt ∧ ((3 : Int32)).toInt ≤ 3 := ⟨by decide, by decide⟩
        have j4 := own_maskE32 i0 (3 : Int32) 2 4 (by decide) (by decide) (by decide) (by decide)
        have j5 : (0 : Int) ≤ ((i0 &&& (3 : Int32))).toInt ∧ ((i0 &&& (3 : Int32))).toInt ≤ 3 := j4.2
        have j6 := own_nlt32 hc11
        have j7 : (2 : Int) ≤ ((2 : Int32)).toInt ∧ ((2 : Int32)).toInt ≤ 2 := ⟨by decide, by decide⟩
        have j8 := Int32.lt_iff_toInt_lt.mp hc21
        have j9 : (1 : Int) ≤ ((i0 &&& (3 : Int32))).toInt ∧ ((i0 &&& (3 : Int32))).toInt ≤ 1 := by constructor <;> omega
        have j10 := own_nlt32 hc11
        have j11 := Int32.lt_iff_toInt_lt.mp hc21
        rw [← Int32.toInt_inj]
        omega
      refine Go.st (fun t k => XS.icmpYes X25.here hx rfl (pc0 := 128) (pc' := 133) rfl (hb hby at_128) rfl (Jvm.Free.XT.ii_eq_t hp26) (by decide) (by decide) k) ?_
      show Go p e below _ (T25.setTop (mkF m 133 #[.val (.int i0), .val (.int i1), .val (.int i2), .val (.int i3), .val (.int i4), .val (.ref bs_1), .val (.ref bs_2), .val (.ref bs_3), .val (.int (i0 &&& (3 : Int32))), .val (.ref b4), .val (.ref w1a), .val (.ref b2_20), .unset, .unset] []))
      refine Go.st (fun t k => XS.iconst X25.here hx rfl (hb hby at_133) k) ?_
      show Go p e below _ (T25.setTop (mkF m 134 #[.val (.int i0), .val (.int i1), .val (.int i2), .val (.int i3), .val (.int i4), .val (.ref bs_1), .val (.ref bs_2), .val (.ref bs_3), .val (.int (i0 &&& (3 : Int32))), .val (.ref b4), .val (.ref w1a), .val (.ref b2_20), .unset, .unset] [(.int (1 : Int32))]))
      refine Go.st (fun t k => XS.istore X25.here hx rfl (hb hby at_134) rfl (l' := #[.val (.int i0), .val (.int i1), .val (.int i2), .val (.int i3), .val (.int i4), .val (.ref bs_1), .val (.ref bs_2), .val (.ref bs_3), .val (.int (i0 &&& (3 : Int32))), .val (.ref b4), .val (.ref w1a), .val (.ref b2_20), .val (.int (1 : Int32)), .unset]) rfl k) ?_
      show Go p e below _ (T25.setTop (mkF m 136 #[.val (.int i0), .val (.int i1), .val (.int i2), .val (.int i3), .val (.int i4), .val (.ref bs_1), .val (.ref bs_2), .val (.ref bs_3), .val (.int (i0 &&& (3 : Int32))), .val (.ref b4), .val (.ref w1a), .val (.ref b2_20), .val (.int (1 : Int32)), .unset] []))
      refine Go.st (fun t k => XS.iload X25.here hx rfl (hb hby at_136) rfl k) ?_
      show Go p e below _ (T25.setTop (mkF m 138 #[.val (.int i0), .val (.int i1), .val (.int i2), .val (.int i3), .val (.int i4), .val (.ref bs_1), .val (.ref bs_2), .val (.ref bs_3), .val (.int (i0 &&& (3 : Int32))), .val (.ref b4), .val (.ref w1a), .val (.ref b2_20), .val (.int (1 : Int32)), .unset] [(.int (i0 &&& (3 : Int32)))]))
      refine Go.st (fun t k => XS.iconst X25.here hx rfl (hb hby at_138) k) ?_
      show Go p e below _ (T25.setTop (mkF m 139 #[.val (.int i0), .val (.int i1), .val (.int i2), .val (.int i3), .val (.int i4), .val (.ref bs_1), .val (.ref bs_2), .val (.ref bs_3), .val (.int (i0 &&& (3 : Int32))), .val (.ref b4), .val (.ref w1a), .val (.ref b2_20), .val (.int (1 : Int32)), .unset] [(.int (1 : Int32)), (.int (i0 &&& (3 : Int32)))]))
      refine Go.st (fun t k => XS.icmpNo X25.here hx rfl (hb hby at_139) rfl (Jvm.Free.XT.ii_lt_f hc11) k) ?_
      show Go p e below _ (T25.setTop (mkF m 142 #[.val (.int i0), .val (.int i1), .val (.int i2), .val (.int i3), .val (.int i4), .val (.ref bs_1), .val (.ref bs_2), .val (.ref bs_3), .val (.int (i0 &&& (3 : Int32))), .val (.ref b4), .val (.ref w1a), .val (.ref b2_20), .val (.int (1 : Int32)), .unset] []))
      refine Go.st (fun t k => XS.iload X25.here hx rfl (hb hby at_142) rfl k) ?_
      show Go p e below _ (T25.setTop (mkF m 144 #[.val (.int i0), .val (.int i1), .val (.int i2), .val (.int i3), .val (.int i4), .val (.ref bs_1), .val (.ref bs_2), .val (.ref bs_3), .val (.int (i0 &&& (3 : Int32))), .val (.ref b4), .val (.ref w1a), .val (.ref b2_20), .val (.int (1 : Int32)), .unset] [(.int (1 : Int32))]))
      refine Go.st (fun t k => XS.ifNo X25.here hx rfl (hb hby at_144) rfl (Jvm.Free.XT.i0_eq_f (by decide : ¬ ((1 : Int32) = (0 : Int32)))) k) ?_
      show Go p e below _ (T25.setTop (mkF m 147 #[.val (.int i0), .val (.int i1), .val (.int i2), .val (.int i3), .val (.int i4), .val (.ref bs_1), .val (.ref bs_2), .val (.ref bs_3), .val (.int (i0 &&& (3 : Int32))), .val (.ref b4), .val (.ref w1a), .val (.ref b2_20), .val (.int (1 : Int32)), .unset] []))
      refine Go.st (fun t k => XS.aload X25.here hx rfl (hb hby at_147) rfl rfl k) ?_
      show Go p e below _ (T25.setTop (mkF m 149 #[.val (.int i0), .val (.int i1), .val (.int i2), .val (.int i3), .val (.int i4), .val (.ref bs_1), .val (.ref bs_2), .val (.ref bs_3), .val (.int (i0 &&& (3 : Int32))), .val (.ref b4), .val (.ref w1a), .val (.ref b2_20), .val (.int (1 : Int32)), .unset] [(.ref b2_20)]))
      refine Go.st (fun t k => XS.iconst X25.here hx rfl (hb hby at_149) k) ?_
      show Go p e below _ (T25.setTop (mkF m 150 #[.val (.int i0), .val (.int i1), .val (.int i2), .val (.int i3), .val (.int i4), .val (.ref bs_1), .val (.ref bs_2), .val (.ref bs_3), .val (.int (i0 &&& (3 : Int32))), .val (.ref b4), .val (.ref w1a), .val (.ref b2_20), .val (.int (1 : Int32)), .unset] [(.int (0 : Int32)), (.ref b2_20)]))
      obtain ⟨cq27, kq27, q27a, q27b, q27c⟩ := isOf hZ eh25 r20_9
      obtain ⟨_, _, ⟨T27, L27, k27, n27⟩, -, X27, ⟨Lc27, hQ27, l27, y27, z27⟩, st27⟩ := X25.interfaceBack hx (xi := (⟨"java/util/List", "get", "(I)Ljava/lang/Object;"⟩ : MethodName)) (y := (⟨"java/util/ArrayList", "get", "(I)Ljava/lang/Object;"⟩ : MethodName)) hown (mvT hZ (w138 hw)) (mvT hZ (w139 hw)) (mvT hZ (w140 hw)) (mvT hZ (w141 hw)) (mvT hZ (w142 hw)) (mvT hZ (w143 hw)) (mvT hZ (w144 hw)) (mvT hZ (w105 hw)) (by decide) (backOf (W := 0) (rm19_1 l Z a0 hw [] b2_20 b6_2_2_7_10_20 k6_2_2_7_10_20 bs_1 T20.heap n0 O20 r20_12 r20_9 r20_11 r20_13) hZ (w145 hw) (w76 hw) (by decide) (by decide)) q27a q27b q27c (g := (mkF m 150 #[.val (.int i0), .val (.int i1), .val (.int i2), .val (.int i3), .val (.int i4), .val (.ref bs_1), .val (.ref bs_2), .val (.ref bs_3), .val (.int (i0 &&& (3 : Int32))), .val (.ref b4), .val (.ref w1a), .val (.ref b2_20), .val (.int (1 : Int32)), .unset] [(.int (0 : Int32)), (.ref b2_20)])) rfl (by rw [hml]; rfl) (Steps.refl _) (argsL := [(.int (0 : Int32))]) (rest := []) (lenOf pd_21 rfl) rfl (by show 2 * 0 + _ ≤ _; exact Nat.le_of_eq rfl) (hb hby at_150) (fun vm₁ hw₁ => ⟨rfl, eh25, (by decide : 18 + 0 ≤ _), (by decide : 43 + 0 ≤ _)⟩)
      dsimp only [Pt.U, Pt.locs, Pt.cells, Pt.slots] at X27 l27 y27 z27 st27 hQ27
      subst l27 y27 z27
      obtain ⟨rfl, M27, eh27⟩ := hQ27
      have N27 := Fr.app N25 M27
      refine Go.tr st27 ?_
      show Go p e below _ (T27.setTop (mkF m 155 #[.val (.int i0), .val (.int i1), .val (.int i2), .val (.int i3), .val (.int i4), .val (.ref bs_1), .val (.ref bs_2), .val (.ref bs_3), .val (.int (i0 &&& (3 : Int32))), .val (.ref b4), .val (.ref w1a), .val (.ref b2_20), .val (.int (1 : Int32)), .unset] [(.ref bs_1)]))
      obtain ⟨T28, X28, e28, st28⟩ := castY X27 hx hZ hown (w4 hw) eh27 (Ins.self (c19.keep K20c)) (g := (mkF m 155 #[.val (.int i0), .val (.int i1), .val (.int i2), .val (.int i3), .val (.int i4), .val (.ref bs_1), .val (.ref bs_2), .val (.ref bs_3), .val (.int (i0 &&& (3 : Int32))), .val (.ref b4), .val (.ref w1a), .val (.ref b2_20), .val (.int (1 : Int32)), .unset] [(.ref bs_1)])) rfl rfl (hb hby at_155)
      refine Go.st st28 ?_
      show Go p e below _ (T28.setTop (mkF m 158 #[.val (.int i0), .val (.int i1), .val (.int i2), .val (.int i3), .val (.int i4), .val (.ref bs_1), .val (.ref bs_2), .val (.ref bs_3), .val (.int (i0 &&& (3 : Int32))), .val (.ref b4), .val (.ref w1a), .val (.ref b2_20), .val (.int (1 : Int32)), .unset] [(.ref bs_1)]))
      refine Go.st (fun t k => XS.aload X28.here hx rfl (hb hby at_158) rfl rfl k) ?_
      show Go p e below _ (T28.setTop (mkF m 160 #[.val (.int i0), .val (.int i1), .val (.int i2), .val (.int i3), .val (.int i4), .val (.ref bs_1), .val (.ref bs_2), .val (.ref bs_3), .val (.int (i0 &&& (3 : Int32))), .val (.ref b4), .val (.ref w1a), .val (.ref b2_20), .val (.int (1 : Int32)), .unset] [(.ref bs_1), (.ref bs_1)]))
      obtain ⟨cq29, kq29, q29a, q29b, q29c⟩ := isOf hZ e28 (c19.keep K20c)
      obtain ⟨_, _, ⟨T29, L29, k29, n29⟩, -, X29, ⟨Lc29, hQ29, l29, y29, z29⟩, st29⟩ := X28.virtualBack hx (y := (⟨"java/lang/String", "equals", "(Ljava/lang/Object;)Z"⟩ : MethodName)) (z := (⟨"java/lang/String", "equals", "(Ljava/lang/Object;)Z"⟩ : MethodName)) hown (mvT hZ (w159 hw)) (mvT hZ (w160 hw)) (notFace_of_selects (args := #[]) (mvT hZ (w162 hw))) (mvT hZ (w162 hw)) (mvT hZ (w161 hw)) (by decide) (backOf (W := 0) (rm23_1 l Z a0 hw [] bs_1 T20.heap n0 O20 ) hZ (w163 hw) (w6 hw) (by decide) (by decide)) q29a q29c (g := (mkF m 160 #[.val (.int i0), .val (.int i1), .val (.int i2), .val (.int i3), .val (.int i4), .val (.ref bs_1), .val (.ref bs_2), .val (.ref bs_3), .val (.int (i0 &&& (3 : Int32))), .val (.ref b4), .val (.ref w1a), .val (.ref b2_20), .val (.int (1 : Int32)), .unset] [(.ref bs_1), (.ref bs_1)])) rfl (by rw [hml]; rfl) (Steps.refl _) (argsL := [(.ref bs_1)]) (rest := []) (lenOf pd_18 rfl) rfl (by show 2 * 0 + _ ≤ _; exact Nat.le_of_eq rfl) (hb hby at_160) (fun vm₁ hw₁ => ⟨rfl, e28, (by decide : 18 + 0 ≤ _), (by decide : 43 + 0 ≤ _)⟩)
      dsimp only [Pt.U, Pt.locs, Pt.cells, Pt.slots] at X29 l29 y29 z29 st29 hQ29
      subst l29 y29 z29
      obtain ⟨rfl, M29, eh29⟩ := hQ29
      have N29 := Fr.app N27 M29
      refine Go.tr st29 ?_
      show Go p e below _ (T29.setTop (mkF m 163 #[.val (.int i0), .val (.int i1), .val (.int i2), .val (.int i3), .val (.int i4), .val (.ref bs_1), .val (.ref bs_2), .val (.ref bs_3), .val (.int (i0 &&& (3 : Int32))), .val (.ref b4), .val (.ref w1a), .val (.ref b2_20), .val (.int (1 : Int32)), .unset] [(.int (1 : Int32))]))
      refine Go.st (fun t k => XS.ifNo X29.here hx rfl (hb hby at_163) rfl (Jvm.Free.XT.i0_eq_f (by decide : ¬ ((1 : Int32) = (0 : Int32)))) k) ?_
      show Go p e below _ (T29.setTop (mkF m 166 #[.val (.int i0), .val (.int i1), .val (.int i2), .val (.int i3), .val (.int i4), .val (.ref bs_1), .val (.ref bs_2), .val (.ref bs_3), .val (.int (i0 &&& (3 : Int32))), .val (.ref b4), .val (.ref w1a), .val (.ref b2_20), .val (.int (1 : Int32)), .unset] []))
      refine Go.st (fun t k => XS.iconst X29.here hx rfl (hb hby at_166) k) ?_
      show Go p e below _ (T29.setTop (mkF m 167 #[.val (.int i0), .val (.int i1), .val (.int i2), .val (.int i3), .val (.int i4), .val (.ref bs_1), .val (.ref bs_2), .val (.ref bs_3), .val (.int (i0 &&& (3 : Int32))), .val (.ref b4), .val (.ref w1a), .val (.ref b2_20), .val (.int (1 : Int32)), .unset] [(.int (1 : Int32))]))
      refine Go.st (fun t k => XS.goto X29.here hx rfl (pc0 := 167) (pc' := 171) rfl (hb hby at_167) (by decide) (by decide) k) ?_
      show Go p e below _ (T29.setTop (mkF m 171 #[.val (.int i0), .val (.int i1), .val (.int i2), .val (.int i3), .val (.int i4), .val (.ref bs_1), .val (.ref bs_2), .val (.ref bs_3), .val (.int (i0 &&& (3 : Int32))), .val (.ref b4), .val (.ref w1a), .val (.ref b2_20), .val (.int (1 : Int32)), .unset] [(.int (1 : Int32))]))
      refine Go.st (fun t k => XS.istore X29.here hx rfl (hb hby at_171) rfl (l' := #[.val (.int i0), .val (.int i1), .val (.int i2), .val (.int i3), .val (.int i4), .val (.ref bs_1), .val (.ref bs_2), .val (.ref bs_3), .val (.int (i0 &&& (3 : Int32))), .val (.ref b4), .val (.ref w1a), .val (.ref b2_20), .val (.int (1 : Int32)), .unset]) rfl k) ?_
      show Go p e below _ (T29.setTop (mkF m 173 #[.val (.int i0), .val (.int i1), .val (.int i2), .val (.int i3), .val (.int i4), .val (.ref bs_1), .val (.ref bs_2), .val (.ref bs_3), .val (.int (i0 &&& (3 : Int32))), .val (.ref b4), .val (.ref w1a), .val (.ref b2_20), .val (.int (1 : Int32)), .unset] []))
      refine Go.st (fun t k => XS.iload X29.here hx rfl (hb hby at_173) rfl k) ?_
      show Go p e below _ (T29.setTop (mkF m 175 #[.val (.int i0), .val (.int i1), .val (.int i2), .val (.int i3), .val (.int i4), .val (.ref bs_1), .val (.ref bs_2), .val (.ref bs_3), .val (.int (i0 &&& (3 : Int32))), .val (.ref b4), .val (.ref w1a), .val (.ref b2_20), .val (.int (1 : Int32)), .unset] [(.int (i0 &&& (3 : Int32)))]))
      refine Go.st (fun t k => XS.iconst X29.here hx rfl (hb hby at_175) k) ?_
      show Go p e below _ (T29.setTop (mkF m 176 #[.val (.int i0), .val (.int i1), .val (.int i2), .val (.int i3), .val (.int i4), .val (.ref bs_1), .val (.ref bs_2), .val (.ref bs_3), .val (.int (i0 &&& (3 : Int32))), .val (.ref b4), .val (.ref w1a), .val (.ref b2_20), .val (.int (1 : Int32)), .unset] [(.int (2 : Int32)), (.int (i0 &&& (3 : Int32)))]))
      refine Go.st (fun t k => XS.icmpYes X29.here hx rfl (pc0 := 176) (pc' := 210) rfl (hb hby at_176) rfl (Jvm.Free.XT.ii_lt_t hc21) (by decide) (by decide) k) ?_
      show Go p e below _ (T29.setTop (mkF m 210 #[.val (.int i0), .val (.int i1), .val (.int i2), .val (.int i3), .val (.int i4), .val (.ref bs_1), .val (.ref bs_2), .val (.ref bs_3), .val (.int (i0 &&& (3 : Int32))), .val (.ref b4), .val (.ref w1a), .val (.ref b2_20), .val (.int (1 : Int32)), .unset] []))
      refine Go.st (fun t k => XS.iload X29.here hx rfl (hb hby at_210) rfl k) ?_
      show Go p e below _ (T29.setTop (mkF m 212 #[.val (.int i0), .val (.int i1), .val (.int i2), .val (.int i3), .val (.int i4), .val (.ref bs_1), .val (.ref bs_2), .val (.ref bs_3), .val (.int (i0 &&& (3 : Int32))), .val (.ref b4), .val (.ref w1a), .val (.ref b2_20), .val (.int (1 : Int32)), .unset] [(.int (i0 &&& (3 : Int32)))]))
      refine Go.st (fun t k => XS.iconst X29.here hx rfl (hb hby at_212) k) ?_
      show Go p e below _ (T29.setTop (mkF m 213 #[.val (.int i0), .val (.int i1), .val (.int i2), .val (.int i3), .val (.int i4), .val (.ref bs_1), .val (.ref bs_2), .val (.ref bs_3), .val (.int (i0 &&& (3 : Int32))), .val (.ref b4), .val (.ref w1a), .val (.ref b2_20), .val (.int (1 : Int32)), .unset] [(.int (3 : Int32)), (.int (i0 &&& (3 : Int32)))]))
      refine Go.st (fun t k => XS.icmpYes X29.here hx rfl (pc0 := 213) (pc' := 247) rfl (hb hby at_213) rfl (Jvm.Free.XT.ii_lt_t hp22) (by decide) (by decide) k) ?_
      show Go p e below _ (T29.setTop (mkF m 247 #[.val (.int i0), .val (.int i1), .val (.int i2), .val (.int i3), .val (.int i4), .val (.ref bs_1), .val (.ref bs_2), .val (.ref bs_3), .val (.int (i0 &&& (3 : Int32))), .val (.ref b4), .val (.ref w1a), .val (.ref b2_20), .val (.int (1 : Int32)), .unset] []))
      refine Go.st (fun t k => XS.aload X29.here hx rfl (hb hby at_247) rfl rfl k) ?_
      show Go p e below _ (T29.setTop (mkF m 249 #[.val (.int i0), .val (.int i1), .val (.int i2), .val (.int i3), .val (.int i4), .val (.ref bs_1), .val (.ref bs_2), .val (.ref bs_3), .val (.int (i0 &&& (3 : Int32))), .val (.ref b4), .val (.ref w1a), .val (.ref b2_20), .val (.int (1 : Int32)), .unset] [(.ref b4)]))
      obtain ⟨cq30, kq30, q30a, q30b, q30c⟩ := isOf hZ eh29 c24
      obtain ⟨_, _, ⟨T30, L30, k30, n30⟩, -, X30, ⟨Lc30, hQ30, l30, y30, z30⟩, st30⟩ := X29.virtualBack hx (y := (⟨"com/example/cropmark/cropmark/Row", "problems", "()Ljava/util/List;"⟩ : MethodName)) (z := (⟨"com/example/cropmark/cropmark/Row", "problems", "()Ljava/util/List;"⟩ : MethodName)) hown (mvT hZ (w44 hw)) (mvT hZ (w45 hw)) (notFace_of_selects (args := #[]) (mvT hZ (w47 hw))) (mvT hZ (w47 hw)) (mvT hZ (w46 hw)) (by decide) (backOf (W := 0) (rm6_2 l Z a0 hw [] b4 b2_20 T20.heap n0 O20 r20_3) hZ (w48 hw) (w28 hw) (by decide) (by decide)) q30a q30c (g := (mkF m 249 #[.val (.int i0), .val (.int i1), .val (.int i2), .val (.int i3), .val (.int i4), .val (.ref bs_1), .val (.ref bs_2), .val (.ref bs_3), .val (.int (i0 &&& (3 : Int32))), .val (.ref b4), .val (.ref w1a), .val (.ref b2_20), .val (.int (1 : Int32)), .unset] [(.ref b4)])) rfl (by rw [hml]; rfl) (Steps.refl _) (argsL := []) (rest := []) (lenOf pd_11 rfl) rfl (by show 2 * 0 + _ ≤ _; exact Nat.le_of_eq rfl) (hb hby at_249) (fun vm₁ hw₁ => ⟨rfl, eh29, (by decide : 18 + 0 ≤ _), (by decide : 43 + 0 ≤ _)⟩)
      dsimp only [Pt.U, Pt.locs, Pt.cells, Pt.slots] at X30 l30 y30 z30 st30 hQ30
      subst l30 y30 z30
      obtain ⟨rfl, M30, eh30⟩ := hQ30
      have N30 := Fr.app N29 M30
      refine Go.tr st30 ?_
      show Go p e below _ (T30.setTop (mkF m 252 #[.val (.int i0), .val (.int i1), .val (.int i2), .val (.int i3), .val (.int i4), .val (.ref bs_1), .val (.ref bs_2), .val (.ref bs_3), .val (.int (i0 &&& (3 : Int32))), .val (.ref b4), .val (.ref w1a), .val (.ref b2_20), .val (.int (1 : Int32)), .unset] [(.ref b2_20)]))
      refine Go.st (fun t k => XS.astore X30.here hx rfl (hb hby at_252) rfl rfl (l' := #[.val (.int i0), .val (.int i1), .val (.int i2), .val (.int i3), .val (.int i4), .val (.ref bs_1), .val (.ref bs_2), .val (.ref bs_3), .val (.int (i0 &&& (3 : Int32))), .val (.ref b4), .val (.ref w1a), .val (.ref b2_20), .val (.int (1 : Int32)), .val (.ref b2_20)]) rfl k) ?_
      show Go p e below _ (T30.setTop (mkF m 254 #[.val (.int i0), .val (.int i1), .val (.int i2), .val (.int i3), .val (.int i4), .val (.ref bs_1), .val (.ref bs_2), .val (.ref bs_3), .val (.int (i0 &&& (3 : Int32))), .val (.ref b4), .val (.ref w1a), .val (.ref b2_20), .val (.int (1 : Int32)), .val (.ref b2_20)] []))
      refine Go.st (fun t k => XS.aload X30.here hx rfl (hb hby at_254) rfl rfl k) ?_
      show Go p e below _ (T30.setTop (mkF m 256 #[.val (.int i0), .val (.int i1), .val (.int i2), .val (.int i3), .val (.int i4), .val (.ref bs_1), .val (.ref bs_2), .val (.ref bs_3), .val (.int (i0 &&& (3 : Int32))), .val (.ref b4), .val (.ref w1a), .val (.ref b2_20), .val (.int (1 : Int32)), .val (.ref b2_20)] [(.ref b2_20)]))
      refine Go.st (fun t k => XS.ifnullNo X30.here hx rfl (hb hby at_256) rfl k) ?_
      show Go p e below _ (T30.setTop (mkF m 259 #[.val (.int i0), .val (.int i1), .val (.int i2), .val (.int i3), .val (.int i4), .val (.ref bs_1), .val (.ref bs_2), .val (.ref bs_3), .val (.int (i0 &&& (3 : Int32))), .val (.ref b4), .val (.ref w1a), .val (.ref b2_20), .val (.int (1 : Int32)), .val (.ref b2_20)] []))
      refine Go.st (fun t k => XS.aload X30.here hx rfl (hb hby at_259) rfl rfl k) ?_
      show Go p e below _ (T30.setTop (mkF m 261 #[.val (.int i0), .val (.int i1), .val (.int i2), .val (.int i3), .val (.int i4), .val (.ref bs_1), .val (.ref bs_2), .val (.ref bs_3), .val (.int (i0 &&& (3 : Int32))), .val (.ref b4), .val (.ref w1a), .val (.ref b2_20), .val (.int (1 : Int32)), .val (.ref b2_20)] [(.ref b2_20)]))
      obtain ⟨cq31, kq31, q31a, q31b, q31c⟩ := isOf hZ eh30 r20_9
      obtain ⟨_, _, ⟨T31, L31, k31, n31⟩, -, X31, ⟨Lc31, hQ31, l31, y31, z31⟩, st31⟩ := X30.interfaceBack hx (xi := (⟨"java/util/List", "size", "()I"⟩ : MethodName)) (y := (⟨"java/util/ArrayList", "size", "()I"⟩ : MethodName)) hown (mvT hZ (w57 hw)) (mvT hZ (w58 hw)) (mvT hZ (w59 hw)) (mvT hZ (w133 hw)) (mvT hZ (w134 hw)) (mvT hZ (w135 hw)) (mvT hZ (w136 hw)) (mvT hZ (w105 hw)) (by decide) (backOf (W := 0) (rm18_1 l Z a0 hw [] b2_20 T20.heap n0 O20 r20_12) hZ (w137 hw) (w76 hw) (by decide) (by decide)) q31a q31b q31c (g := (mkF m 261 #[.val (.int i0), .val (.int i1), .val (.int i2), .val (.int i3), .val (.int i4), .val (.ref bs_1), .val (.ref bs_2), .val (.ref bs_3), .val (.int (i0 &&& (3 : Int32))), .val (.ref b4), .val (.ref w1a), .val (.ref b2_20), .val (.int (1 : Int32)), .val (.ref b2_20)] [(.ref b2_20)])) rfl (by rw [hml]; rfl) (Steps.refl _) (argsL := []) (rest := []) (lenOf pd_12 rfl) rfl (by show 2 * 0 + _ ≤ _; exact Nat.le_of_eq rfl) (hb hby at_261) (fun vm₁ hw₁ => ⟨rfl, eh30, (by decide : 18 + 0 ≤ _), (by decide : 43 + 0 ≤ _)⟩)
      dsimp only [Pt.U, Pt.locs, Pt.cells, Pt.slots] at X31 l31 y31 z31 st31 hQ31
      subst l31 y31 z31
      obtain ⟨rfl, M31, eh31⟩ := hQ31
      have N31 := Fr.app N30 M31
      refine Go.tr st31 ?_
      show Go p e below _ (T31.setTop (mkF m 266 #[.val (.int i0), .val (.int i1), .val (.int i2), .val (.int i3), .val (.int i4), .val (.ref bs_1), .val (.ref bs_2), .val (.ref bs_3), .val (.int (i0 &&& (3 : Int32))), .val (.ref b4), .val (.ref w1a), .val (.ref b2_20), .val (.int (1 : Int32)), .val (.ref b2_20)] [(.int (1 : Int32))]))
      refine Go.st (fun t k => XS.iload X31.here hx rfl (hb hby at_266) rfl k) ?_
      show Go p e below _ (T31.setTop (mkF m 268 #[.val (.int i0), .val (.int i1), .val (.int i2), .val (.int i3), .val (.int i4), .val (.ref bs_1), .val (.ref bs_2), .val (.ref bs_3), .val (.int (i0 &&& (3 : Int32))), .val (.ref b4), .val (.ref w1a), .val (.ref b2_20), .val (.int (1 : Int32)), .val (.ref b2_20)] [(.int (i0 &&& (3 : Int32))), (.int (1 : Int32))]))
      refine Go.st (fun t k => XS.icmpYes X31.here hx rfl (pc0 := 268) (pc' := 273) rfl (hb hby at_268) rfl (Jvm.Free.XT.ii_eq_t hp26) (by decide) (by decide) k) ?_
      show Go p e below _ (T31.setTop (mkF m 273 #[.val (.int i0), .val (.int i1), .val (.int i2), .val (.int i3), .val (.int i4), .val (.ref bs_1), .val (.ref bs_2), .val (.ref bs_3), .val (.int (i0 &&& (3 : Int32))), .val (.ref b4), .val (.ref w1a), .val (.ref b2_20), .val (.int (1 : Int32)), .val (.ref b2_20)] []))
      refine Go.st (fun t k => XS.iload X31.here hx rfl (hb hby at_273) rfl k) ?_
      show Go p e below _ (T31.setTop (mkF m 275 #[.val (.int i0), .val (.int i1), .val (.int i2), .val (.int i3), .val (.int i4), .val (.ref bs_1), .val (.ref bs_2), .val (.ref bs_3), .val (.int (i0 &&& (3 : Int32))), .val (.ref b4), .val (.ref w1a), .val (.ref b2_20), .val (.int (1 : Int32)), .val (.ref b2_20)] [(.int (i0 &&& (3 : Int32)))]))
      refine Go.st (fun t k => XS.iconst X31.here hx rfl (hb hby at_275) k) ?_
      show Go p e below _ (T31.setTop (mkF m 276 #[.val (.int i0), .val (.int i1), .val (.int i2), .val (.int i3), .val (.int i4), .val (.ref bs_1), .val (.ref bs_2), .val (.ref bs_3), .val (.int (i0 &&& (3 : Int32))), .val (.ref b4), .val (.ref w1a), .val (.ref b2_20), .val (.int (1 : Int32)), .val (.ref b2_20)] [(.int (1 : Int32)), (.int (i0 &&& (3 : Int32)))]))
      refine Go.st (fun t k => XS.icmpNo X31.here hx rfl (hb hby at_276) rfl (Jvm.Free.XT.ii_lt_f hc11) k) ?_
      show Go p e below _ (T31.setTop (mkF m 279 #[.val (.int i0), .val (.int i1), .val (.int i2), .val (.int i3), .val (.int i4), .val (.ref bs_1), .val (.ref bs_2), .val (.ref bs_3), .val (.int (i0 &&& (3 : Int32))), .val (.ref b4), .val (.ref w1a), .val (.ref b2_20), .val (.int (1 : Int32)), .val (.ref b2_20)] []))
      refine Go.st (fun t k => XS.iload X31.here hx rfl (hb hby at_279) rfl k) ?_
      show Go p e below _ (T31.setTop (mkF m 281 #[.val (.int i0), .val (.int i1), .val (.int i2), .val (.int i3), .val (.int i4), .val (.ref bs_1), .val (.ref bs_2), .val (.ref bs_3), .val (.int (i0 &&& (3 : Int32))), .val (.ref b4), .val (.ref w1a), .val (.ref b2_20), .val (.int (1 : Int32)), .val (.ref b2_20)] [(.int (1 : Int32))]))
      refine Go.st (fun t k => XS.ifNo X31.here hx rfl (hb hby at_281) rfl (Jvm.Free.XT.i0_eq_f (by decide : ¬ ((1 : Int32) = (0 : Int32)))) k) ?_
      show Go p e below _ (T31.setTop (mkF m 284 #[.val (.int i0), .val (.int i1), .val (.int i2), .val (.int i3), .val (.int i4), .val (.ref bs_1), .val (.ref bs_2), .val (.ref bs_3), .val (.int (i0 &&& (3 : Int32))), .val (.ref b4), .val (.ref w1a), .val (.ref b2_20), .val (.int (1 : Int32)), .val (.ref b2_20)] []))
      refine Go.st (fun t k => XS.aload X31.here hx rfl (hb hby at_284) rfl rfl k) ?_
      show Go p e below _ (T31.setTop (mkF m 286 #[.val (.int i0), .val (.int i1), .val (.int i2), .val (.int i3), .val (.int i4), .val (.ref bs_1), .val (.ref bs_2), .val (.ref bs_3), .val (.int (i0 &&& (3 : Int32))), .val (.ref b4), .val (.ref w1a), .val (.ref b2_20), .val (.int (1 : Int32)), .val (.ref b2_20)] [(.ref b2_20)]))
      refine Go.st (fun t k => XS.iconst X31.here hx rfl (hb hby at_286) k) ?_
      show Go p e below _ (T31.setTop (mkF m 287 #[.val (.int i0), .val (.int i1), .val (.int i2), .val (.int i3), .val (.int i4), .val (.ref bs_1), .val (.ref bs_2), .val (.ref bs_3), .val (.int (i0 &&& (3 : Int32))), .val (.ref b4), .val (.ref w1a), .val (.ref b2_20), .val (.int (1 : Int32)), .val (.ref b2_20)] [(.int (0 : Int32)), (.ref b2_20)]))
      obtain ⟨cq32, kq32, q32a, q32b, q32c⟩ := isOf hZ eh31 r20_9
      obtain ⟨_, _, ⟨T32, L32, k32, n32⟩, -, X32, ⟨Lc32, hQ32, l32, y32, z32⟩, st32⟩ := X31.interfaceBack hx (xi := (⟨"java/util/List", "get", "(I)Ljava/lang/Object;"⟩ : MethodName)) (y := (⟨"java/util/ArrayList", "get", "(I)Ljava/lang/Object;"⟩ : MethodName)) hown (mvT hZ (w138 hw)) (mvT hZ (w139 hw)) (mvT hZ (w140 hw)) (mvT hZ (w141 hw)) (mvT hZ (w142 hw)) (mvT hZ (w143 hw)) (mvT hZ (w144 hw)) (mvT hZ (w105 hw)) (by decide) (backOf (W := 0) (rm19_1 l Z a0 hw [] b2_20 b6_2_2_7_10_20 k6_2_2_7_10_20 bs_1 T20.heap n0 O20 r20_12 r20_9 r20_11 r20_13) hZ (w145 hw) (w76 hw) (by decide) (by decide)) q32a q32b q32c (g := (mkF m 287 #[.val (.int i0), .val (.int i1), .val (.int i2), .val (.int i3), .val (.int i4), .val (.ref bs_1), .val (.ref bs_2), .val (.ref bs_3), .val (.int (i0 &&& (3 : Int32))), .val (.ref b4), .val (.ref w1a), .val (.ref b2_20), .val (.int (1 : Int32)), .val (.ref b2_20)] [(.int (0 : Int32)), (.ref b2_20)])) rfl (by rw [hml]; rfl) (Steps.refl _) (argsL := [(.int (0 : Int32))]) (rest := []) (lenOf pd_21 rfl) rfl (by show 2 * 0 + _ ≤ _; exact Nat.le_of_eq rfl) (hb hby at_287) (fun vm₁ hw₁ => ⟨rfl, eh31, (by decide : 18 + 0 ≤ _), (by decide : 43 + 0 ≤ _)⟩)
      dsimp only [Pt.U, Pt.locs, Pt.cells, Pt.slots] at X32 l32 y32 z32 st32 hQ32
      subst l32 y32 z32
      obtain ⟨rfl, M32, eh32⟩ := hQ32
      have N32 := Fr.app N31 M32
      refine Go.tr st32 ?_
      show Go p e below _ (T32.setTop (mkF m 292 #[.val (.int i0), .val (.int i1), .val (.int i2), .val (.int i3), .val (.int i4), .val (.ref bs_1), .val (.ref bs_2), .val (.ref bs_3), .val (.int (i0 &&& (3 : Int32))), .val (.ref b4), .val (.ref w1a), .val (.ref b2_20), .val (.int (1 : Int32)), .val (.ref b2_20)] [(.ref bs_1)]))
      obtain ⟨T33, X33, e33, st33⟩ := castY X32 hx hZ hown (w4 hw) eh32 (Ins.self (c19.keep K20c)) (g := (mkF m 292 #[.val (.int i0), .val (.int i1), .val (.int i2), .val (.int i3), .val (.int i4), .val (.ref bs_1), .val (.ref bs_2), .val (.ref bs_3), .val (.int (i0 &&& (3 : Int32))), .val (.ref b4), .val (.ref w1a), .val (.ref b2_20), .val (.int (1 : Int32)), .val (.ref b2_20)] [(.ref bs_1)])) rfl rfl (hb hby at_292)
      refine Go.st st33 ?_
      show Go p e below _ (T33.setTop (mkF m 295 #[.val (.int i0), .val (.int i1), .val (.int i2), .val (.int i3), .val (.int i4), .val (.ref bs_1), .val (.ref bs_2), .val (.ref bs_3), .val (.int (i0 &&& (3 : Int32))), .val (.ref b4), .val (.ref w1a), .val (.ref b2_20), .val (.int (1 : Int32)), .val (.ref b2_20)] [(.ref bs_1)]))
      refine Go.st (fun t k => XS.aload X33.here hx rfl (hb hby at_295) rfl rfl k) ?_
      show Go p e below _ (T33.setTop (mkF m 297 #[.val (.int i0), .val (.int i1), .val (.int i2), .val (.int i3), .val (.int i4), .val (.ref bs_1), .val (.ref bs_2), .val (.ref bs_3), .val (.int (i0 &&& (3 : Int32))), .val (.ref b4), .val (.ref w1a), .val (.ref b2_20), .val (.int (1 : Int32)), .val (.ref b2_20)] [(.ref bs_1), (.ref bs_1)]))
      obtain ⟨cq34, kq34, q34a, q34b, q34c⟩ := isOf hZ e33 (c19.keep K20c)
      obtain ⟨_, _, ⟨T34, L34, k34, n34⟩, -, X34, ⟨Lc34, hQ34, l34, y34, z34⟩, st34⟩ := X33.virtualBack hx (y := (⟨"java/lang/String", "equals", "(Ljava/lang/Object;)Z"⟩ : MethodName)) (z := (⟨"java/lang/String", "equals", "(Ljava/lang/Object;)Z"⟩ : MethodName)) hown (mvT hZ (w159 hw)) (mvT hZ (w160 hw)) (notFace_of_selects (args := #[]) (mvT hZ (w162 hw))) (mvT hZ (w162 hw)) (mvT hZ (w161 hw)) (by decide) (backOf (W := 0) (rm23_1 l Z a0 hw [] bs_1 T20.heap n0 O20 ) hZ (w163 hw) (w6 hw) (by decide) (by decide)) q34a q34c (g := (mkF m 297 #[.val (.int i0), .val (.int i1), .val (.int i2), .val (.int i3), .val (.int i4), .val (.ref bs_1), .val (.ref bs_2), .val (.ref bs_3), .val (.int (i0 &&& (3 : Int32))), .val (.ref b4), .val (.ref w1a), .val (.ref b2_20), .val (.int (1 : Int32)), .val (.ref b2_20)] [(.ref bs_1), (.ref bs_1)])) rfl (by rw [hml]; rfl) (Steps.refl _) (argsL := [(.ref bs_1)]) (rest := []) (lenOf pd_18 rfl) rfl (by show 2 * 0 + _ ≤ _; exact Nat.le_of_eq rfl) (hb hby at_297) (fun vm₁ hw₁ => ⟨rfl, e33, (by decide : 18 + 0 ≤ _), (by decide : 43 + 0 ≤ _)⟩)
      dsimp only [Pt.U, Pt.locs, Pt.cells, Pt.slots] at X34 l34 y34 z34 st34 hQ34
      subst l34 y34 z34
      obtain ⟨rfl, M34, eh34⟩ := hQ34
      have N34 := Fr.app N32 M34
      refine Go.tr st34 ?_
      show Go p e below _ (T34.setTop (mkF m 300 #[.val (.int i0), .val (.int i1), .val (.int i2), .val (.int i3), .val (.int i4), .val (.ref bs_1), .val (.ref bs_2), .val (.ref bs_3), .val (.int (i0 &&& (3 : Int32))), .val (.ref b4), .val (.ref w1a), .val (.ref b2_20), .val (.int (1 : Int32)), .val (.ref b2_20)] [(.int (1 : Int32))]))
      refine Go.st (fun t k => XS.ifNo X34.here hx rfl (hb hby at_300) rfl (Jvm.Free.XT.i0_eq_f (by decide : ¬ ((1 : Int32) = (0 : Int32)))) k) ?_
      show Go p e below _ (T34.setTop (mkF m 303 #[.val (.int i0), .val (.int i1), .val (.int i2), .val (.int i3), .val (.int i4), .val (.ref bs_1), .val (.ref bs_2), .val (.ref bs_3), .val (.int (i0 &&& (3 : Int32))), .val (.ref b4), .val (.ref w1a), .val (.ref b2_20), .val (.int (1 : Int32)), .val (.ref b2_20)] []))
      refine Go.st (fun t k => XS.iconst X34.here hx rfl (hb hby at_303) k) ?_
      show Go p e below _ (T34.setTop (mkF m 304 #[.val (.int i0), .val (.int i1), .val (.int i2), .val (.int i3), .val (.int i4), .val (.ref bs_1), .val (.ref bs_2), .val (.ref bs_3), .val (.int (i0 &&& (3 : Int32))), .val (.ref b4), .val (.ref w1a), .val (.ref b2_20), .val (.int (1 : Int32)), .val (.ref b2_20)] [(.int (1 : Int32))]))
      refine Go.st (fun t k => XS.goto X34.here hx rfl (pc0 := 304) (pc' := 308) rfl (hb hby at_304) (by decide) (by decide) k) ?_
      show Go p e below _ (T34.setTop (mkF m 308 #[.val (.int i0), .val (.int i1), .val (.int i2), .val (.int i3), .val (.int i4), .val (.ref bs_1), .val (.ref bs_2), .val (.ref bs_3), .val (.int (i0 &&& (3 : Int32))), .val (.ref b4), .val (.ref w1a), .val (.ref b2_20), .val (.int (1 : Int32)), .val (.ref b2_20)] [(.int (1 : Int32))]))
      refine Go.st (fun t k => XS.istore X34.here hx rfl (hb hby at_308) rfl (l' := #[.val (.int i0), .val (.int i1), .val (.int i2), .val (.int i3), .val (.int i4), .val (.ref bs_1), .val (.ref bs_2), .val (.ref bs_3), .val (.int (i0 &&& (3 : Int32))), .val (.ref b4), .val (.ref w1a), .val (.ref b2_20), .val (.int (1 : Int32)), .val (.ref b2_20)]) rfl k) ?_
      show Go p e below _ (T34.setTop (mkF m 310 #[.val (.int i0), .val (.int i1), .val (.int i2), .val (.int i3), .val (.int i4), .val (.ref bs_1), .val (.ref bs_2), .val (.ref bs_3), .val (.int (i0 &&& (3 : Int32))), .val (.ref b4), .val (.ref w1a), .val (.ref b2_20), .val (.int (1 : Int32)), .val (.ref b2_20)] []))
      refine Go.st (fun t k => XS.iload X34.here hx rfl (hb hby at_310) rfl k) ?_
      show Go p e below _ (T34.setTop (mkF m 312 #[.val (.int i0), .val (.int i1), .val (.int i2), .val (.int i3), .val (.int i4), .val (.ref bs_1), .val (.ref bs_2), .val (.ref bs_3), .val (.int (i0 &&& (3 : Int32))), .val (.ref b4), .val (.ref w1a), .val (.ref b2_20), .val (.int (1 : Int32)), .val (.ref b2_20)] [(.int (i0 &&& (3 : Int32)))]))
      refine Go.st (fun t k => XS.iconst X34.here hx rfl (hb hby at_312) k) ?_
      show Go p e below _ (T34.setTop (mkF m 313 #[.val (.int i0), .val (.int i1), .val (.int i2), .val (.int i3), .val (.int i4), .val (.ref bs_1), .val (.ref bs_2), .val (.ref bs_3), .val (.int (i0 &&& (3 : Int32))), .val (.ref b4), .val (.ref w1a), .val (.ref b2_20), .val (.int (1 : Int32)), .val (.ref b2_20)] [(.int (3 : Int32)), (.int (i0 &&& (3 : Int32)))]))
      refine Go.st (fun t k => XS.icmpYes X34.here hx rfl (pc0 := 313) (pc' := 347) rfl (hb hby at_313) rfl (Jvm.Free.XT.ii_lt_t hp22) (by decide) (by decide) k) ?_
      show Go p e below _ (T34.setTop (mkF m 347 #[.val (.int i0), .val (.int i1), .val (.int i2), .val (.int i3), .val (.int i4), .val (.ref bs_1), .val (.ref bs_2), .val (.ref bs_3), .val (.int (i0 &&& (3 : Int32))), .val (.ref b4), .val (.ref w1a), .val (.ref b2_20), .val (.int (1 : Int32)), .val (.ref b2_20)] []))
      refine Go.st (fun t k => XS.iload X34.here hx rfl (hb hby at_347) rfl k) ?_
      show Go p e below _ (T34.setTop (mkF m 349 #[.val (.int i0), .val (.int i1), .val (.int i2), .val (.int i3), .val (.int i4), .val (.ref bs_1), .val (.ref bs_2), .val (.ref bs_3), .val (.int (i0 &&& (3 : Int32))), .val (.ref b4), .val (.ref w1a), .val (.ref b2_20), .val (.int (1 : Int32)), .val (.ref b2_20)] [(.int (1 : Int32))]))
      obtain ⟨fs, hr, hrun, hended, hEnd⟩ := X34.leaveW hS3 (by rw [eh34]; exact (Nat.le_trans (Nat.le_trans (Nat.le_trans (Nat.le_trans (Nat.le_trans (Nat.le_trans (Nat.le_refl _) E4.1) E5.1) E6.1) E7.1) K8c.1) K20c.1)) (v := some (.int (1 : Int32))) (fun h => by rw [Bd.returns] at h; cases h)
      refine ⟨_, _, ?_, hrun, hended, _, _, rfl, ?_, ⟨hEnd.1, hEnd.2.1, hEnd.2.2.1, hEnd.2.2.2.mono (by decide) (by decide)⟩⟩
      · exact retN X34 hx (t := .boolean) Bd.returns (by simp) (hb hby at_349) hr
      · exact ⟨rfl, N34⟩
    · refine Go.st (fun t k => XS.icmpNo X20.here hx rfl (hb hby at_84) rfl (Jvm.Free.XT.ii_lt_f hc21) k) ?_
      show Go p e below _ (T20.setTop (mkF m 87 #[.val (.int i0), .val (.int i1), .val (.int i2), .val (.int i3), .val (.int i4), .val (.ref bs_1), .val (.ref bs_2), .val (.ref bs_3), .val (.int (i0 &&& (3 : Int32))), .val (.ref b4), .val (.ref w1a), .unset, .unset, .unset] []))
      refine Go.st (fun t k => XS.aload X20.here hx rfl (hb hby at_87) rfl rfl k) ?_
      show Go p e below _ (T20.setTop (mkF m 89 #[.val (.int i0), .val (.int i1), .val (.int i2), .val (.int i3), .val (.int i4), .val (.ref bs_1), .val (.ref bs_2), .val (.ref bs_3), .val (.int (i0 &&& (3 : Int32))), .val (.ref b4), .val (.ref w1a), .unset, .unset, .unset] [(.ref b4)]))
      refine Go.st (fun t k => XS.aload X20.here hx rfl (hb hby at_89) rfl rfl k) ?_
      show Go p e below _ (T20.setTop (mkF m 91 #[.val (.int i0), .val (.int i1), .val (.int i2), .val (.int i3), .val (.int i4), .val (.ref bs_1), .val (.ref bs_2), .val (.ref bs_3), .val (.int (i0 &&& (3 : Int32))), .val (.ref b4), .val (.ref w1a), .unset, .unset, .unset] [(.ref bs_2), (.ref b4)]))
      have c35 := (((((((r2_0.keep K3c).ext E4).ext E5).ext E6).ext E7).keep K8c).keep K20c)
      have c37 := (((((A4.ext E5).ext E6).ext E7).keep K8c).keep K20c)
      obtain ⟨cq36, kq36, q36a, q36b, q36c⟩ := isOf hZ rfl c37
      obtain ⟨_, _, ⟨T36, L36, k36, n36⟩, -, X36, ⟨Lc36, hQ36, l36, y36, z36⟩, st36⟩ := X20.virtualBack hx (y := (⟨"com/example/cropmark/cropmark/Row", "problem", "(Ljava/lang/String;)V"⟩ : MethodName)) (z := (⟨"com/example/cropmark/cropmark/Row", "problem", "(Ljava/lang/String;)V"⟩ : MethodName)) hown (mvT hZ (w69 hw)) (mvT hZ (w70 hw)) (notFace_of_selects (args := #[]) (mvT hZ (w72 hw))) (mvT hZ (w72 hw)) (mvT hZ (w71 hw)) (by decide) (backOf (W := 0) (rm9_2 l Z a0 hw [] b4 bs_2 b2_20 b6_2_2_7_10_20 k6_2_2_7_10_20 bs_1 T20.heap n0 O20 r20_3 r20_9 r20_10 g_b2_20 r20_11 r20_12 r20_13 g_b6_2_2_7_10_20 c35 r20_14 r20_2) hZ (w73 hw) (w28 hw) (by decide) (by decide)) q36a q36c (g := (mkF m 91 #[.val (.int i0), .val (.int i1), .val (.int i2), .val (.int i3), .val (.int i4), .val (.ref bs_1), .val (.ref bs_2), .val (.ref bs_3), .val (.int (i0 &&& (3 : Int32))), .val (.ref b4), .val (.ref w1a), .unset, .unset, .unset] [(.ref bs_2), (.ref b4)])) rfl (by rw [hml]; rfl) (Steps.refl _) (argsL := [(.ref bs_2)]) (rest := []) (lenOf pd_19 rfl) rfl (by show 2 * 0 + _ ≤ _; exact Nat.le_of_eq rfl) (hb hby at_91) (fun vm₁ hw₁ => ⟨rfl, rfl, (by decide : 18 + 0 ≤ _), (by decide : 43 + 0 ≤ _)⟩)
      dsimp only [Pt.U, Pt.locs, Pt.cells, Pt.slots] at X36 l36 y36 z36 st36 hQ36
      subst l36 y36 z36
      obtain ⟨rfl, M36, K36c, r36_0, r36_1, r36_2, r36_3⟩ := hQ36
      have N36 := Fr.app N20 M36
      have O36 : Old Z n0 T36.heap := O20.keep K36c (allS g_b6_2_2_7_10_20 (allS g_b2_20 all0))
      refine Go.tr st36 ?_
      show Go p e below _ (T36.setTop (mkF m 94 #[.val (.int i0), .val (.int i1), .val (.int i2), .val (.int i3), .val (.int i4), .val (.ref bs_1), .val (.ref bs_2), .val (.ref bs_3), .val (.int (i0 &&& (3 : Int32))), .val (.ref b4), .val (.ref w1a), .unset, .unset, .unset] []))
      refine Go.st (fun t k => XS.iload X36.here hx rfl (hb hby at_94) rfl k) ?_
      show Go p e below _ (T36.setTop (mkF m 96 #[.val (.int i0), .val (.int i1), .val (.int i2), .val (.int i3), .val (.int i4), .val (.ref bs_1), .val (.ref bs_2), .val (.ref bs_3), .val (.int (i0 &&& (3 : Int32))), .val (.ref b4), .val (.ref w1a), .unset, .unset, .unset] [(.int (i0 &&& (3 : Int32)))]))
      refine Go.st (fun t k => XS.iconst X36.here hx rfl (hb hby at_96) k) ?_
      show Go p e below _ (T36.setTop (mkF m 97 #[.val (.int i0), .val (.int i1), .val (.int i2), .val (.int i3), .val (.int i4), .val (.ref bs_1), .val (.ref bs_2), .val (.ref bs_3), .val (.int (i0 &&& (3 : Int32))), .val (.ref b4), .val (.ref w1a), .unset, .unset, .unset] [(.int (3 : Int32)), (.int (i0 &&& (3 : Int32)))]))
      by_cases hc38 : (i0 &&& (3 : Int32)) < (3 : Int32)
      · refine Go.st (fun t k => XS.icmpYes X36.here hx rfl (pc0 := 97) (pc' := 107) rfl (hb hby at_97) rfl (Jvm.Free.XT.ii_lt_t hc38) (by decide) (by decide) k) ?_
        show Go p e below _ (T36.setTop (mkF m 107 #[.val (.int i0), .val (.int i1), .val (.int i2), .val (.int i3), .val (.int i4), .val (.ref bs_1), .val (.ref bs_2), .val (.ref bs_3), .val (.int (i0 &&& (3 : Int32))), .val (.ref b4), .val (.ref w1a), .unset, .unset, .unset] []))
        refine Go.st (fun t k => XS.aload X36.here hx rfl (hb hby at_107) rfl rfl k) ?_
        show Go p e below _ (T36.setTop (mkF m 109 #[.val (.int i0), .val (.int i1), .val (.int i2), .val (.int i3), .val (.int i4), .val (.ref bs_1), .val (.ref bs_2), .val (.ref bs_3), .val (.int (i0 &&& (3 : Int32))), .val (.ref b4), .val (.ref w1a), .unset, .unset, .unset] [(.ref b4)]))
        have c39 := (r20_3.keep K36c (ninS (Nat.ne_of_lt (Nat.lt_of_lt_of_le (Nat.lt_of_lt_of_le (Nat.lt_of_lt_of_le (Nat.lt_of_lt_of_le (Nat.lt_of_lt_of_le A4.lt E5.1) E6.1) E7.1) K8c.1) r20_1)) (ninS (Nat.ne_of_lt (Nat.lt_of_lt_of_le (Nat.lt_of_lt_of_le (Nat.lt_of_lt_of_le (Nat.lt_of_lt_of_le (Nat.lt_of_lt_of_le A4.lt E5.1) E6.1) E7.1) K8c.1) r20_0)) nin0)))
        obtain ⟨cq40, kq40, q40a, q40b, q40c⟩ := isOf hZ rfl (c37.keep K36c)
        obtain ⟨_, _, ⟨T40, L40, k40, n40⟩, -, X40, ⟨Lc40, hQ40, l40, y40, z40⟩, st40⟩ := X36.virtualBack hx (y := (⟨"com/example/cropmark/cropmark/Row", "problems", "()Ljava/util/List;"⟩ : MethodName)) (z := (⟨"com/example/cropmark/cropmark/Row", "problems", "()Ljava/util/List;"⟩ : MethodName)) hown (mvT hZ (w44 hw)) (mvT hZ (w45 hw)) (notFace_of_selects (args := #[]) (mvT hZ (w47 hw))) (mvT hZ (w47 hw)) (mvT hZ (w46 hw)) (by decide) (backOf (W := 0) (rm6_2 l Z a0 hw [] b4 b2_20 T36.heap n0 O36 c39) hZ (w48 hw) (w28 hw) (by decide) (by decide)) q40a q40c (g := (mkF m 109 #[.val (.int i0), .val (.int i1), .val (.int i2), .val (.int i3), .val (.int i4), .val (.ref bs_1), .val (.ref bs_2), .val (.ref bs_3), .val (.int (i0 &&& (3 : Int32))), .val (.ref b4), .val (.ref w1a), .unset, .unset, .unset] [(.ref b4)])) rfl (by rw [hml]; rfl) (Steps.refl _) (argsL := []) (rest := []) (lenOf pd_11 rfl) rfl (by show 2 * 0 + _ ≤ _; exact Nat.le_of_eq rfl) (hb hby at_109) (fun vm₁ hw₁ => ⟨rfl, rfl, (by decide : 18 + 0 ≤ _), (by decide : 43 + 0 ≤ _)⟩)
        dsimp only [Pt.U, Pt.locs, Pt.cells, Pt.slots] at X40 l40 y40 z40 st40 hQ40
        subst l40 y40 z40
        obtain ⟨rfl, M40, eh40⟩ := hQ40
        have N40 := Fr.app N36 M40
        refine Go.tr st40 ?_
        show Go p e below _ (T40.setTop (mkF m 112 #[.val (.int i0), .val (.int i1), .val (.int i2), .val (.int i3), .val (.int i4), .val (.ref bs_1), .val (.ref bs_2), .val (.ref bs_3), .val (.int (i0 &&& (3 : Int32))), .val (.ref b4), .val (.ref w1a), .unset, .unset, .unset] [(.ref b2_20)]))
        refine Go.st (fun t k => XS.astore X40.here hx rfl (hb hby at_112) rfl rfl (l' := #[.val (.int i0), .val (.int i1), .val (.int i2), .val (.int i3), .val (.int i4), .val (.ref bs_1), .val (.ref bs_2), .val (.ref bs_3), .val (.int (i0 &&& (3 : Int32))), .val (.ref b4), .val (.ref w1a), .val (.ref b2_20), .unset, .unset]) rfl k) ?_
        show Go p e below _ (T40.setTop (mkF m 114 #[.val (.int i0), .val (.int i1), .val (.int i2), .val (.int i3), .val (.int i4), .val (.ref bs_1), .val (.ref bs_2), .val (.ref bs_3), .val (.int (i0 &&& (3 : Int32))), .val (.ref b4), .val (.ref w1a), .val (.ref b2_20), .unset, .unset] []))
        refine Go.st (fun t k => XS.aload X40.here hx rfl (hb hby at_114) rfl rfl k) ?_
        show Go p e below _ (T40.setTop (mkF m 116 #[.val (.int i0), .val (.int i1), .val (.int i2), .val (.int i3), .val (.int i4), .val (.ref bs_1), .val (.ref bs_2), .val (.ref bs_3), .val (.int (i0 &&& (3 : Int32))), .val (.ref b4), .val (.ref w1a), .val (.ref b2_20), .unset, .unset] [(.ref b2_20)]))
        refine Go.st (fun t k => XS.ifnullNo X40.here hx rfl (hb hby at_116) rfl k) ?_
        show Go p e below _ (T40.setTop (mkF m 119 #[.val (.int i0), .val (.int i1), .val (.int i2), .val (.int i3), .val (.int i4), .val (.ref bs_1), .val (.ref bs_2), .val (.ref bs_3), .val (.int (i0 &&& (3 : Int32))), .val (.ref b4), .val (.ref w1a), .val (.ref b2_20), .unset, .unset] []))
        refine Go.st (fun t k => XS.aload X40.here hx rfl (hb hby at_119) rfl rfl k) ?_
        show Go p e below _ (T40.setTop (mkF m 121 #[.val (.int i0), .val (.int i1), .val (.int i2), .val (.int i3), .val (.int i4), .val (.ref bs_1), .val (.ref bs_2), .val (.ref bs_3), .val (.int (i0 &&& (3 : Int32))), .val (.ref b4), .val (.ref w1a), .val (.ref b2_20), .unset, .unset] [(.ref b2_20)]))
        obtain ⟨cq41, kq41, q41a, q41b, q41c⟩ := isOf hZ eh40 (r20_9.keep K36c)
        obtain ⟨_, _, ⟨T41, L41, k41, n41⟩, -, X41, ⟨Lc41, hQ41, l41, y41, z41⟩, st41⟩ := X40.interfaceBack hx (xi := (⟨"java/util/List", "size", "()I"⟩ : MethodName)) (y := (⟨"java/util/ArrayList", "size", "()I"⟩ : MethodName)) hown (mvT hZ (w57 hw)) (mvT hZ (w58 hw)) (mvT hZ (w59 hw)) (mvT hZ (w133 hw)) (mvT hZ (w134 hw)) (mvT hZ (w135 hw)) (mvT hZ (w136 hw)) (mvT hZ (w105 hw)) (by decide) (backOf (W := 0) (rm18_2 l Z a0 hw [] b2_20 T36.heap n0 O36 r36_3) hZ (w137 hw) (w76 hw) (by decide) (by decide)) q41a q41b q41c (g := (mkF m 121 #[.val (.int i0), .val (.int i1), .val (.int i2), .val (.int i3), .val (.int i4), .val (.ref bs_1), .val (.ref bs_2), .val (.ref bs_3), .val (.int (i0 &&& (3 : Int32))), .val (.ref b4), .val (.ref w1a), .val (.ref b2_20), .unset, .unset] [(.ref b2_20)])) rfl (by rw [hml]; rfl) (Steps.refl _) (argsL := []) (rest := []) (lenOf pd_12 rfl) rfl (by show 2 * 0 + _ ≤ _; exact Nat.le_of_eq rfl) (hb hby at_121) (fun vm₁ hw₁ => ⟨rfl, eh40, (by decide : 18 + 0 ≤ _), (by decide : 43 + 0 ≤ _)⟩)
        dsimp only [Pt.U, Pt.locs, Pt.cells, Pt.slots] at X41 l41 y41 z41 st41 hQ41
        subst l41 y41 z41
        obtain ⟨rfl, M41, eh41⟩ := hQ41
        have N41 := Fr.app N40 M41
        refine Go.tr st41 ?_
        show Go p e below _ (T41.setTop (mkF m 126 #[.val (.int i0), .val (.int i1), .val (.int i2), .val (.int i3), .val (.int i4), .val (.ref bs_1), .val (.ref bs_2), .val (.ref bs_3), .val (.int (i0 &&& (3 : Int32))), .val (.ref b4), .val (.ref w1a), .val (.ref b2_20), .unset, .unset] [(.int (2 : Int32))]))
        refine Go.st (fun t k => XS.iload X41.here hx rfl (hb hby at_126) rfl k) ?_
        show Go p e below _ (T41.setTop (mkF m 128 #[.val (.int i0), .val (.int i1), .val (.int i2), .val (.int i3), .val (.int i4), .val (.ref bs_1), .val (.ref bs_2), .val (.ref bs_3), .val (.int (i0 &&& (3 : Int32))), .val (.ref b4), .val (.ref w1a), .val (.ref b2_20), .unset, .unset] [(.int (i0 &&& (3 : Int32))), (.int (2 : Int32))]))
        have hp42 : (2 : Int32) = (i0 &&& (3 : Int32)) := by
          have j1 : (2 : Int) ≤ ((2 : Int32)).toInt ∧ ((2 : Int32)).toInt ≤ 2 := ⟨by decide, by decide⟩
          have j2 := own_c32 (i0)
          have j3 : (3 : Int) ≤ ((3 : Int32)).toInt ∧ ((3 : Int32)).toInt ≤ 3 := ⟨by decide, by decide⟩
          have j4 := own_maskE32 i0 (3 : Int32) 2 4 (by decide) (by decide) (by decide) (by decide)
          have j5 : (0 : Int) ≤ ((i0 &&& (3 : Int32))).toInt ∧ ((i0 &&& (3 : Int32))).toInt ≤ 3 := j4.2
          have j6 : (1 : Int) ≤ ((1 : Int32)).toInt ∧ ((1 : Int32)).toInt ≤ 1 := ⟨by decide, by decide⟩
          have j7 := own_nlt32 hc11
          have j8 := own_nlt32 hc21
          have j9 := Int32.lt_iff_toInt_lt.mp hc38
          have j10 : (2 : Int) ≤ ((i0 &&& (3 : Int32))).toInt ∧ ((i0 &&& (3 : Int32))).toInt ≤ 2 := by constructor <;> omega
          have j11 := own_nlt32 hc11
          have j12 := own_nlt32 hc21
          have j13 := Int32.lt_iff_toInt_lt.mp hc38
          rw [← Int32.toInt_inj]
          omega
        refine Go.st (fun t k => XS.icmpYes X41.here hx rfl (pc0 := 128) (pc' := 133) rfl (hb hby at_128) rfl (Jvm.Free.XT.ii_eq_t hp42) (by decide) (by decide) k) ?_
        show Go p e below _ (T41.setTop (mkF m 133 #[.val (.int i0), .val (.int i1), .val (.int i2), .val (.int i3), .val (.int i4), .val (.ref bs_1), .val (.ref bs_2), .val (.ref bs_3), .val (.int (i0 &&& (3 : Int32))), .val (.ref b4), .val (.ref w1a), .val (.ref b2_20), .unset, .unset] []))
        refine Go.st (fun t k => XS.iconst X41.here hx rfl (hb hby at_133) k) ?_
        show Go p e below _ (T41.setTop (mkF m 134 #[.val (.int i0), .val (.int i1), .val (.int i2), .val (.int i3), .val (.int i4), .val (.ref bs_1), .val (.ref bs_2), .val (.ref bs_3), .val (.int (i0 &&& (3 : Int32))), .val (.ref b4), .val (.ref w1a), .val (.ref b2_20), .unset, .unset] [(.int (1 : Int32))]))
        refine Go.st (fun t k => XS.istore X41.here hx rfl (hb hby at_134) rfl (l' := #[.val (.int i0), .val (.int i1), .val (.int i2), .val (.int i3), .val (.int i4), .val (.ref bs_1), .val (.ref bs_2), .val (.ref bs_3), .val (.int (i0 &&& (3 : Int32))), .val (.ref b4), .val (.ref w1a), .val (.ref b2_20), .val (.int (1 : Int32)), .unset]) rfl k) ?_
        show Go p e below _ (T41.setTop (mkF m 136 #[.val (.int i0), .val (.int i1), .val (.int i2), .val (.int i3), .val (.int i4), .val (.ref bs_1), .val (.ref bs_2), .val (.ref bs_3), .val (.int (i0 &&& (3 : Int32))), .val (.ref b4), .val (.ref w1a), .val (.ref b2_20), .val (.int (1 : Int32)), .unset] []))
        refine Go.st (fun t k => XS.iload X41.here hx rfl (hb hby at_136) rfl k) ?_
        show Go p e below _ (T41.setTop (mkF m 138 #[.val (.int i0), .val (.int i1), .val (.int i2), .val (.int i3), .val (.int i4), .val (.ref bs_1), .val (.ref bs_2), .val (.ref bs_3), .val (.int (i0 &&& (3 : Int32))), .val (.ref b4), .val (.ref w1a), .val (.ref b2_20), .val (.int (1 : Int32)), .unset] [(.int (i0 &&& (3 : Int32)))]))
        refine Go.st (fun t k => XS.iconst X41.here hx rfl (hb hby at_138) k) ?_
        show Go p e below _ (T41.setTop (mkF m 139 #[.val (.int i0), .val (.int i1), .val (.int i2), .val (.int i3), .val (.int i4), .val (.ref bs_1), .val (.ref bs_2), .val (.ref bs_3), .val (.int (i0 &&& (3 : Int32))), .val (.ref b4), .val (.ref w1a), .val (.ref b2_20), .val (.int (1 : Int32)), .unset] [(.int (1 : Int32)), (.int (i0 &&& (3 : Int32)))]))
        refine Go.st (fun t k => XS.icmpNo X41.here hx rfl (hb hby at_139) rfl (Jvm.Free.XT.ii_lt_f hc11) k) ?_
        show Go p e below _ (T41.setTop (mkF m 142 #[.val (.int i0), .val (.int i1), .val (.int i2), .val (.int i3), .val (.int i4), .val (.ref bs_1), .val (.ref bs_2), .val (.ref bs_3), .val (.int (i0 &&& (3 : Int32))), .val (.ref b4), .val (.ref w1a), .val (.ref b2_20), .val (.int (1 : Int32)), .unset] []))
        refine Go.st (fun t k => XS.iload X41.here hx rfl (hb hby at_142) rfl k) ?_
        show Go p e below _ (T41.setTop (mkF m 144 #[.val (.int i0), .val (.int i1), .val (.int i2), .val (.int i3), .val (.int i4), .val (.ref bs_1), .val (.ref bs_2), .val (.ref bs_3), .val (.int (i0 &&& (3 : Int32))), .val (.ref b4), .val (.ref w1a), .val (.ref b2_20), .val (.int (1 : Int32)), .unset] [(.int (1 : Int32))]))
        refine Go.st (fun t k => XS.ifNo X41.here hx rfl (hb hby at_144) rfl (Jvm.Free.XT.i0_eq_f (by decide : ¬ ((1 : Int32) = (0 : Int32)))) k) ?_
        show Go p e below _ (T41.setTop (mkF m 147 #[.val (.int i0), .val (.int i1), .val (.int i2), .val (.int i3), .val (.int i4), .val (.ref bs_1), .val (.ref bs_2), .val (.ref bs_3), .val (.int (i0 &&& (3 : Int32))), .val (.ref b4), .val (.ref w1a), .val (.ref b2_20), .val (.int (1 : Int32)), .unset] []))
        refine Go.st (fun t k => XS.aload X41.here hx rfl (hb hby at_147) rfl rfl k) ?_
        show Go p e below _ (T41.setTop (mkF m 149 #[.val (.int i0), .val (.int i1), .val (.int i2), .val (.int i3), .val (.int i4), .val (.ref bs_1), .val (.ref bs_2), .val (.ref bs_3), .val (.int (i0 &&& (3 : Int32))), .val (.ref b4), .val (.ref w1a), .val (.ref b2_20), .val (.int (1 : Int32)), .unset] [(.ref b2_20)]))
        refine Go.st (fun t k => XS.iconst X41.here hx rfl (hb hby at_149) k) ?_
        show Go p e below _ (T41.setTop (mkF m 150 #[.val (.int i0), .val (.int i1), .val (.int i2), .val (.int i3), .val (.int i4), .val (.ref bs_1), .val (.ref bs_2), .val (.ref bs_3), .val (.int (i0 &&& (3 : Int32))), .val (.ref b4), .val (.ref w1a), .val (.ref b2_20), .val (.int (1 : Int32)), .unset] [(.int (0 : Int32)), (.ref b2_20)]))
        obtain ⟨cq43, kq43, q43a, q43b, q43c⟩ := isOf hZ eh41 (r20_9.keep K36c)
        obtain ⟨_, _, ⟨T43, L43, k43, n43⟩, -, X43, ⟨Lc43, hQ43, l43, y43, z43⟩, st43⟩ := X41.interfaceBack hx (xi := (⟨"java/util/List", "get", "(I)Ljava/lang/Object;"⟩ : MethodName)) (y := (⟨"java/util/ArrayList", "get", "(I)Ljava/lang/Object;"⟩ : MethodName)) hown (mvT hZ (w138 hw)) (mvT hZ (w139 hw)) (mvT hZ (w140 hw)) (mvT hZ (w141 hw)) (mvT hZ (w142 hw)) (mvT hZ (w143 hw)) (mvT hZ (w144 hw)) (mvT hZ (w105 hw)) (by decide) (backOf (W := 0) (rm19_2 l Z a0 hw [] b2_20 b6_2_2_7_10_20 k6_2_2_7_10_20 bs_1 bs_2 T36.heap n0 O36 r36_3 (r20_9.keep K36c) r36_2 r36_0) hZ (w145 hw) (w76 hw) (by decide) (by decide)) q43a q43b q43c (g := (mkF m 150 #[.val (.int i0), .val (.int i1), .val (.int i2), .val (.int i3), .val (.int i4), .val (.ref bs_1), .val (.ref bs_2), .val (.ref bs_3), .val (.int (i0 &&& (3 : Int32))), .val (.ref b4), .val (.ref w1a), .val (.ref b2_20), .val (.int (1 : Int32)), .unset] [(.int (0 : Int32)), (.ref b2_20)])) rfl (by rw [hml]; rfl) (Steps.refl _) (argsL := [(.int (0 : Int32))]) (rest := []) (lenOf pd_21 rfl) rfl (by show 2 * 0 + _ ≤ _; exact Nat.le_of_eq rfl) (hb hby at_150) (fun vm₁ hw₁ => ⟨rfl, eh41, (by decide : 18 + 0 ≤ _), (by decide : 43 + 0 ≤ _)⟩)
        dsimp only [Pt.U, Pt.locs, Pt.cells, Pt.slots] at X43 l43 y43 z43 st43 hQ43
        subst l43 y43 z43
        obtain ⟨rfl, M43, eh43⟩ := hQ43
        have N43 := Fr.app N41 M43
        refine Go.tr st43 ?_
        show Go p e below _ (T43.setTop (mkF m 155 #[.val (.int i0), .val (.int i1), .val (.int i2), .val (.int i3), .val (.int i4), .val (.ref bs_1), .val (.ref bs_2), .val (.ref bs_3), .val (.int (i0 &&& (3 : Int32))), .val (.ref b4), .val (.ref w1a), .val (.ref b2_20), .val (.int (1 : Int32)), .unset] [(.ref bs_1)]))
        obtain ⟨T44, X44, e44, st44⟩ := castY X43 hx hZ hown (w4 hw) eh43 (Ins.self ((c19.keep K20c).keep K36c)) (g := (mkF m 155 #[.val (.int i0), .val (.int i1), .val (.int i2), .val (.int i3), .val (.int i4), .val (.ref bs_1), .val (.ref bs_2), .val (.ref bs_3), .val (.int (i0 &&& (3 : Int32))), .val (.ref b4), .val (.ref w1a), .val (.ref b2_20), .val (.int (1 : Int32)), .unset] [(.ref bs_1)])) rfl rfl (hb hby at_155)
        refine Go.st st44 ?_
        show Go p e below _ (T44.setTop (mkF m 158 #[.val (.int i0), .val (.int i1), .val (.int i2), .val (.int i3), .val (.int i4), .val (.ref bs_1), .val (.ref bs_2), .val (.ref bs_3), .val (.int (i0 &&& (3 : Int32))), .val (.ref b4), .val (.ref w1a), .val (.ref b2_20), .val (.int (1 : Int32)), .unset] [(.ref bs_1)]))
        refine Go.st (fun t k => XS.aload X44.here hx rfl (hb hby at_158) rfl rfl k) ?_
        show Go p e below _ (T44.setTop (mkF m 160 #[.val (.int i0), .val (.int i1), .val (.int i2), .val (.int i3), .val (.int i4), .val (.ref bs_1), .val (.ref bs_2), .val (.ref bs_3), .val (.int (i0 &&& (3 : Int32))), .val (.ref b4), .val (.ref w1a), .val (.ref b2_20), .val (.int (1 : Int32)), .unset] [(.ref bs_1), (.ref bs_1)]))
        obtain ⟨cq45, kq45, q45a, q45b, q45c⟩ := isOf hZ e44 ((c19.keep K20c).keep K36c)
        obtain ⟨_, _, ⟨T45, L45, k45, n45⟩, -, X45, ⟨Lc45, hQ45, l45, y45, z45⟩, st45⟩ := X44.virtualBack hx (y := (⟨"java/lang/String", "equals", "(Ljava/lang/Object;)Z"⟩ : MethodName)) (z := (⟨"java/lang/String", "equals", "(Ljava/lang/Object;)Z"⟩ : MethodName)) hown (mvT hZ (w159 hw)) (mvT hZ (w160 hw)) (notFace_of_selects (args := #[]) (mvT hZ (w162 hw))) (mvT hZ (w162 hw)) (mvT hZ (w161 hw)) (by decide) (backOf (W := 0) (rm23_1 l Z a0 hw [] bs_1 T36.heap n0 O36 ) hZ (w163 hw) (w6 hw) (by decide) (by decide)) q45a q45c (g := (mkF m 160 #[.val (.int i0), .val (.int i1), .val (.int i2), .val (.int i3), .val (.int i4), .val (.ref bs_1), .val (.ref bs_2), .val (.ref bs_3), .val (.int (i0 &&& (3 : Int32))), .val (.ref b4), .val (.ref w1a), .val (.ref b2_20), .val (.int (1 : Int32)), .unset] [(.ref bs_1), (.ref bs_1)])) rfl (by rw [hml]; rfl) (Steps.refl _) (argsL := [(.ref bs_1)]) (rest := []) (lenOf pd_18 rfl) rfl (by show 2 * 0 + _ ≤ _; exact Nat.le_of_eq rfl) (hb hby at_160) (fun vm₁ hw₁ => ⟨rfl, e44, (by decide : 18 + 0 ≤ _), (by decide : 43 + 0 ≤ _)⟩)
        dsimp only [Pt.U, Pt.locs, Pt.cells, Pt.slots] at X45 l45 y45 z45 st45 hQ45
        subst l45 y45 z45
        obtain ⟨rfl, M45, eh45⟩ := hQ45
        have N45 := Fr.app N43 M45
        refine Go.tr st45 ?_
        show Go p e below _ (T45.setTop (mkF m 163 #[.val (.int i0), .val (.int i1), .val (.int i2), .val (.int i3), .val (.int i4), .val (.ref bs_1), .val (.ref bs_2), .val (.ref bs_3), .val (.int (i0 &&& (3 : Int32))), .val (.ref b4), .val (.ref w1a), .val (.ref b2_20), .val (.int (1 : Int32)), .unset] [(.int (1 : Int32))]))
        refine Go.st (fun t k => XS.ifNo X45.here hx rfl (hb hby at_163) rfl (Jvm.Free.XT.i0_eq_f (by decide : ¬ ((1 : Int32) = (0 : Int32)))) k) ?_
        show Go p e below _ (T45.setTop (mkF m 166 #[.val (.int i0), .val (.int i1), .val (.int i2), .val (.int i3), .val (.int i4), .val (.ref bs_1), .val (.ref bs_2), .val (.ref bs_3), .val (.int (i0 &&& (3 : Int32))), .val (.ref b4), .val (.ref w1a), .val (.ref b2_20), .val (.int (1 : Int32)), .unset] []))
        refine Go.st (fun t k => XS.iconst X45.here hx rfl (hb hby at_166) k) ?_
        show Go p e below _ (T45.setTop (mkF m 167 #[.val (.int i0), .val (.int i1), .val (.int i2), .val (.int i3), .val (.int i4), .val (.ref bs_1), .val (.ref bs_2), .val (.ref bs_3), .val (.int (i0 &&& (3 : Int32))), .val (.ref b4), .val (.ref w1a), .val (.ref b2_20), .val (.int (1 : Int32)), .unset] [(.int (1 : Int32))]))
        refine Go.st (fun t k => XS.goto X45.here hx rfl (pc0 := 167) (pc' := 171) rfl (hb hby at_167) (by decide) (by decide) k) ?_
        show Go p e below _ (T45.setTop (mkF m 171 #[.val (.int i0), .val (.int i1), .val (.int i2), .val (.int i3), .val (.int i4), .val (.ref bs_1), .val (.ref bs_2), .val (.ref bs_3), .val (.int (i0 &&& (3 : Int32))), .val (.ref b4), .val (.ref w1a), .val (.ref b2_20), .val (.int (1 : Int32)), .unset] [(.int (1 : Int32))]))
        refine Go.st (fun t k => XS.istore X45.here hx rfl (hb hby at_171) rfl (l' := #[.val (.int i0), .val (.int i1), .val (.int i2), .val (.int i3), .val (.int i4), .val (.ref bs_1), .val (.ref bs_2), .val (.ref bs_3), .val (.int (i0 &&& (3 : Int32))), .val (.ref b4), .val (.ref w1a), .val (.ref b2_20), .val (.int (1 : Int32)), .unset]) rfl k) ?_
        show Go p e below _ (T45.setTop (mkF m 173 #[.val (.int i0), .val (.int i1), .val (.int i2), .val (.int i3), .val (.int i4), .val (.ref bs_1), .val (.ref bs_2), .val (.ref bs_3), .val (.int (i0 &&& (3 : Int32))), .val (.ref b4), .val (.ref w1a), .val (.ref b2_20), .val (.int (1 : Int32)), .unset] []))
        refine Go.st (fun t k => XS.iload X45.here hx rfl (hb hby at_173) rfl k) ?_
        show Go p e below _ (T45.setTop (mkF m 175 #[.val (.int i0), .val (.int i1), .val (.int i2), .val (.int i3), .val (.int i4), .val (.ref bs_1), .val (.ref bs_2), .val (.ref bs_3), .val (.int (i0 &&& (3 : Int32))), .val (.ref b4), .val (.ref w1a), .val (.ref b2_20), .val (.int (1 : Int32)), .unset] [(.int (i0 &&& (3 : Int32)))]))
        refine Go.st (fun t k => XS.iconst X45.here hx rfl (hb hby at_175) k) ?_
        show Go p e below _ (T45.setTop (mkF m 176 #[.val (.int i0), .val (.int i1), .val (.int i2), .val (.int i3), .val (.int i4), .val (.ref bs_1), .val (.ref bs_2), .val (.ref bs_3), .val (.int (i0 &&& (3 : Int32))), .val (.ref b4), .val (.ref w1a), .val (.ref b2_20), .val (.int (1 : Int32)), .unset] [(.int (2 : Int32)), (.int (i0 &&& (3 : Int32)))]))
        refine Go.st (fun t k => XS.icmpNo X45.here hx rfl (hb hby at_176) rfl (Jvm.Free.XT.ii_lt_f hc21) k) ?_
        show Go p e below _ (T45.setTop (mkF m 179 #[.val (.int i0), .val (.int i1), .val (.int i2), .val (.int i3), .val (.int i4), .val (.ref bs_1), .val (.ref bs_2), .val (.ref bs_3), .val (.int (i0 &&& (3 : Int32))), .val (.ref b4), .val (.ref w1a), .val (.ref b2_20), .val (.int (1 : Int32)), .unset] []))
        refine Go.st (fun t k => XS.iload X45.here hx rfl (hb hby at_179) rfl k) ?_
        show Go p e below _ (T45.setTop (mkF m 181 #[.val (.int i0), .val (.int i1), .val (.int i2), .val (.int i3), .val (.int i4), .val (.ref bs_1), .val (.ref bs_2), .val (.ref bs_3), .val (.int (i0 &&& (3 : Int32))), .val (.ref b4), .val (.ref w1a), .val (.ref b2_20), .val (.int (1 : Int32)), .unset] [(.int (1 : Int32))]))
        refine Go.st (fun t k => XS.ifNo X45.here hx rfl (hb hby at_181) rfl (Jvm.Free.XT.i0_eq_f (by decide : ¬ ((1 : Int32) = (0 : Int32)))) k) ?_
        show Go p e below _ (T45.setTop (mkF m 184 #[.val (.int i0), .val (.int i1), .val (.int i2), .val (.int i3), .val (.int i4), .val (.ref bs_1), .val (.ref bs_2), .val (.ref bs_3), .val (.int (i0 &&& (3 : Int32))), .val (.ref b4), .val (.ref w1a), .val (.ref b2_20), .val (.int (1 : Int32)), .unset] []))
        refine Go.st (fun t k => XS.aload X45.here hx rfl (hb hby at_184) rfl rfl k) ?_
        show Go p e below _ (T45.setTop (mkF m 186 #[.val (.int i0), .val (.int i1), .val (.int i2), .val (.int i3), .val (.int i4), .val (.ref bs_1), .val (.ref bs_2), .val (.ref bs_3), .val (.int (i0 &&& (3 : Int32))), .val (.ref b4), .val (.ref w1a), .val (.ref b2_20), .val (.int (1 : Int32)), .unset] [(.ref b2_20)]))
        refine Go.st (fun t k => XS.iconst X45.here hx rfl (hb hby at_186) k) ?_
        show Go p e below _ (T45.setTop (mkF m 187 #[.val (.int i0), .val (.int i1), .val (.int i2), .val (.int i3), .val (.int i4), .val (.ref bs_1), .val (.ref bs_2), .val (.ref bs_3), .val (.int (i0 &&& (3 : Int32))), .val (.ref b4), .val (.ref w1a), .val (.ref b2_20), .val (.int (1 : Int32)), .unset] [(.int (1 : Int32)), (.ref b2_20)]))
        obtain ⟨cq46, kq46, q46a, q46b, q46c⟩ := isOf hZ eh45 (r20_9.keep K36c)
        obtain ⟨_, _, ⟨T46, L46, k46, n46⟩, -, X46, ⟨Lc46, hQ46, l46, y46, z46⟩, st46⟩ := X45.interfaceBack hx (xi := (⟨"java/util/List", "get", "(I)Ljava/lang/Object;"⟩ : MethodName)) (y := (⟨"java/util/ArrayList", "get", "(I)Ljava/lang/Object;"⟩ : MethodName)) hown (mvT hZ (w138 hw)) (mvT hZ (w139 hw)) (mvT hZ (w140 hw)) (mvT hZ (w141 hw)) (mvT hZ (w142 hw)) (mvT hZ (w143 hw)) (mvT hZ (w144 hw)) (mvT hZ (w105 hw)) (by decide) (backOf (W := 0) (rm19_3 l Z a0 hw [] b2_20 b6_2_2_7_10_20 k6_2_2_7_10_20 bs_1 bs_2 T36.heap n0 O36 r36_3 (r20_9.keep K36c) r36_2 r36_0) hZ (w145 hw) (w76 hw) (by decide) (by decide)) q46a q46b q46c (g := (mkF m 187 #[.val (.int i0), .val (.int i1), .val (.int i2), .val (.int i3), .val (.int i4), .val (.ref bs_1), .val (.ref bs_2), .val (.ref bs_3), .val (.int (i0 &&& (3 : Int32))), .val (.ref b4), .val (.ref w1a), .val (.ref b2_20), .val (.int (1 : Int32)), .unset] [(.int (1 : Int32)), (.ref b2_20)])) rfl (by rw [hml]; rfl) (Steps.refl _) (argsL := [(.int (1 : Int32))]) (rest := []) (lenOf pd_21 rfl) rfl (by show 2 * 0 + _ ≤ _; exact Nat.le_of_eq rfl) (hb hby at_187) (fun vm₁ hw₁ => ⟨rfl, eh45, (by decide : 18 + 0 ≤ _), (by decide : 43 + 0 ≤ _)⟩)
        dsimp only [Pt.U, Pt.locs, Pt.cells, Pt.slots] at X46 l46 y46 z46 st46 hQ46
        subst l46 y46 z46
        obtain ⟨rfl, M46, eh46⟩ := hQ46
        have N46 := Fr.app N45 M46
        refine Go.tr st46 ?_
        show Go p e below _ (T46.setTop (mkF m 192 #[.val (.int i0), .val (.int i1), .val (.int i2), .val (.int i3), .val (.int i4), .val (.ref bs_1), .val (.ref bs_2), .val (.ref bs_3), .val (.int (i0 &&& (3 : Int32))), .val (.ref b4), .val (.ref w1a), .val (.ref b2_20), .val (.int (1 : Int32)), .unset] [(.ref bs_2)]))
        obtain ⟨T47, X47, e47, st47⟩ := castY X46 hx hZ hown (w4 hw) eh46 (Ins.self (c35.keep K36c)) (g := (mkF m 192 #[.val (.int i0), .val (.int i1), .val (.int i2), .val (.int i3), .val (.int i4), .val (.ref bs_1), .val (.ref bs_2), .val (.ref bs_3), .val (.int (i0 &&& (3 : Int32))), .val (.ref b4), .val (.ref w1a), .val (.ref b2_20), .val (.int (1 : Int32)), .unset] [(.ref bs_2)])) rfl rfl (hb hby at_192)
        refine Go.st st47 ?_
        show Go p e below _ (T47.setTop (mkF m 195 #[.val (.int i0), .val (.int i1), .val (.int i2), .val (.int i3), .val (.int i4), .val (.ref bs_1), .val (.ref bs_2), .val (.ref bs_3), .val (.int (i0 &&& (3 : Int32))), .val (.ref b4), .val (.ref w1a), .val (.ref b2_20), .val (.int (1 : Int32)), .unset] [(.ref bs_2)]))
        refine Go.st (fun t k => XS.aload X47.here hx rfl (hb hby at_195) rfl rfl k) ?_
        show Go p e below _ (T47.setTop (mkF m 197 #[.val (.int i0), .val (.int i1), .val (.int i2), .val (.int i3), .val (.int i4), .val (.ref bs_1), .val (.ref bs_2), .val (.ref bs_3), .val (.int (i0 &&& (3 : Int32))), .val (.ref b4), .val (.ref w1a), .val (.ref b2_20), .val (.int (1 : Int32)), .unset] [(.ref bs_2), (.ref bs_2)]))
        obtain ⟨cq48, kq48, q48a, q48b, q48c⟩ := isOf hZ e47 (c35.keep K36c)
        obtain ⟨_, _, ⟨T48, L48, k48, n48⟩, -, X48, ⟨Lc48, hQ48, l48, y48, z48⟩, st48⟩ := X47.virtualBack hx (y := (⟨"java/lang/String", "equals", "(Ljava/lang/Object;)Z"⟩ : MethodName)) (z := (⟨"java/lang/String", "equals", "(Ljava/lang/Object;)Z"⟩ : MethodName)) hown (mvT hZ (w159 hw)) (mvT hZ (w160 hw)) (notFace_of_selects (args := #[]) (mvT hZ (w162 hw))) (mvT hZ (w162 hw)) (mvT hZ (w161 hw)) (by decide) (backOf (W := 0) (rm23_1 l Z a0 hw [] bs_2 T36.heap n0 O36 ) hZ (w163 hw) (w6 hw) (by decide) (by decide)) q48a q48c (g := (mkF m 197 #[.val (.int i0), .val (.int i1), .val (.int i2), .val (.int i3), .val (.int i4), .val (.ref bs_1), .val (.ref bs_2), .val (.ref bs_3), .val (.int (i0 &&& (3 : Int32))), .val (.ref b4), .val (.ref w1a), .val (.ref b2_20), .val (.int (1 : Int32)), .unset] [(.ref bs_2), (.ref bs_2)])) rfl (by rw [hml]; rfl) (Steps.refl _) (argsL := [(.ref bs_2)]) (rest := []) (lenOf pd_18 rfl) rfl (by show 2 * 0 + _ ≤ _; exact Nat.le_of_eq rfl) (hb hby at_197) (fun vm₁ hw₁ => ⟨rfl, e47, (by decide : 18 + 0 ≤ _), (by decide : 43 + 0 ≤ _)⟩)
        dsimp only [Pt.U, Pt.locs, Pt.cells, Pt.slots] at X48 l48 y48 z48 st48 hQ48
        subst l48 y48 z48
        obtain ⟨rfl, M48, eh48⟩ := hQ48
        have N48 := Fr.app N46 M48
        refine Go.tr st48 ?_
        show Go p e below _ (T48.setTop (mkF m 200 #[.val (.int i0), .val (.int i1), .val (.int i2), .val (.int i3), .val (.int i4), .val (.ref bs_1), .val (.ref bs_2), .val (.ref bs_3), .val (.int (i0 &&& (3 : Int32))), .val (.ref b4), .val (.ref w1a), .val (.ref b2_20), .val (.int (1 : Int32)), .unset] [(.int (1 : Int32))]))
        refine Go.st (fun t k => XS.ifNo X48.here hx rfl (hb hby at_200) rfl (Jvm.Free.XT.i0_eq_f (by decide : ¬ ((1 : Int32) = (0 : Int32)))) k) ?_
        show Go p e below _ (T48.setTop (mkF m 203 #[.val (.int i0), .val (.int i1), .val (.int i2), .val (.int i3), .val (.int i4), .val (.ref bs_1), .val (.ref bs_2), .val (.ref bs_3), .val (.int (i0 &&& (3 : Int32))), .val (.ref b4), .val (.ref w1a), .val (.ref b2_20), .val (.int (1 : Int32)), .unset] []))
        refine Go.st (fun t k => XS.iconst X48.here hx rfl (hb hby at_203) k) ?_
        show Go p e below _ (T48.setTop (mkF m 204 #[.val (.int i0), .val (.int i1), .val (.int i2), .val (.int i3), .val (.int i4), .val (.ref bs_1), .val (.ref bs_2), .val (.ref bs_3), .val (.int (i0 &&& (3 : Int32))), .val (.ref b4), .val (.ref w1a), .val (.ref b2_20), .val (.int (1 : Int32)), .unset] [(.int (1 : Int32))]))
        refine Go.st (fun t k => XS.goto X48.here hx rfl (pc0 := 204) (pc' := 208) rfl (hb hby at_204) (by decide) (by decide) k) ?_
        show Go p e below _ (T48.setTop (mkF m 208 #[.val (.int i0), .val (.int i1), .val (.int i2), .val (.int i3), .val (.int i4), .val (.ref bs_1), .val (.ref bs_2), .val (.ref bs_3), .val (.int (i0 &&& (3 : Int32))), .val (.ref b4), .val (.ref w1a), .val (.ref b2_20), .val (.int (1 : Int32)), .unset] [(.int (1 : Int32))]))
        refine Go.st (fun t k => XS.istore X48.here hx rfl (hb hby at_208) rfl (l' := #[.val (.int i0), .val (.int i1), .val (.int i2), .val (.int i3), .val (.int i4), .val (.ref bs_1), .val (.ref bs_2), .val (.ref bs_3), .val (.int (i0 &&& (3 : Int32))), .val (.ref b4), .val (.ref w1a), .val (.ref b2_20), .val (.int (1 : Int32)), .unset]) rfl k) ?_
        show Go p e below _ (T48.setTop (mkF m 210 #[.val (.int i0), .val (.int i1), .val (.int i2), .val (.int i3), .val (.int i4), .val (.ref bs_1), .val (.ref bs_2), .val (.ref bs_3), .val (.int (i0 &&& (3 : Int32))), .val (.ref b4), .val (.ref w1a), .val (.ref b2_20), .val (.int (1 : Int32)), .unset] []))
        refine Go.st (fun t k => XS.iload X48.here hx rfl (hb hby at_210) rfl k) ?_
        show Go p e below _ (T48.setTop (mkF m 212 #[.val (.int i0), .val (.int i1), .val (.int i2), .val (.int i3), .val (.int i4), .val (.ref bs_1), .val (.ref bs_2), .val (.ref bs_3), .val (.int (i0 &&& (3 : Int32))), .val (.ref b4), .val (.ref w1a), .val (.ref b2_20), .val (.int (1 : Int32)), .unset] [(.int (i0 &&& (3 : Int32)))]))
        refine Go.st (fun t k => XS.iconst X48.here hx rfl (hb hby at_212) k) ?_
        show Go p e below _ (T48.setTop (mkF m 213 #[.val (.int i0), .val (.int i1), .val (.int i2), .val (.int i3), .val (.int i4), .val (.ref bs_1), .val (.ref bs_2), .val (.ref bs_3), .val (.int (i0 &&& (3 : Int32))), .val (.ref b4), .val (.ref w1a), .val (.ref b2_20), .val (.int (1 : Int32)), .unset] [(.int (3 : Int32)), (.int (i0 &&& (3 : Int32)))]))
        refine Go.st (fun t k => XS.icmpYes X48.here hx rfl (pc0 := 213) (pc' := 247) rfl (hb hby at_213) rfl (Jvm.Free.XT.ii_lt_t hc38) (by decide) (by decide) k) ?_
        show Go p e below _ (T48.setTop (mkF m 247 #[.val (.int i0), .val (.int i1), .val (.int i2), .val (.int i3), .val (.int i4), .val (.ref bs_1), .val (.ref bs_2), .val (.ref bs_3), .val (.int (i0 &&& (3 : Int32))), .val (.ref b4), .val (.ref w1a), .val (.ref b2_20), .val (.int (1 : Int32)), .unset] []))
        refine Go.st (fun t k => XS.aload X48.here hx rfl (hb hby at_247) rfl rfl k) ?_
        show Go p e below _ (T48.setTop (mkF m 249 #[.val (.int i0), .val (.int i1), .val (.int i2), .val (.int i3), .val (.int i4), .val (.ref bs_1), .val (.ref bs_2), .val (.ref bs_3), .val (.int (i0 &&& (3 : Int32))), .val (.ref b4), .val (.ref w1a), .val (.ref b2_20), .val (.int (1 : Int32)), .unset] [(.ref b4)]))
        obtain ⟨cq49, kq49, q49a, q49b, q49c⟩ := isOf hZ eh48 (c37.keep K36c)
        obtain ⟨_, _, ⟨T49, L49, k49, n49⟩, -, X49, ⟨Lc49, hQ49, l49, y49, z49⟩, st49⟩ := X48.virtualBack hx (y := (⟨"com/example/cropmark/cropmark/Row", "problems", "()Ljava/util/List;"⟩ : MethodName)) (z := (⟨"com/example/cropmark/cropmark/Row", "problems", "()Ljava/util/List;"⟩ : MethodName)) hown (mvT hZ (w44 hw)) (mvT hZ (w45 hw)) (notFace_of_selects (args := #[]) (mvT hZ (w47 hw))) (mvT hZ (w47 hw)) (mvT hZ (w46 hw)) (by decide) (backOf (W := 0) (rm6_2 l Z a0 hw [] b4 b2_20 T36.heap n0 O36 c39) hZ (w48 hw) (w28 hw) (by decide) (by decide)) q49a q49c (g := (mkF m 249 #[.val (.int i0), .val (.int i1), .val (.int i2), .val (.int i3), .val (.int i4), .val (.ref bs_1), .val (.ref bs_2), .val (.ref bs_3), .val (.int (i0 &&& (3 : Int32))), .val (.ref b4), .val (.ref w1a), .val (.ref b2_20), .val (.int (1 : Int32)), .unset] [(.ref b4)])) rfl (by rw [hml]; rfl) (Steps.refl _) (argsL := []) (rest := []) (lenOf pd_11 rfl) rfl (by show 2 * 0 + _ ≤ _; exact Nat.le_of_eq rfl) (hb hby at_249) (fun vm₁ hw₁ => ⟨rfl, eh48, (by decide : 18 + 0 ≤ _), (by decide : 43 + 0 ≤ _)⟩)
        dsimp only [Pt.U, Pt.locs, Pt.cells, Pt.slots] at X49 l49 y49 z49 st49 hQ49
        subst l49 y49 z49
        obtain ⟨rfl, M49, eh49⟩ := hQ49
        have N49 := Fr.app N48 M49
        refine Go.tr st49 ?_
        show Go p e below _ (T49.setTop (mkF m 252 #[.val (.int i0), .val (.int i1), .val (.int i2), .val (.int i3), .val (.int i4), .val (.ref bs_1), .val (.ref bs_2), .val (.ref bs_3), .val (.int (i0 &&& (3 : Int32))), .val (.ref b4), .val (.ref w1a), .val (.ref b2_20), .val (.int (1 : Int32)), .unset] [(.ref b2_20)]))
        refine Go.st (fun t k => XS.astore X49.here hx rfl (hb hby at_252) rfl rfl (l' := #[.val (.int i0), .val (.int i1), .val (.int i2), .val (.int i3), .val (.int i4), .val (.ref bs_1), .val (.ref bs_2), .val (.ref bs_3), .val (.int (i0 &&& (3 : Int32))), .val (.ref b4), .val (.ref w1a), .val (.ref b2_20), .val (.int (1 : Int32)), .val (.ref b2_20)]) rfl k) ?_
        show Go p e below _ (T49.setTop (mkF m 254 #[.val (.int i0), .val (.int i1), .val (.int i2), .val (.int i3), .val (.int i4), .val (.ref bs_1), .val (.ref bs_2), .val (.ref bs_3), .val (.int (i0 &&& (3 : Int32))), .val (.ref b4), .val (.ref w1a), .val (.ref b2_20), .val (.int (1 : Int32)), .val (.ref b2_20)] []))
        refine Go.st (fun t k => XS.aload X49.here hx rfl (hb hby at_254) rfl rfl k) ?_
        show Go p e below _ (T49.setTop (mkF m 256 #[.val (.int i0), .val (.int i1), .val (.int i2), .val (.int i3), .val (.int i4), .val (.ref bs_1), .val (.ref bs_2), .val (.ref bs_3), .val (.int (i0 &&& (3 : Int32))), .val (.ref b4), .val (.ref w1a), .val (.ref b2_20), .val (.int (1 : Int32)), .val (.ref b2_20)] [(.ref b2_20)]))
        refine Go.st (fun t k => XS.ifnullNo X49.here hx rfl (hb hby at_256) rfl k) ?_
        show Go p e below _ (T49.setTop (mkF m 259 #[.val (.int i0), .val (.int i1), .val (.int i2), .val (.int i3), .val (.int i4), .val (.ref bs_1), .val (.ref bs_2), .val (.ref bs_3), .val (.int (i0 &&& (3 : Int32))), .val (.ref b4), .val (.ref w1a), .val (.ref b2_20), .val (.int (1 : Int32)), .val (.ref b2_20)] []))
        refine Go.st (fun t k => XS.aload X49.here hx rfl (hb hby at_259) rfl rfl k) ?_
        show Go p e below _ (T49.setTop (mkF m 261 #[.val (.int i0), .val (.int i1), .val (.int i2), .val (.int i3), .val (.int i4), .val (.ref bs_1), .val (.ref bs_2), .val (.ref bs_3), .val (.int (i0 &&& (3 : Int32))), .val (.ref b4), .val (.ref w1a), .val (.ref b2_20), .val (.int (1 : Int32)), .val (.ref b2_20)] [(.ref b2_20)]))
        obtain ⟨cq50, kq50, q50a, q50b, q50c⟩ := isOf hZ eh49 (r20_9.keep K36c)
        obtain ⟨_, _, ⟨T50, L50, k50, n50⟩, -, X50, ⟨Lc50, hQ50, l50, y50, z50⟩, st50⟩ := X49.interfaceBack hx (xi := (⟨"java/util/List", "size", "()I"⟩ : MethodName)) (y := (⟨"java/util/ArrayList", "size", "()I"⟩ : MethodName)) hown (mvT hZ (w57 hw)) (mvT hZ (w58 hw)) (mvT hZ (w59 hw)) (mvT hZ (w133 hw)) (mvT hZ (w134 hw)) (mvT hZ (w135 hw)) (mvT hZ (w136 hw)) (mvT hZ (w105 hw)) (by decide) (backOf (W := 0) (rm18_2 l Z a0 hw [] b2_20 T36.heap n0 O36 r36_3) hZ (w137 hw) (w76 hw) (by decide) (by decide)) q50a q50b q50c (g := (mkF m 261 #[.val (.int i0), .val (.int i1), .val (.int i2), .val (.int i3), .val (.int i4), .val (.ref bs_1), .val (.ref bs_2), .val (.ref bs_3), .val (.int (i0 &&& (3 : Int32))), .val (.ref b4), .val (.ref w1a), .val (.ref b2_20), .val (.int (1 : Int32)), .val (.ref b2_20)] [(.ref b2_20)])) rfl (by rw [hml]; rfl) (Steps.refl _) (argsL := []) (rest := []) (lenOf pd_12 rfl) rfl (by show 2 * 0 + _ ≤ _; exact Nat.le_of_eq rfl) (hb hby at_261) (fun vm₁ hw₁ => ⟨rfl, eh49, (by decide : 18 + 0 ≤ _), (by decide : 43 + 0 ≤ _)⟩)
        dsimp only [Pt.U, Pt.locs, Pt.cells, Pt.slots] at X50 l50 y50 z50 st50 hQ50
        subst l50 y50 z50
        obtain ⟨rfl, M50, eh50⟩ := hQ50
        have N50 := Fr.app N49 M50
        refine Go.tr st50 ?_
        show Go p e below _ (T50.setTop (mkF m 266 #[.val (.int i0), .val (.int i1), .val (.int i2), .val (.int i3), .val (.int i4), .val (.ref bs_1), .val (.ref bs_2), .val (.ref bs_3), .val (.int (i0 &&& (3 : Int32))), .val (.ref b4), .val (.ref w1a), .val (.ref b2_20), .val (.int (1 : Int32)), .val (.ref b2_20)] [(.int (2 : Int32))]))
        refine Go.st (fun t k => XS.iload X50.here hx rfl (hb hby at_266) rfl k) ?_
        show Go p e below _ (T50.setTop (mkF m 268 #[.val (.int i0), .val (.int i1), .val (.int i2), .val (.int i3), .val (.int i4), .val (.ref bs_1), .val (.ref bs_2), .val (.ref bs_3), .val (.int (i0 &&& (3 : Int32))), .val (.ref b4), .val (.ref w1a), .val (.ref b2_20), .val (.int (1 : Int32)), .val (.ref b2_20)] [(.int (i0 &&& (3 : Int32))), (.int (2 : Int32))]))
        refine Go.st (fun t k => XS.icmpYes X50.here hx rfl (pc0 := 268) (pc' := 273) rfl (hb hby at_268) rfl (Jvm.Free.XT.ii_eq_t hp42) (by decide) (by decide) k) ?_
        show Go p e below _ (T50.setTop (mkF m 273 #[.val (.int i0), .val (.int i1), .val (.int i2), .val (.int i3), .val (.int i4), .val (.ref bs_1), .val (.ref bs_2), .val (.ref bs_3), .val (.int (i0 &&& (3 : Int32))), .val (.ref b4), .val (.ref w1a), .val (.ref b2_20), .val (.int (1 : Int32)), .val (.ref b2_20)] []))
        refine Go.st (fun t k => XS.iload X50.here hx rfl (hb hby at_273) rfl k) ?_
        show Go p e below _ (T50.setTop (mkF m 275 #[.val (.int i0), .val (.int i1), .val (.int i2), .val (.int i3), .val (.int i4), .val (.ref bs_1), .val (.ref bs_2), .val (.ref bs_3), .val (.int (i0 &&& (3 : Int32))), .val (.ref b4), .val (.ref w1a), .val (.ref b2_20), .val (.int (1 : Int32)), .val (.ref b2_20)] [(.int (i0 &&& (3 : Int32)))]))
        refine Go.st (fun t k => XS.iconst X50.here hx rfl (hb hby at_275) k) ?_
        show Go p e below _ (T50.setTop (mkF m 276 #[.val (.int i0), .val (.int i1), .val (.int i2), .val (.int i3), .val (.int i4), .val (.ref bs_1), .val (.ref bs_2), .val (.ref bs_3), .val (.int (i0 &&& (3 : Int32))), .val (.ref b4), .val (.ref w1a), .val (.ref b2_20), .val (.int (1 : Int32)), .val (.ref b2_20)] [(.int (1 : Int32)), (.int (i0 &&& (3 : Int32)))]))
        refine Go.st (fun t k => XS.icmpNo X50.here hx rfl (hb hby at_276) rfl (Jvm.Free.XT.ii_lt_f hc11) k) ?_
        show Go p e below _ (T50.setTop (mkF m 279 #[.val (.int i0), .val (.int i1), .val (.int i2), .val (.int i3), .val (.int i4), .val (.ref bs_1), .val (.ref bs_2), .val (.ref bs_3), .val (.int (i0 &&& (3 : Int32))), .val (.ref b4), .val (.ref w1a), .val (.ref b2_20), .val (.int (1 : Int32)), .val (.ref b2_20)] []))
        refine Go.st (fun t k => XS.iload X50.here hx rfl (hb hby at_279) rfl k) ?_
        show Go p e below _ (T50.setTop (mkF m 281 #[.val (.int i0), .val (.int i1), .val (.int i2), .val (.int i3), .val (.int i4), .val (.ref bs_1), .val (.ref bs_2), .val (.ref bs_3), .val (.int (i0 &&& (3 : Int32))), .val (.ref b4), .val (.ref w1a), .val (.ref b2_20), .val (.int (1 : Int32)), .val (.ref b2_20)] [(.int (1 : Int32))]))
        refine Go.st (fun t k => XS.ifNo X50.here hx rfl (hb hby at_281) rfl (Jvm.Free.XT.i0_eq_f (by decide : ¬ ((1 : Int32) = (0 : Int32)))) k) ?_
        show Go p e below _ (T50.setTop (mkF m 284 #[.val (.int i0), .val (.int i1), .val (.int i2), .val (.int i3), .val (.int i4), .val (.ref bs_1), .val (.ref bs_2), .val (.ref bs_3), .val (.int (i0 &&& (3 : Int32))), .val (.ref b4), .val (.ref w1a), .val (.ref b2_20), .val (.int (1 : Int32)), .val (.ref b2_20)] []))
        refine Go.st (fun t k => XS.aload X50.here hx rfl (hb hby at_284) rfl rfl k) ?_
        show Go p e below _ (T50.setTop (mkF m 286 #[.val (.int i0), .val (.int i1), .val (.int i2), .val (.int i3), .val (.int i4), .val (.ref bs_1), .val (.ref bs_2), .val (.ref bs_3), .val (.int (i0 &&& (3 : Int32))), .val (.ref b4), .val (.ref w1a), .val (.ref b2_20), .val (.int (1 : Int32)), .val (.ref b2_20)] [(.ref b2_20)]))
        refine Go.st (fun t k => XS.iconst X50.here hx rfl (hb hby at_286) k) ?_
        show Go p e below _ (T50.setTop (mkF m 287 #[.val (.int i0), .val (.int i1), .val (.int i2), .val (.int i3), .val (.int i4), .val (.ref bs_1), .val (.ref bs_2), .val (.ref bs_3), .val (.int (i0 &&& (3 : Int32))), .val (.ref b4), .val (.ref w1a), .val (.ref b2_20), .val (.int (1 : Int32)), .val (.ref b2_20)] [(.int (0 : Int32)), (.ref b2_20)]))
        obtain ⟨cq51, kq51, q51a, q51b, q51c⟩ := isOf hZ eh50 (r20_9.keep K36c)
        obtain ⟨_, _, ⟨T51, L51, k51, n51⟩, -, X51, ⟨Lc51, hQ51, l51, y51, z51⟩, st51⟩ := X50.interfaceBack hx (xi := (⟨"java/util/List", "get", "(I)Ljava/lang/Object;"⟩ : MethodName)) (y := (⟨"java/util/ArrayList", "get", "(I)Ljava/lang/Object;"⟩ : MethodName)) hown (mvT hZ (w138 hw)) (mvT hZ (w139 hw)) (mvT hZ (w140 hw)) (mvT hZ (w141 hw)) (mvT hZ (w142 hw)) (mvT hZ (w143 hw)) (mvT hZ (w144 hw)) (mvT hZ (w105 hw)) (by decide) (backOf (W := 0) (rm19_2 l Z a0 hw [] b2_20 b6_2_2_7_10_20 k6_2_2_7_10_20 bs_1 bs_2 T36.heap n0 O36 r36_3 (r20_9.keep K36c) r36_2 r36_0) hZ (w145 hw) (w76 hw) (by decide) (by decide)) q51a q51b q51c (g := (mkF m 287 #[.val (.int i0), .val (.int i1), .val (.int i2), .val (.int i3), .val (.int i4), .val (.ref bs_1), .val (.ref bs_2), .val (.ref bs_3), .val (.int (i0 &&& (3 : Int32))), .val (.ref b4), .val (.ref w1a), .val (.ref b2_20), .val (.int (1 : Int32)), .val (.ref b2_20)] [(.int (0 : Int32)), (.ref b2_20)])) rfl (by rw [hml]; rfl) (Steps.refl _) (argsL := [(.int (0 : Int32))]) (rest := []) (lenOf pd_21 rfl) rfl (by show 2 * 0 + _ ≤ _; exact Nat.le_of_eq rfl) (hb hby at_287) (fun vm₁ hw₁ => ⟨rfl, eh50, (by decide : 18 + 0 ≤ _), (by decide : 43 + 0 ≤ _)⟩)
        dsimp only [Pt.U, Pt.locs, Pt.cells, Pt.slots] at X51 l51 y51 z51 st51 hQ51
        subst l51 y51 z51
        obtain ⟨rfl, M51, eh51⟩ := hQ51
        have N51 := Fr.app N50 M51
        refine Go.tr st51 ?_
        show Go p e below _ (T51.setTop (mkF m 292 #[.val (.int i0), .val (.int i1), .val (.int i2), .val (.int i3), .val (.int i4), .val (.ref bs_1), .val (.ref bs_2), .val (.ref bs_3), .val (.int (i0 &&& (3 : Int32))), .val (.ref b4), .val (.ref w1a), .val (.ref b2_20), .val (.int (1 : Int32)), .val (.ref b2_20)] [(.ref bs_1)]))
        obtain ⟨T52, X52, e52, st52⟩ := castY X51 hx hZ hown (w4 hw) eh51 (Ins.self ((c19.keep K20c).keep K36c)) (g := (mkF m 292 #[.val (.int i0), .val (.int i1), .val (.int i2), .val (.int i3), .val (.int i4), .val (.ref bs_1), .val (.ref bs_2), .val (.ref bs_3), .val (.int (i0 &&& (3 : Int32))), .val (.ref b4), .val (.ref w1a), .val (.ref b2_20), .val (.int (1 : Int32)), .val (.ref b2_20)] [(.ref bs_1)])) rfl rfl (hb hby at_292)
        refine Go.st st52 ?_
        show Go p e below _ (T52.setTop (mkF m 295 #[.val (.int i0), .val (.int i1), .val (.int i2), .val (.int i3), .val (.int i4), .val (.ref bs_1), .val (.ref bs_2), .val (.ref bs_3), .val (.int (i0 &&& (3 : Int32))), .val (.ref b4), .val (.ref w1a), .val (.ref b2_20), .val (.int (1 : Int32)), .val (.ref b2_20)] [(.ref bs_1)]))
        refine Go.st (fun t k => XS.aload X52.here hx rfl (hb hby at_295) rfl rfl k) ?_
        show Go p e below _ (T52.setTop (mkF m 297 #[.val (.int i0), .val (.int i1), .val (.int i2), .val (.int i3), .val (.int i4), .val (.ref bs_1), .val (.ref bs_2), .val (.ref bs_3), .val (.int (i0 &&& (3 : Int32))), .val (.ref b4), .val (.ref w1a), .val (.ref b2_20), .val (.int (1 : Int32)), .val (.ref b2_20)] [(.ref bs_1), (.ref bs_1)]))
        obtain ⟨cq53, kq53, q53a, q53b, q53c⟩ := isOf hZ e52 ((c19.keep K20c).keep K36c)
        obtain ⟨_, _, ⟨T53, L53, k53, n53⟩, -, X53, ⟨Lc53, hQ53, l53, y53, z53⟩, st53⟩ := X52.virtualBack hx (y := (⟨"java/lang/String", "equals", "(Ljava/lang/Object;)Z"⟩ : MethodName)) (z := (⟨"java/lang/String", "equals", "(Ljava/lang/Object;)Z"⟩ : MethodName)) hown (mvT hZ (w159 hw)) (mvT hZ (w160 hw)) (notFace_of_selects (args := #[]) (mvT hZ (w162 hw))) (mvT hZ (w162 hw)) (mvT hZ (w161 hw)) (by decide) (backOf (W := 0) (rm23_1 l Z a0 hw [] bs_1 T36.heap n0 O36 ) hZ (w163 hw) (w6 hw) (by decide) (by decide)) q53a q53c (g := (mkF m 297 #[.val (.int i0), .val (.int i1), .val (.int i2), .val (.int i3), .val (.int i4), .val (.ref bs_1), .val (.ref bs_2), .val (.ref bs_3), .val (.int (i0 &&& (3 : Int32))), .val (.ref b4), .val (.ref w1a), .val (.ref b2_20), .val (.int (1 : Int32)), .val (.ref b2_20)] [(.ref bs_1), (.ref bs_1)])) rfl (by rw [hml]; rfl) (Steps.refl _) (argsL := [(.ref bs_1)]) (rest := []) (lenOf pd_18 rfl) rfl (by show 2 * 0 + _ ≤ _; exact Nat.le_of_eq rfl) (hb hby at_297) (fun vm₁ hw₁ => ⟨rfl, e52, (by decide : 18 + 0 ≤ _), (by decide : 43 + 0 ≤ _)⟩)
        dsimp only [Pt.U, Pt.locs, Pt.cells, Pt.slots] at X53 l53 y53 z53 st53 hQ53
        subst l53 y53 z53
        obtain ⟨rfl, M53, eh53⟩ := hQ53
        have N53 := Fr.app N51 M53
        refine Go.tr st53 ?_
        show Go p e below _ (T53.setTop (mkF m 300 #[.val (.int i0), .val (.int i1), .val (.int i2), .val (.int i3), .val (.int i4), .val (.ref bs_1), .val (.ref bs_2), .val (.ref bs_3), .val (.int (i0 &&& (3 : Int32))), .val (.ref b4), .val (.ref w1a), .val (.ref b2_20), .val (.int (1 : Int32)), .val (.ref b2_20)] [(.int (1 : Int32))]))
        refine Go.st (fun t k => XS.ifNo X53.here hx rfl (hb hby at_300) rfl (Jvm.Free.XT.i0_eq_f (by decide : ¬ ((1 : Int32) = (0 : Int32)))) k) ?_
        show Go p e below _ (T53.setTop (mkF m 303 #[.val (.int i0), .val (.int i1), .val (.int i2), .val (.int i3), .val (.int i4), .val (.ref bs_1), .val (.ref bs_2), .val (.ref bs_3), .val (.int (i0 &&& (3 : Int32))), .val (.ref b4), .val (.ref w1a), .val (.ref b2_20), .val (.int (1 : Int32)), .val (.ref b2_20)] []))
        refine Go.st (fun t k => XS.iconst X53.here hx rfl (hb hby at_303) k) ?_
        show Go p e below _ (T53.setTop (mkF m 304 #[.val (.int i0), .val (.int i1), .val (.int i2), .val (.int i3), .val (.int i4), .val (.ref bs_1), .val (.ref bs_2), .val (.ref bs_3), .val (.int (i0 &&& (3 : Int32))), .val (.ref b4), .val (.ref w1a), .val (.ref b2_20), .val (.int (1 : Int32)), .val (.ref b2_20)] [(.int (1 : Int32))]))
        refine Go.st (fun t k => XS.goto X53.here hx rfl (pc0 := 304) (pc' := 308) rfl (hb hby at_304) (by decide) (by decide) k) ?_
        show Go p e below _ (T53.setTop (mkF m 308 #[.val (.int i0), .val (.int i1), .val (.int i2), .val (.int i3), .val (.int i4), .val (.ref bs_1), .val (.ref bs_2), .val (.ref bs_3), .val (.int (i0 &&& (3 : Int32))), .val (.ref b4), .val (.ref w1a), .val (.ref b2_20), .val (.int (1 : Int32)), .val (.ref b2_20)] [(.int (1 : Int32))]))
        refine Go.st (fun t k => XS.istore X53.here hx rfl (hb hby at_308) rfl (l' := #[.val (.int i0), .val (.int i1), .val (.int i2), .val (.int i3), .val (.int i4), .val (.ref bs_1), .val (.ref bs_2), .val (.ref bs_3), .val (.int (i0 &&& (3 : Int32))), .val (.ref b4), .val (.ref w1a), .val (.ref b2_20), .val (.int (1 : Int32)), .val (.ref b2_20)]) rfl k) ?_
        show Go p e below _ (T53.setTop (mkF m 310 #[.val (.int i0), .val (.int i1), .val (.int i2), .val (.int i3), .val (.int i4), .val (.ref bs_1), .val (.ref bs_2), .val (.ref bs_3), .val (.int (i0 &&& (3 : Int32))), .val (.ref b4), .val (.ref w1a), .val (.ref b2_20), .val (.int (1 : Int32)), .val (.ref b2_20)] []))
        refine Go.st (fun t k => XS.iload X53.here hx rfl (hb hby at_310) rfl k) ?_
        show Go p e below _ (T53.setTop (mkF m 312 #[.val (.int i0), .val (.int i1), .val (.int i2), .val (.int i3), .val (.int i4), .val (.ref bs_1), .val (.ref bs_2), .val (.ref bs_3), .val (.int (i0 &&& (3 : Int32))), .val (.ref b4), .val (.ref w1a), .val (.ref b2_20), .val (.int (1 : Int32)), .val (.ref b2_20)] [(.int (i0 &&& (3 : Int32)))]))
        refine Go.st (fun t k => XS.iconst X53.here hx rfl (hb hby at_312) k) ?_
        show Go p e below _ (T53.setTop (mkF m 313 #[.val (.int i0), .val (.int i1), .val (.int i2), .val (.int i3), .val (.int i4), .val (.ref bs_1), .val (.ref bs_2), .val (.ref bs_3), .val (.int (i0 &&& (3 : Int32))), .val (.ref b4), .val (.ref w1a), .val (.ref b2_20), .val (.int (1 : Int32)), .val (.ref b2_20)] [(.int (3 : Int32)), (.int (i0 &&& (3 : Int32)))]))
        refine Go.st (fun t k => XS.icmpYes X53.here hx rfl (pc0 := 313) (pc' := 347) rfl (hb hby at_313) rfl (Jvm.Free.XT.ii_lt_t hc38) (by decide) (by decide) k) ?_
        show Go p e below _ (T53.setTop (mkF m 347 #[.val (.int i0), .val (.int i1), .val (.int i2), .val (.int i3), .val (.int i4), .val (.ref bs_1), .val (.ref bs_2), .val (.ref bs_3), .val (.int (i0 &&& (3 : Int32))), .val (.ref b4), .val (.ref w1a), .val (.ref b2_20), .val (.int (1 : Int32)), .val (.ref b2_20)] []))
        refine Go.st (fun t k => XS.iload X53.here hx rfl (hb hby at_347) rfl k) ?_
        show Go p e below _ (T53.setTop (mkF m 349 #[.val (.int i0), .val (.int i1), .val (.int i2), .val (.int i3), .val (.int i4), .val (.ref bs_1), .val (.ref bs_2), .val (.ref bs_3), .val (.int (i0 &&& (3 : Int32))), .val (.ref b4), .val (.ref w1a), .val (.ref b2_20), .val (.int (1 : Int32)), .val (.ref b2_20)] [(.int (1 : Int32))]))
        obtain ⟨fs, hr, hrun, hended, hEnd⟩ := X53.leaveW hS3 (by rw [eh53]; exact (Nat.le_trans (Nat.le_trans (Nat.le_trans (Nat.le_trans (Nat.le_trans (Nat.le_trans (Nat.le_trans (Nat.le_refl _) E4.1) E5.1) E6.1) E7.1) K8c.1) K20c.1) K36c.1)) (v := some (.int (1 : Int32))) (fun h => by rw [Bd.returns] at h; cases h)
        refine ⟨_, _, ?_, hrun, hended, _, _, rfl, ?_, ⟨hEnd.1, hEnd.2.1, hEnd.2.2.1, hEnd.2.2.2.mono (by decide) (by decide)⟩⟩
        · exact retN X53 hx (t := .boolean) Bd.returns (by simp) (hb hby at_349) hr
        · exact ⟨rfl, N53⟩
      · refine Go.st (fun t k => XS.icmpNo X36.here hx rfl (hb hby at_97) rfl (Jvm.Free.XT.ii_lt_f hc38) k) ?_
        show Go p e below _ (T36.setTop (mkF m 100 #[.val (.int i0), .val (.int i1), .val (.int i2), .val (.int i3), .val (.int i4), .val (.ref bs_1), .val (.ref bs_2), .val (.ref bs_3), .val (.int (i0 &&& (3 : Int32))), .val (.ref b4), .val (.ref w1a), .unset, .unset, .unset] []))
        refine Go.st (fun t k => XS.aload X36.here hx rfl (hb hby at_100) rfl rfl k) ?_
        show Go p e below _ (T36.setTop (mkF m 102 #[.val (.int i0), .val (.int i1), .val (.int i2), .val (.int i3), .val (.int i4), .val (.ref bs_1), .val (.ref bs_2), .val (.ref bs_3), .val (.int (i0 &&& (3 : Int32))), .val (.ref b4), .val (.ref w1a), .unset, .unset, .unset] [(.ref b4)]))
        refine Go.st (fun t k => XS.aload X36.here hx rfl (hb hby at_102) rfl rfl k) ?_
        show Go p e below _ (T36.setTop (mkF m 104 #[.val (.int i0), .val (.int i1), .val (.int i2), .val (.int i3), .val (.int i4), .val (.ref bs_1), .val (.ref bs_2), .val (.ref bs_3), .val (.int (i0 &&& (3 : Int32))), .val (.ref b4), .val (.ref w1a), .unset, .unset, .unset] [(.ref bs_3), (.ref b4)]))
        have c54 := (r20_3.keep K36c (ninS (Nat.ne_of_lt (Nat.lt_of_lt_of_le (Nat.lt_of_lt_of_le (Nat.lt_of_lt_of_le (Nat.lt_of_lt_of_le (Nat.lt_of_lt_of_le A4.lt E5.1) E6.1) E7.1) K8c.1) r20_1)) (ninS (Nat.ne_of_lt (Nat.lt_of_lt_of_le (Nat.lt_of_lt_of_le (Nat.lt_of_lt_of_le (Nat.lt_of_lt_of_le (Nat.lt_of_lt_of_le A4.lt E5.1) E6.1) E7.1) K8c.1) r20_0)) nin0)))
        have c55 := (((((((r3_0.ext E4).ext E5).ext E6).ext E7).keep K8c).keep K20c).keep K36c)
        obtain ⟨cq56, kq56, q56a, q56b, q56c⟩ := isOf hZ rfl (c37.keep K36c)
        obtain ⟨_, _, ⟨T56, L56, k56, n56⟩, -, X56, ⟨Lc56, hQ56, l56, y56, z56⟩, st56⟩ := X36.virtualBack hx (y := (⟨"com/example/cropmark/cropmark/Row", "problem", "(Ljava/lang/String;)V"⟩ : MethodName)) (z := (⟨"com/example/cropmark/cropmark/Row", "problem", "(Ljava/lang/String;)V"⟩ : MethodName)) hown (mvT hZ (w69 hw)) (mvT hZ (w70 hw)) (notFace_of_selects (args := #[]) (mvT hZ (w72 hw))) (mvT hZ (w72 hw)) (mvT hZ (w71 hw)) (by decide) (backOf (W := 0) (rm9_3 l Z a0 hw [] b4 bs_3 b2_20 b6_2_2_7_10_20 k6_2_2_7_10_20 bs_1 bs_2 T36.heap n0 O36 c54 (r20_9.keep K36c) r36_1 g_b2_20 r36_2 r36_3 r36_0 g_b6_2_2_7_10_20 c55 r20_14 r20_2) hZ (w73 hw) (w28 hw) (by decide) (by decide)) q56a q56c (g := (mkF m 104 #[.val (.int i0), .val (.int i1), .val (.int i2), .val (.int i3), .val (.int i4), .val (.ref bs_1), .val (.ref bs_2), .val (.ref bs_3), .val (.int (i0 &&& (3 : Int32))), .val (.ref b4), .val (.ref w1a), .unset, .unset, .unset] [(.ref bs_3), (.ref b4)])) rfl (by rw [hml]; rfl) (Steps.refl _) (argsL := [(.ref bs_3)]) (rest := []) (lenOf pd_19 rfl) rfl (by show 2 * 0 + _ ≤ _; exact Nat.le_of_eq rfl) (hb hby at_104) (fun vm₁ hw₁ => ⟨rfl, rfl, (by decide : 18 + 0 ≤ _), (by decide : 43 + 0 ≤ _)⟩)
        dsimp only [Pt.U, Pt.locs, Pt.cells, Pt.slots] at X56 l56 y56 z56 st56 hQ56
        subst l56 y56 z56
        obtain ⟨rfl, M56, K56c, r56_0, r56_1, r56_2, r56_3⟩ := hQ56
        have N56 := Fr.app N36 M56
        have O56 : Old Z n0 T56.heap := O36.keep K56c (allS g_b6_2_2_7_10_20 (allS g_b2_20 all0))
        refine Go.tr st56 ?_
        show Go p e below _ (T56.setTop (mkF m 107 #[.val (.int i0), .val (.int i1), .val (.int i2), .val (.int i3), .val (.int i4), .val (.ref bs_1), .val (.ref bs_2), .val (.ref bs_3), .val (.int (i0 &&& (3 : Int32))), .val (.ref b4), .val (.ref w1a), .unset, .unset, .unset] []))
        refine Go.st (fun t k => XS.aload X56.here hx rfl (hb hby at_107) rfl rfl k) ?_
        show Go p e below _ (T56.setTop (mkF m 109 #[.val (.int i0), .val (.int i1), .val (.int i2), .val (.int i3), .val (.int i4), .val (.ref bs_1), .val (.ref bs_2), .val (.ref bs_3), .val (.int (i0 &&& (3 : Int32))), .val (.ref b4), .val (.ref w1a), .unset, .unset, .unset] [(.ref b4)]))
        have c57 := (c54.keep K56c (ninS (Nat.ne_of_lt (Nat.lt_of_lt_of_le (Nat.lt_of_lt_of_le (Nat.lt_of_lt_of_le (Nat.lt_of_lt_of_le (Nat.lt_of_lt_of_le A4.lt E5.1) E6.1) E7.1) K8c.1) r20_1)) (ninS (Nat.ne_of_lt (Nat.lt_of_lt_of_le (Nat.lt_of_lt_of_le (Nat.lt_of_lt_of_le (Nat.lt_of_lt_of_le (Nat.lt_of_lt_of_le A4.lt E5.1) E6.1) E7.1) K8c.1) r20_0)) nin0)))
        obtain ⟨cq58, kq58, q58a, q58b, q58c⟩ := isOf hZ rfl ((c37.keep K36c).keep K56c)
        obtain ⟨_, _, ⟨T58, L58, k58, n58⟩, -, X58, ⟨Lc58, hQ58, l58, y58, z58⟩, st58⟩ := X56.virtualBack hx (y := (⟨"com/example/cropmark/cropmark/Row", "problems", "()Ljava/util/List;"⟩ : MethodName)) (z := (⟨"com/example/cropmark/cropmark/Row", "problems", "()Ljava/util/List;"⟩ : MethodName)) hown (mvT hZ (w44 hw)) (mvT hZ (w45 hw)) (notFace_of_selects (args := #[]) (mvT hZ (w47 hw))) (mvT hZ (w47 hw)) (mvT hZ (w46 hw)) (by decide) (backOf (W := 0) (rm6_2 l Z a0 hw [] b4 b2_20 T56.heap n0 O56 c57) hZ (w48 hw) (w28 hw) (by decide) (by decide)) q58a q58c (g := (mkF m 109 #[.val (.int i0), .val (.int i1), .val (.int i2), .val (.int i3), .val (.int i4), .val (.ref bs_1), .val (.ref bs_2), .val (.ref bs_3), .val (.int (i0 &&& (3 : Int32))), .val (.ref b4), .val (.ref w1a), .unset, .unset, .unset] [(.ref b4)])) rfl (by rw [hml]; rfl) (Steps.refl _) (argsL := []) (rest := []) (lenOf pd_11 rfl) rfl (by show 2 * 0 + _ ≤ _; exact Nat.le_of_eq rfl) (hb hby at_109) (fun vm₁ hw₁ => ⟨rfl, rfl, (by decide : 18 + 0 ≤ _), (by decide : 43 + 0 ≤ _)⟩)
        dsimp only [Pt.U, Pt.locs, Pt.cells, Pt.slots] at X58 l58 y58 z58 st58 hQ58
        subst l58 y58 z58
        obtain ⟨rfl, M58, eh58⟩ := hQ58
        have N58 := Fr.app N56 M58
        refine Go.tr st58 ?_
        show Go p e below _ (T58.setTop (mkF m 112 #[.val (.int i0), .val (.int i1), .val (.int i2), .val (.int i3), .val (.int i4), .val (.ref bs_1), .val (.ref bs_2), .val (.ref bs_3), .val (.int (i0 &&& (3 : Int32))), .val (.ref b4), .val (.ref w1a), .unset, .unset, .unset] [(.ref b2_20)]))
        refine Go.st (fun t k => XS.astore X58.here hx rfl (hb hby at_112) rfl rfl (l' := #[.val (.int i0), .val (.int i1), .val (.int i2), .val (.int i3), .val (.int i4), .val (.ref bs_1), .val (.ref bs_2), .val (.ref bs_3), .val (.int (i0 &&& (3 : Int32))), .val (.ref b4), .val (.ref w1a), .val (.ref b2_20), .unset, .unset]) rfl k) ?_
        show Go p e below _ (T58.setTop (mkF m 114 #[.val (.int i0), .val (.int i1), .val (.int i2), .val (.int i3), .val (.int i4), .val (.ref bs_1), .val (.ref bs_2), .val (.ref bs_3), .val (.int (i0 &&& (3 : Int32))), .val (.ref b4), .val (.ref w1a), .val (.ref b2_20), .unset, .unset] []))
        refine Go.st (fun t k => XS.aload X58.here hx rfl (hb hby at_114) rfl rfl k) ?_
        show Go p e below _ (T58.setTop (mkF m 116 #[.val (.int i0), .val (.int i1), .val (.int i2), .val (.int i3), .val (.int i4), .val (.ref bs_1), .val (.ref bs_2), .val (.ref bs_3), .val (.int (i0 &&& (3 : Int32))), .val (.ref b4), .val (.ref w1a), .val (.ref b2_20), .unset, .unset] [(.ref b2_20)]))
        refine Go.st (fun t k => XS.ifnullNo X58.here hx rfl (hb hby at_116) rfl k) ?_
        show Go p e below _ (T58.setTop (mkF m 119 #[.val (.int i0), .val (.int i1), .val (.int i2), .val (.int i3), .val (.int i4), .val (.ref bs_1), .val (.ref bs_2), .val (.ref bs_3), .val (.int (i0 &&& (3 : Int32))), .val (.ref b4), .val (.ref w1a), .val (.ref b2_20), .unset, .unset] []))
        refine Go.st (fun t k => XS.aload X58.here hx rfl (hb hby at_119) rfl rfl k) ?_
        show Go p e below _ (T58.setTop (mkF m 121 #[.val (.int i0), .val (.int i1), .val (.int i2), .val (.int i3), .val (.int i4), .val (.ref bs_1), .val (.ref bs_2), .val (.ref bs_3), .val (.int (i0 &&& (3 : Int32))), .val (.ref b4), .val (.ref w1a), .val (.ref b2_20), .unset, .unset] [(.ref b2_20)]))
        obtain ⟨cq59, kq59, q59a, q59b, q59c⟩ := isOf hZ eh58 ((r20_9.keep K36c).keep K56c)
        obtain ⟨_, _, ⟨T59, L59, k59, n59⟩, -, X59, ⟨Lc59, hQ59, l59, y59, z59⟩, st59⟩ := X58.interfaceBack hx (xi := (⟨"java/util/List", "size", "()I"⟩ : MethodName)) (y := (⟨"java/util/ArrayList", "size", "()I"⟩ : MethodName)) hown (mvT hZ (w57 hw)) (mvT hZ (w58 hw)) (mvT hZ (w59 hw)) (mvT hZ (w133 hw)) (mvT hZ (w134 hw)) (mvT hZ (w135 hw)) (mvT hZ (w136 hw)) (mvT hZ (w105 hw)) (by decide) (backOf (W := 0) (rm18_3 l Z a0 hw [] b2_20 T56.heap n0 O56 r56_3) hZ (w137 hw) (w76 hw) (by decide) (by decide)) q59a q59b q59c (g := (mkF m 121 #[.val (.int i0), .val (.int i1), .val (.int i2), .val (.int i3), .val (.int i4), .val (.ref bs_1), .val (.ref bs_2), .val (.ref bs_3), .val (.int (i0 &&& (3 : Int32))), .val (.ref b4), .val (.ref w1a), .val (.ref b2_20), .unset, .unset] [(.ref b2_20)])) rfl (by rw [hml]; rfl) (Steps.refl _) (argsL := []) (rest := []) (lenOf pd_12 rfl) rfl (by show 2 * 0 + _ ≤ _; exact Nat.le_of_eq rfl) (hb hby at_121) (fun vm₁ hw₁ => ⟨rfl, eh58, (by decide : 18 + 0 ≤ _), (by decide : 43 + 0 ≤ _)⟩)
        dsimp only [Pt.U, Pt.locs, Pt.cells, Pt.slots] at X59 l59 y59 z59 st59 hQ59
        subst l59 y59 z59
        obtain ⟨rfl, M59, eh59⟩ := hQ59
        have N59 := Fr.app N58 M59
        refine Go.tr st59 ?_
        show Go p e below _ (T59.setTop (mkF m 126 #[.val (.int i0), .val (.int i1), .val (.int i2), .val (.int i3), .val (.int i4), .val (.ref bs_1), .val (.ref bs_2), .val (.ref bs_3), .val (.int (i0 &&& (3 : Int32))), .val (.ref b4), .val (.ref w1a), .val (.ref b2_20), .unset, .unset] [(.int (3 : Int32))]))
        refine Go.st (fun t k => XS.iload X59.here hx rfl (hb hby at_126) rfl k) ?_
        show Go p e below _ (T59.setTop (mkF m 128 #[.val (.int i0), .val (.int i1), .val (.int i2), .val (.int i3), .val (.int i4), .val (.ref bs_1), .val (.ref bs_2), .val (.ref bs_3), .val (.int (i0 &&& (3 : Int32))), .val (.ref b4), .val (.ref w1a), .val (.ref b2_20), .unset, .unset] [(.int (i0 &&& (3 : Int32))), (.int (3 : Int32))]))
        have hp60 : (3 : Int32) = (i0 &&& (3 : Int32)) := by
          have j1 : (3 : Int) ≤ ((3 : Int32)).toInt ∧ ((3 : Int32)).toInt ≤ 3 := ⟨by decide, by decide⟩
          have j2 := own_c32 (i0)
          have j3 := own_maskE32 i0 (3 : Int32) 2 4 (by decide) (by decide) (by decide) (by decide)
          have j4 : (0 : Int) ≤ ((i0 &&& (3 : Int32))).toInt ∧ ((i0 &&& (3 : Int32))).toInt ≤ 3 := j3.2
          have j5 : (1 : Int) ≤ ((1 : Int32)).toInt ∧ ((1 : Int32)).toInt ≤ 1 := ⟨by decide, by decide⟩
          have j6 := own_nlt32 hc11
          have j7 : (2 : Int) ≤ ((2 : Int32)).toInt ∧ ((2 : Int32)).toInt ≤ 2 := ⟨by decide, by decide⟩
          have j8 := own_nlt32 hc21
          have j9 := own_nlt32 hc38
          have j10 : (3 : Int) ≤ ((i0 &&& (3 : Int32))).toInt ∧ ((i0 &&& (3 : Int32))).toInt ≤ 3 := by constructor <;> omega
          have j11 := own_nlt32 hc11
          have j12 := own_nlt32 hc21
          have j13 := own_nlt32 hc38
          rw [← Int32.toInt_inj]
          omega
        refine Go.st (fun t k => XS.icmpYes X59.here hx rfl (pc0 := 128) (pc' := 133) rfl (hb hby at_128) rfl (Jvm.Free.XT.ii_eq_t hp60) (by decide) (by decide) k) ?_
        show Go p e below _ (T59.setTop (mkF m 133 #[.val (.int i0), .val (.int i1), .val (.int i2), .val (.int i3), .val (.int i4), .val (.ref bs_1), .val (.ref bs_2), .val (.ref bs_3), .val (.int (i0 &&& (3 : Int32))), .val (.ref b4), .val (.ref w1a), .val (.ref b2_20), .unset, .unset] []))
        refine Go.st (fun t k => XS.iconst X59.here hx rfl (hb hby at_133) k) ?_
        show Go p e below _ (T59.setTop (mkF m 134 #[.val (.int i0), .val (.int i1), .val (.int i2), .val (.int i3), .val (.int i4), .val (.ref bs_1), .val (.ref bs_2), .val (.ref bs_3), .val (.int (i0 &&& (3 : Int32))), .val (.ref b4), .val (.ref w1a), .val (.ref b2_20), .unset, .unset] [(.int (1 : Int32))]))
        refine Go.st (fun t k => XS.istore X59.here hx rfl (hb hby at_134) rfl (l' := #[.val (.int i0), .val (.int i1), .val (.int i2), .val (.int i3), .val (.int i4), .val (.ref bs_1), .val (.ref bs_2), .val (.ref bs_3), .val (.int (i0 &&& (3 : Int32))), .val (.ref b4), .val (.ref w1a), .val (.ref b2_20), .val (.int (1 : Int32)), .unset]) rfl k) ?_
        show Go p e below _ (T59.setTop (mkF m 136 #[.val (.int i0), .val (.int i1), .val (.int i2), .val (.int i3), .val (.int i4), .val (.ref bs_1), .val (.ref bs_2), .val (.ref bs_3), .val (.int (i0 &&& (3 : Int32))), .val (.ref b4), .val (.ref w1a), .val (.ref b2_20), .val (.int (1 : Int32)), .unset] []))
        refine Go.st (fun t k => XS.iload X59.here hx rfl (hb hby at_136) rfl k) ?_
        show Go p e below _ (T59.setTop (mkF m 138 #[.val (.int i0), .val (.int i1), .val (.int i2), .val (.int i3), .val (.int i4), .val (.ref bs_1), .val (.ref bs_2), .val (.ref bs_3), .val (.int (i0 &&& (3 : Int32))), .val (.ref b4), .val (.ref w1a), .val (.ref b2_20), .val (.int (1 : Int32)), .unset] [(.int (i0 &&& (3 : Int32)))]))
        refine Go.st (fun t k => XS.iconst X59.here hx rfl (hb hby at_138) k) ?_
        show Go p e below _ (T59.setTop (mkF m 139 #[.val (.int i0), .val (.int i1), .val (.int i2), .val (.int i3), .val (.int i4), .val (.ref bs_1), .val (.ref bs_2), .val (.ref bs_3), .val (.int (i0 &&& (3 : Int32))), .val (.ref b4), .val (.ref w1a), .val (.ref b2_20), .val (.int (1 : Int32)), .unset] [(.int (1 : Int32)), (.int (i0 &&& (3 : Int32)))]))
        refine Go.st (fun t k => XS.icmpNo X59.here hx rfl (hb hby at_139) rfl (Jvm.Free.XT.ii_lt_f hc11) k) ?_
        show Go p e below _ (T59.setTop (mkF m 142 #[.val (.int i0), .val (.int i1), .val (.int i2), .val (.int i3), .val (.int i4), .val (.ref bs_1), .val (.ref bs_2), .val (.ref bs_3), .val (.int (i0 &&& (3 : Int32))), .val (.ref b4), .val (.ref w1a), .val (.ref b2_20), .val (.int (1 : Int32)), .unset] []))
        refine Go.st (fun t k => XS.iload X59.here hx rfl (hb hby at_142) rfl k) ?_
        show Go p e below _ (T59.setTop (mkF m 144 #[.val (.int i0), .val (.int i1), .val (.int i2), .val (.int i3), .val (.int i4), .val (.ref bs_1), .val (.ref bs_2), .val (.ref bs_3), .val (.int (i0 &&& (3 : Int32))), .val (.ref b4), .val (.ref w1a), .val (.ref b2_20), .val (.int (1 : Int32)), .unset] [(.int (1 : Int32))]))
        refine Go.st (fun t k => XS.ifNo X59.here hx rfl (hb hby at_144) rfl (Jvm.Free.XT.i0_eq_f (by decide : ¬ ((1 : Int32) = (0 : Int32)))) k) ?_
        show Go p e below _ (T59.setTop (mkF m 147 #[.val (.int i0), .val (.int i1), .val (.int i2), .val (.int i3), .val (.int i4), .val (.ref bs_1), .val (.ref bs_2), .val (.ref bs_3), .val (.int (i0 &&& (3 : Int32))), .val (.ref b4), .val (.ref w1a), .val (.ref b2_20), .val (.int (1 : Int32)), .unset] []))
        refine Go.st (fun t k => XS.aload X59.here hx rfl (hb hby at_147) rfl rfl k) ?_
        show Go p e below _ (T59.setTop (mkF m 149 #[.val (.int i0), .val (.int i1), .val (.int i2), .val (.int i3), .val (.int i4), .val (.ref bs_1), .val (.ref bs_2), .val (.ref bs_3), .val (.int (i0 &&& (3 : Int32))), .val (.ref b4), .val (.ref w1a), .val (.ref b2_20), .val (.int (1 : Int32)), .unset] [(.ref b2_20)]))
        refine Go.st (fun t k => XS.iconst X59.here hx rfl (hb hby at_149) k) ?_
        show Go p e below _ (T59.setTop (mkF m 150 #[.val (.int i0), .val (.int i1), .val (.int i2), .val (.int i3), .val (.int i4), .val (.ref bs_1), .val (.ref bs_2), .val (.ref bs_3), .val (.int (i0 &&& (3 : Int32))), .val (.ref b4), .val (.ref w1a), .val (.ref b2_20), .val (.int (1 : Int32)), .unset] [(.int (0 : Int32)), (.ref b2_20)]))
        obtain ⟨cq61, kq61, q61a, q61b, q61c⟩ := isOf hZ eh59 ((r20_9.keep K36c).keep K56c)
        obtain ⟨_, _, ⟨T61, L61, k61, n61⟩, -, X61, ⟨Lc61, hQ61, l61, y61, z61⟩, st61⟩ := X59.interfaceBack hx (xi := (⟨"java/util/List", "get", "(I)Ljava/lang/Object;"⟩ : MethodName)) (y := (⟨"java/util/ArrayList", "get", "(I)Ljava/lang/Object;"⟩ : MethodName)) hown (mvT hZ (w138 hw)) (mvT hZ (w139 hw)) (mvT hZ (w140 hw)) (mvT hZ (w141 hw)) (mvT hZ (w142 hw)) (mvT hZ (w143 hw)) (mvT hZ (w144 hw)) (mvT hZ (w105 hw)) (by decide) (backOf (W := 0) (rm19_4 l Z a0 hw [] b2_20 b6_2_2_7_10_20 k6_2_2_7_10_20 bs_1 bs_2 bs_3 T56.heap n0 O56 r56_3 ((r20_9.keep K36c).keep K56c) r56_2 r56_0) hZ (w145 hw) (w76 hw) (by decide) (by decide)) q61a q61b q61c (g := (mkF m 150 #[.val (.int i0), .val (.int i1), .val (.int i2), .val (.int i3), .val (.int i4), .val (.ref bs_1), .val (.ref bs_2), .val (.ref bs_3), .val (.int (i0 &&& (3 : Int32))), .val (.ref b4), .val (.ref w1a), .val (.ref b2_20), .val (.int (1 : Int32)), .unset] [(.int (0 : Int32)), (.ref b2_20)])) rfl (by rw [hml]; rfl) (Steps.refl _) (argsL := [(.int (0 : Int32))]) (rest := []) (lenOf pd_21 rfl) rfl (by show 2 * 0 + _ ≤ _; exact Nat.le_of_eq rfl) (hb hby at_150) (fun vm₁ hw₁ => ⟨rfl, eh59, (by decide : 18 + 0 ≤ _), (by decide : 43 + 0 ≤ _)⟩)
        dsimp only [Pt.U, Pt.locs, Pt.cells, Pt.slots] at X61 l61 y61 z61 st61 hQ61
        subst l61 y61 z61
        obtain ⟨rfl, M61, eh61⟩ := hQ61
        have N61 := Fr.app N59 M61
        refine Go.tr st61 ?_
        show Go p e below _ (T61.setTop (mkF m 155 #[.val (.int i0), .val (.int i1), .val (.int i2), .val (.int i3), .val (.int i4), .val (.ref bs_1), .val (.ref bs_2), .val (.ref bs_3), .val (.int (i0 &&& (3 : Int32))), .val (.ref b4), .val (.ref w1a), .val (.ref b2_20), .val (.int (1 : Int32)), .unset] [(.ref bs_1)]))
        obtain ⟨T62, X62, e62, st62⟩ := castY X61 hx hZ hown (w4 hw) eh61 (Ins.self (((c19.keep K20c).keep K36c).keep K56c)) (g := (mkF m 155 #[.val (.int i0), .val (.int i1), .val (.int i2), .val (.int i3), .val (.int i4), .val (.ref bs_1), .val (.ref bs_2), .val (.ref bs_3), .val (.int (i0 &&& (3 : Int32))), .val (.ref b4), .val (.ref w1a), .val (.ref b2_20), .val (.int (1 : Int32)), .unset] [(.ref bs_1)])) rfl rfl (hb hby at_155)
        refine Go.st st62 ?_
        show Go p e below _ (T62.setTop (mkF m 158 #[.val (.int i0), .val (.int i1), .val (.int i2), .val (.int i3), .val (.int i4), .val (.ref bs_1), .val (.ref bs_2), .val (.ref bs_3), .val (.int (i0 &&& (3 : Int32))), .val (.ref b4), .val (.ref w1a), .val (.ref b2_20), .val (.int (1 : Int32)), .unset] [(.ref bs_1)]))
        refine Go.st (fun t k => XS.aload X62.here hx rfl (hb hby at_158) rfl rfl k) ?_
        show Go p e below _ (T62.setTop (mkF m 160 #[.val (.int i0), .val (.int i1), .val (.int i2), .val (.int i3), .val (.int i4), .val (.ref bs_1), .val (.ref bs_2), .val (.ref bs_3), .val (.int (i0 &&& (3 : Int32))), .val (.ref b4), .val (.ref w1a), .val (.ref b2_20), .val (.int (1 : Int32)), .unset] [(.ref bs_1), (.ref bs_1)]))
        obtain ⟨cq63, kq63, q63a, q63b, q63c⟩ := isOf hZ e62 (((c19.keep K20c).keep K36c).keep K56c)
        obtain ⟨_, _, ⟨T63, L63, k63, n63⟩, -, X63, ⟨Lc63, hQ63, l63, y63, z63⟩, st63⟩ := X62.virtualBack hx (y := (⟨"java/lang/String", "equals", "(Ljava/lang/Object;)Z"⟩ : MethodName)) (z := (⟨"java/lang/String", "equals", "(Ljava/lang/Object;)Z"⟩ : MethodName)) hown (mvT hZ (w159 hw)) (mvT hZ (w160 hw)) (notFace_of_selects (args := #[]) (mvT hZ (w162 hw))) (mvT hZ (w162 hw)) (mvT hZ (w161 hw)) (by decide) (backOf (W := 0) (rm23_1 l Z a0 hw [] bs_1 T56.heap n0 O56 ) hZ (w163 hw) (w6 hw) (by decide) (by decide)) q63a q63c (g := (mkF m 160 #[.val (.int i0), .val (.int i1), .val (.int i2), .val (.int i3), .val (.int i4), .val (.ref bs_1), .val (.ref bs_2), .val (.ref bs_3), .val (.int (i0 &&& (3 : Int32))), .val (.ref b4), .val (.ref w1a), .val (.ref b2_20), .val (.int (1 : Int32)), .unset] [(.ref bs_1), (.ref bs_1)])) rfl (by rw [hml]; rfl) (Steps.refl _) (argsL := [(.ref bs_1)]) (rest := []) (lenOf pd_18 rfl) rfl (by show 2 * 0 + _ ≤ _; exact Nat.le_of_eq rfl) (hb hby at_160) (fun vm₁ hw₁ => ⟨rfl, e62, (by decide : 18 + 0 ≤ _), (by decide : 43 + 0 ≤ _)⟩)
        dsimp only [Pt.U, Pt.locs, Pt.cells, Pt.slots] at X63 l63 y63 z63 st63 hQ63
        subst l63 y63 z63
        obtain ⟨rfl, M63, eh63⟩ := hQ63
        have N63 := Fr.app N61 M63
        refine Go.tr st63 ?_
        show Go p e below _ (T63.setTop (mkF m 163 #[.val (.int i0), .val (.int i1), .val (.int i2), .val (.int i3), .val (.int i4), .val (.ref bs_1), .val (.ref bs_2), .val (.ref bs_3), .val (.int (i0 &&& (3 : Int32))), .val (.ref b4), .val (.ref w1a), .val (.ref b2_20), .val (.int (1 : Int32)), .unset] [(.int (1 : Int32))]))
        refine Go.st (fun t k => XS.ifNo X63.here hx rfl (hb hby at_163) rfl (Jvm.Free.XT.i0_eq_f (by decide : ¬ ((1 : Int32) = (0 : Int32)))) k) ?_
        show Go p e below _ (T63.setTop (mkF m 166 #[.val (.int i0), .val (.int i1), .val (.int i2), .val (.int i3), .val (.int i4), .val (.ref bs_1), .val (.ref bs_2), .val (.ref bs_3), .val (.int (i0 &&& (3 : Int32))), .val (.ref b4), .val (.ref w1a), .val (.ref b2_20), .val (.int (1 : Int32)), .unset] []))
        refine Go.st (fun t k => XS.iconst X63.here hx rfl (hb hby at_166) k) ?_
        show Go p e below _ (T63.setTop (mkF m 167 #[.val (.int i0), .val (.int i1), .val (.int i2), .val (.int i3), .val (.int i4), .val (.ref bs_1), .val (.ref bs_2), .val (.ref bs_3), .val (.int (i0 &&& (3 : Int32))), .val (.ref b4), .val (.ref w1a), .val (.ref b2_20), .val (.int (1 : Int32)), .unset] [(.int (1 : Int32))]))
        refine Go.st (fun t k => XS.goto X63.here hx rfl (pc0 := 167) (pc' := 171) rfl (hb hby at_167) (by decide) (by decide) k) ?_
        show Go p e below _ (T63.setTop (mkF m 171 #[.val (.int i0), .val (.int i1), .val (.int i2), .val (.int i3), .val (.int i4), .val (.ref bs_1), .val (.ref bs_2), .val (.ref bs_3), .val (.int (i0 &&& (3 : Int32))), .val (.ref b4), .val (.ref w1a), .val (.ref b2_20), .val (.int (1 : Int32)), .unset] [(.int (1 : Int32))]))
        refine Go.st (fun t k => XS.istore X63.here hx rfl (hb hby at_171) rfl (l' := #[.val (.int i0), .val (.int i1), .val (.int i2), .val (.int i3), .val (.int i4), .val (.ref bs_1), .val (.ref bs_2), .val (.ref bs_3), .val (.int (i0 &&& (3 : Int32))), .val (.ref b4), .val (.ref w1a), .val (.ref b2_20), .val (.int (1 : Int32)), .unset]) rfl k) ?_
        show Go p e below _ (T63.setTop (mkF m 173 #[.val (.int i0), .val (.int i1), .val (.int i2), .val (.int i3), .val (.int i4), .val (.ref bs_1), .val (.ref bs_2), .val (.ref bs_3), .val (.int (i0 &&& (3 : Int32))), .val (.ref b4), .val (.ref w1a), .val (.ref b2_20), .val (.int (1 : Int32)), .unset] []))
        refine Go.st (fun t k => XS.iload X63.here hx rfl (hb hby at_173) rfl k) ?_
        show Go p e below _ (T63.setTop (mkF m 175 #[.val (.int i0), .val (.int i1), .val (.int i2), .val (.int i3), .val (.int i4), .val (.ref bs_1), .val (.ref bs_2), .val (.ref bs_3), .val (.int (i0 &&& (3 : Int32))), .val (.ref b4), .val (.ref w1a), .val (.ref b2_20), .val (.int (1 : Int32)), .unset] [(.int (i0 &&& (3 : Int32)))]))
        refine Go.st (fun t k => XS.iconst X63.here hx rfl (hb hby at_175) k) ?_
        show Go p e below _ (T63.setTop (mkF m 176 #[.val (.int i0), .val (.int i1), .val (.int i2), .val (.int i3), .val (.int i4), .val (.ref bs_1), .val (.ref bs_2), .val (.ref bs_3), .val (.int (i0 &&& (3 : Int32))), .val (.ref b4), .val (.ref w1a), .val (.ref b2_20), .val (.int (1 : Int32)), .unset] [(.int (2 : Int32)), (.int (i0 &&& (3 : Int32)))]))
        refine Go.st (fun t k => XS.icmpNo X63.here hx rfl (hb hby at_176) rfl (Jvm.Free.XT.ii_lt_f hc21) k) ?_
        show Go p e below _ (T63.setTop (mkF m 179 #[.val (.int i0), .val (.int i1), .val (.int i2), .val (.int i3), .val (.int i4), .val (.ref bs_1), .val (.ref bs_2), .val (.ref bs_3), .val (.int (i0 &&& (3 : Int32))), .val (.ref b4), .val (.ref w1a), .val (.ref b2_20), .val (.int (1 : Int32)), .unset] []))
        refine Go.st (fun t k => XS.iload X63.here hx rfl (hb hby at_179) rfl k) ?_
        show Go p e below _ (T63.setTop (mkF m 181 #[.val (.int i0), .val (.int i1), .val (.int i2), .val (.int i3), .val (.int i4), .val (.ref bs_1), .val (.ref bs_2), .val (.ref bs_3), .val (.int (i0 &&& (3 : Int32))), .val (.ref b4), .val (.ref w1a), .val (.ref b2_20), .val (.int (1 : Int32)), .unset] [(.int (1 : Int32))]))
        refine Go.st (fun t k => XS.ifNo X63.here hx rfl (hb hby at_181) rfl (Jvm.Free.XT.i0_eq_f (by decide : ¬ ((1 : Int32) = (0 : Int32)))) k) ?_
        show Go p e below _ (T63.setTop (mkF m 184 #[.val (.int i0), .val (.int i1), .val (.int i2), .val (.int i3), .val (.int i4), .val (.ref bs_1), .val (.ref bs_2), .val (.ref bs_3), .val (.int (i0 &&& (3 : Int32))), .val (.ref b4), .val (.ref w1a), .val (.ref b2_20), .val (.int (1 : Int32)), .unset] []))
        refine Go.st (fun t k => XS.aload X63.here hx rfl (hb hby at_184) rfl rfl k) ?_
        show Go p e below _ (T63.setTop (mkF m 186 #[.val (.int i0), .val (.int i1), .val (.int i2), .val (.int i3), .val (.int i4), .val (.ref bs_1), .val (.ref bs_2), .val (.ref bs_3), .val (.int (i0 &&& (3 : Int32))), .val (.ref b4), .val (.ref w1a), .val (.ref b2_20), .val (.int (1 : Int32)), .unset] [(.ref b2_20)]))
        refine Go.st (fun t k => XS.iconst X63.here hx rfl (hb hby at_186) k) ?_
        show Go p e below _ (T63.setTop (mkF m 187 #[.val (.int i0), .val (.int i1), .val (.int i2), .val (.int i3), .val (.int i4), .val (.ref bs_1), .val (.ref bs_2), .val (.ref bs_3), .val (.int (i0 &&& (3 : Int32))), .val (.ref b4), .val (.ref w1a), .val (.ref b2_20), .val (.int (1 : Int32)), .unset] [(.int (1 : Int32)), (.ref b2_20)]))
        obtain ⟨cq64, kq64, q64a, q64b, q64c⟩ := isOf hZ eh63 ((r20_9.keep K36c).keep K56c)
        obtain ⟨_, _, ⟨T64, L64, k64, n64⟩, -, X64, ⟨Lc64, hQ64, l64, y64, z64⟩, st64⟩ := X63.interfaceBack hx (xi := (⟨"java/util/List", "get", "(I)Ljava/lang/Object;"⟩ : MethodName)) (y := (⟨"java/util/ArrayList", "get", "(I)Ljava/lang/Object;"⟩ : MethodName)) hown (mvT hZ (w138 hw)) (mvT hZ (w139 hw)) (mvT hZ (w140 hw)) (mvT hZ (w141 hw)) (mvT hZ (w142 hw)) (mvT hZ (w143 hw)) (mvT hZ (w144 hw)) (mvT hZ (w105 hw)) (by decide) (backOf (W := 0) (rm19_5 l Z a0 hw [] b2_20 b6_2_2_7_10_20 k6_2_2_7_10_20 bs_1 bs_2 bs_3 T56.heap n0 O56 r56_3 ((r20_9.keep K36c).keep K56c) r56_2 r56_0) hZ (w145 hw) (w76 hw) (by decide) (by decide)) q64a q64b q64c (g := (mkF m 187 #[.val (.int i0), .val (.int i1), .val (.int i2), .val (.int i3), .val (.int i4), .val (.ref bs_1), .val (.ref bs_2), .val (.ref bs_3), .val (.int (i0 &&& (3 : Int32))), .val (.ref b4), .val (.ref w1a), .val (.ref b2_20), .val (.int (1 : Int32)), .unset] [(.int (1 : Int32)), (.ref b2_20)])) rfl (by rw [hml]; rfl) (Steps.refl _) (argsL := [(.int (1 : Int32))]) (rest := []) (lenOf pd_21 rfl) rfl (by show 2 * 0 + _ ≤ _; exact Nat.le_of_eq rfl) (hb hby at_187) (fun vm₁ hw₁ => ⟨rfl, eh63, (by decide : 18 + 0 ≤ _), (by decide : 43 + 0 ≤ _)⟩)
        dsimp only [Pt.U, Pt.locs, Pt.cells, Pt.slots] at X64 l64 y64 z64 st64 hQ64
        subst l64 y64 z64
        obtain ⟨rfl, M64, eh64⟩ := hQ64
        have N64 := Fr.app N63 M64
        refine Go.tr st64 ?_
        show Go p e below _ (T64.setTop (mkF m 192 #[.val (.int i0), .val (.int i1), .val (.int i2), .val (.int i3), .val (.int i4), .val (.ref bs_1), .val (.ref bs_2), .val (.ref bs_3), .val (.int (i0 &&& (3 : Int32))), .val (.ref b4), .val (.ref w1a), .val (.ref b2_20), .val (.int (1 : Int32)), .unset] [(.ref bs_2)]))
        obtain ⟨T65, X65, e65, st65⟩ := castY X64 hx hZ hown (w4 hw) eh64 (Ins.self ((c35.keep K36c).keep K56c)) (g := (mkF m 192 #[.val (.int i0), .val (.int i1), .val (.int i2), .val (.int i3), .val (.int i4), .val (.ref bs_1), .val (.ref bs_2), .val (.ref bs_3), .val (.int (i0 &&& (3 : Int32))), .val (.ref b4), .val (.ref w1a), .val (.ref b2_20), .val (.int (1 : Int32)), .unset] [(.ref bs_2)])) rfl rfl (hb hby at_192)
        refine Go.st st65 ?_
        show Go p e below _ (T65.setTop (mkF m 195 #[.val (.int i0), .val (.int i1), .val (.int i2), .val (.int i3), .val (.int i4), .val (.ref bs_1), .val (.ref bs_2), .val (.ref bs_3), .val (.int (i0 &&& (3 : Int32))), .val (.ref b4), .val (.ref w1a), .val (.ref b2_20), .val (.int (1 : Int32)), .unset] [(.ref bs_2)]))
        refine Go.st (fun t k => XS.aload X65.here hx rfl (hb hby at_195) rfl rfl k) ?_
        show Go p e below _ (T65.setTop (mkF m 197 #[.val (.int i0), .val (.int i1), .val (.int i2), .val (.int i3), .val (.int i4), .val (.ref bs_1), .val (.ref bs_2), .val (.ref bs_3), .val (.int (i0 &&& (3 : Int32))), .val (.ref b4), .val (.ref w1a), .val (.ref b2_20), .val (.int (1 : Int32)), .unset] [(.ref bs_2), (.ref bs_2)]))
        obtain ⟨cq66, kq66, q66a, q66b, q66c⟩ := isOf hZ e65 ((c35.keep K36c).keep K56c)
        obtain ⟨_, _, ⟨T66, L66, k66, n66⟩, -, X66, ⟨Lc66, hQ66, l66, y66, z66⟩, st66⟩ := X65.virtualBack hx (y := (⟨"java/lang/String", "equals", "(Ljava/lang/Object;)Z"⟩ : MethodName)) (z := (⟨"java/lang/String", "equals", "(Ljava/lang/Object;)Z"⟩ : MethodName)) hown (mvT hZ (w159 hw)) (mvT hZ (w160 hw)) (notFace_of_selects (args := #[]) (mvT hZ (w162 hw))) (mvT hZ (w162 hw)) (mvT hZ (w161 hw)) (by decide) (backOf (W := 0) (rm23_1 l Z a0 hw [] bs_2 T56.heap n0 O56 ) hZ (w163 hw) (w6 hw) (by decide) (by decide)) q66a q66c (g := (mkF m 197 #[.val (.int i0), .val (.int i1), .val (.int i2), .val (.int i3), .val (.int i4), .val (.ref bs_1), .val (.ref bs_2), .val (.ref bs_3), .val (.int (i0 &&& (3 : Int32))), .val (.ref b4), .val (.ref w1a), .val (.ref b2_20), .val (.int (1 : Int32)), .unset] [(.ref bs_2), (.ref bs_2)])) rfl (by rw [hml]; rfl) (Steps.refl _) (argsL := [(.ref bs_2)]) (rest := []) (lenOf pd_18 rfl) rfl (by show 2 * 0 + _ ≤ _; exact Nat.le_of_eq rfl) (hb hby at_197) (fun vm₁ hw₁ => ⟨rfl, e65, (by decide : 18 + 0 ≤ _), (by decide : 43 + 0 ≤ _)⟩)
        dsimp only [Pt.U, Pt.locs, Pt.cells, Pt.slots] at X66 l66 y66 z66 st66 hQ66
        subst l66 y66 z66
        obtain ⟨rfl, M66, eh66⟩ := hQ66
        have N66 := Fr.app N64 M66
        refine Go.tr st66 ?_
        show Go p e below _ (T66.setTop (mkF m 200 #[.val (.int i0), .val (.int i1), .val (.int i2), .val (.int i3), .val (.int i4), .val (.ref bs_1), .val (.ref bs_2), .val (.ref bs_3), .val (.int (i0 &&& (3 : Int32))), .val (.ref b4), .val (.ref w1a), .val (.ref b2_20), .val (.int (1 : Int32)), .unset] [(.int (1 : Int32))]))
        refine Go.st (fun t k => XS.ifNo X66.here hx rfl (hb hby at_200) rfl (Jvm.Free.XT.i0_eq_f (by decide : ¬ ((1 : Int32) = (0 : Int32)))) k) ?_
        show Go p e below _ (T66.setTop (mkF m 203 #[.val (.int i0), .val (.int i1), .val (.int i2), .val (.int i3), .val (.int i4), .val (.ref bs_1), .val (.ref bs_2), .val (.ref bs_3), .val (.int (i0 &&& (3 : Int32))), .val (.ref b4), .val (.ref w1a), .val (.ref b2_20), .val (.int (1 : Int32)), .unset] []))
        refine Go.st (fun t k => XS.iconst X66.here hx rfl (hb hby at_203) k) ?_
        show Go p e below _ (T66.setTop (mkF m 204 #[.val (.int i0), .val (.int i1), .val (.int i2), .val (.int i3), .val (.int i4), .val (.ref bs_1), .val (.ref bs_2), .val (.ref bs_3), .val (.int (i0 &&& (3 : Int32))), .val (.ref b4), .val (.ref w1a), .val (.ref b2_20), .val (.int (1 : Int32)), .unset] [(.int (1 : Int32))]))
        refine Go.st (fun t k => XS.goto X66.here hx rfl (pc0 := 204) (pc' := 208) rfl (hb hby at_204) (by decide) (by decide) k) ?_
        show Go p e below _ (T66.setTop (mkF m 208 #[.val (.int i0), .val (.int i1), .val (.int i2), .val (.int i3), .val (.int i4), .val (.ref bs_1), .val (.ref bs_2), .val (.ref bs_3), .val (.int (i0 &&& (3 : Int32))), .val (.ref b4), .val (.ref w1a), .val (.ref b2_20), .val (.int (1 : Int32)), .unset] [(.int (1 : Int32))]))
        refine Go.st (fun t k => XS.istore X66.here hx rfl (hb hby at_208) rfl (l' := #[.val (.int i0), .val (.int i1), .val (.int i2), .val (.int i3), .val (.int i4), .val (.ref bs_1), .val (.ref bs_2), .val (.ref bs_3), .val (.int (i0 &&& (3 : Int32))), .val (.ref b4), .val (.ref w1a), .val (.ref b2_20), .val (.int (1 : Int32)), .unset]) rfl k) ?_
        show Go p e below _ (T66.setTop (mkF m 210 #[.val (.int i0), .val (.int i1), .val (.int i2), .val (.int i3), .val (.int i4), .val (.ref bs_1), .val (.ref bs_2), .val (.ref bs_3), .val (.int (i0 &&& (3 : Int32))), .val (.ref b4), .val (.ref w1a), .val (.ref b2_20), .val (.int (1 : Int32)), .unset] []))
        refine Go.st (fun t k => XS.iload X66.here hx rfl (hb hby at_210) rfl k) ?_
        show Go p e below _ (T66.setTop (mkF m 212 #[.val (.int i0), .val (.int i1), .val (.int i2), .val (.int i3), .val (.int i4), .val (.ref bs_1), .val (.ref bs_2), .val (.ref bs_3), .val (.int (i0 &&& (3 : Int32))), .val (.ref b4), .val (.ref w1a), .val (.ref b2_20), .val (.int (1 : Int32)), .unset] [(.int (i0 &&& (3 : Int32)))]))
        refine Go.st (fun t k => XS.iconst X66.here hx rfl (hb hby at_212) k) ?_
        show Go p e below _ (T66.setTop (mkF m 213 #[.val (.int i0), .val (.int i1), .val (.int i2), .val (.int i3), .val (.int i4), .val (.ref bs_1), .val (.ref bs_2), .val (.ref bs_3), .val (.int (i0 &&& (3 : Int32))), .val (.ref b4), .val (.ref w1a), .val (.ref b2_20), .val (.int (1 : Int32)), .unset] [(.int (3 : Int32)), (.int (i0 &&& (3 : Int32)))]))
        refine Go.st (fun t k => XS.icmpNo X66.here hx rfl (hb hby at_213) rfl (Jvm.Free.XT.ii_lt_f hc38) k) ?_
        show Go p e below _ (T66.setTop (mkF m 216 #[.val (.int i0), .val (.int i1), .val (.int i2), .val (.int i3), .val (.int i4), .val (.ref bs_1), .val (.ref bs_2), .val (.ref bs_3), .val (.int (i0 &&& (3 : Int32))), .val (.ref b4), .val (.ref w1a), .val (.ref b2_20), .val (.int (1 : Int32)), .unset] []))
        refine Go.st (fun t k => XS.iload X66.here hx rfl (hb hby at_216) rfl k) ?_
        show Go p e below _ (T66.setTop (mkF m 218 #[.val (.int i0), .val (.int i1), .val (.int i2), .val (.int i3), .val (.int i4), .val (.ref bs_1), .val (.ref bs_2), .val (.ref bs_3), .val (.int (i0 &&& (3 : Int32))), .val (.ref b4), .val (.ref w1a), .val (.ref b2_20), .val (.int (1 : Int32)), .unset] [(.int (1 : Int32))]))
        refine Go.st (fun t k => XS.ifNo X66.here hx rfl (hb hby at_218) rfl (Jvm.Free.XT.i0_eq_f (by decide : ¬ ((1 : Int32) = (0 : Int32)))) k) ?_
        show Go p e below _ (T66.setTop (mkF m 221 #[.val (.int i0), .val (.int i1), .val (.int i2), .val (.int i3), .val (.int i4), .val (.ref bs_1), .val (.ref bs_2), .val (.ref bs_3), .val (.int (i0 &&& (3 : Int32))), .val (.ref b4), .val (.ref w1a), .val (.ref b2_20), .val (.int (1 : Int32)), .unset] []))
        refine Go.st (fun t k => XS.aload X66.here hx rfl (hb hby at_221) rfl rfl k) ?_
        show Go p e below _ (T66.setTop (mkF m 223 #[.val (.int i0), .val (.int i1), .val (.int i2), .val (.int i3), .val (.int i4), .val (.ref bs_1), .val (.ref bs_2), .val (.ref bs_3), .val (.int (i0 &&& (3 : Int32))), .val (.ref b4), .val (.ref w1a), .val (.ref b2_20), .val (.int (1 : Int32)), .unset] [(.ref b2_20)]))
        refine Go.st (fun t k => XS.iconst X66.here hx rfl (hb hby at_223) k) ?_
        show Go p e below _ (T66.setTop (mkF m 224 #[.val (.int i0), .val (.int i1), .val (.int i2), .val (.int i3), .val (.int i4), .val (.ref bs_1), .val (.ref bs_2), .val (.ref bs_3), .val (.int (i0 &&& (3 : Int32))), .val (.ref b4), .val (.ref w1a), .val (.ref b2_20), .val (.int (1 : Int32)), .unset] [(.int (2 : Int32)), (.ref b2_20)]))
        obtain ⟨cq67, kq67, q67a, q67b, q67c⟩ := isOf hZ eh66 ((r20_9.keep K36c).keep K56c)
        obtain ⟨_, _, ⟨T67, L67, k67, n67⟩, -, X67, ⟨Lc67, hQ67, l67, y67, z67⟩, st67⟩ := X66.interfaceBack hx (xi := (⟨"java/util/List", "get", "(I)Ljava/lang/Object;"⟩ : MethodName)) (y := (⟨"java/util/ArrayList", "get", "(I)Ljava/lang/Object;"⟩ : MethodName)) hown (mvT hZ (w138 hw)) (mvT hZ (w139 hw)) (mvT hZ (w140 hw)) (mvT hZ (w141 hw)) (mvT hZ (w142 hw)) (mvT hZ (w143 hw)) (mvT hZ (w144 hw)) (mvT hZ (w105 hw)) (by decide) (backOf (W := 0) (rm19_6 l Z a0 hw [] b2_20 b6_2_2_7_10_20 k6_2_2_7_10_20 bs_1 bs_2 bs_3 T56.heap n0 O56 r56_3 ((r20_9.keep K36c).keep K56c) r56_2 r56_0) hZ (w145 hw) (w76 hw) (by decide) (by decide)) q67a q67b q67c (g := (mkF m 224 #[.val (.int i0), .val (.int i1), .val (.int i2), .val (.int i3), .val (.int i4), .val (.ref bs_1), .val (.ref bs_2), .val (.ref bs_3), .val (.int (i0 &&& (3 : Int32))), .val (.ref b4), .val (.ref w1a), .val (.ref b2_20), .val (.int (1 : Int32)), .unset] [(.int (2 : Int32)), (.ref b2_20)])) rfl (by rw [hml]; rfl) (Steps.refl _) (argsL := [(.int (2 : Int32))]) (rest := []) (lenOf pd_21 rfl) rfl (by show 2 * 0 + _ ≤ _; exact Nat.le_of_eq rfl) (hb hby at_224) (fun vm₁ hw₁ => ⟨rfl, eh66, (by decide : 18 + 0 ≤ _), (by decide : 43 + 0 ≤ _)⟩)
        dsimp only [Pt.U, Pt.locs, Pt.cells, Pt.slots] at X67 l67 y67 z67 st67 hQ67
        subst l67 y67 z67
        obtain ⟨rfl, M67, eh67⟩ := hQ67
        have N67 := Fr.app N66 M67
        refine Go.tr st67 ?_
        show Go p e below _ (T67.setTop (mkF m 229 #[.val (.int i0), .val (.int i1), .val (.int i2), .val (.int i3), .val (.int i4), .val (.ref bs_1), .val (.ref bs_2), .val (.ref bs_3), .val (.int (i0 &&& (3 : Int32))), .val (.ref b4), .val (.ref w1a), .val (.ref b2_20), .val (.int (1 : Int32)), .unset] [(.ref bs_3)]))
        obtain ⟨T68, X68, e68, st68⟩ := castY X67 hx hZ hown (w4 hw) eh67 (Ins.self (c55.keep K56c)) (g := (mkF m 229 #[.val (.int i0), .val (.int i1), .val (.int i2), .val (.int i3), .val (.int i4), .val (.ref bs_1), .val (.ref bs_2), .val (.ref bs_3), .val (.int (i0 &&& (3 : Int32))), .val (.ref b4), .val (.ref w1a), .val (.ref b2_20), .val (.int (1 : Int32)), .unset] [(.ref bs_3)])) rfl rfl (hb hby at_229)
        refine Go.st st68 ?_
        show Go p e below _ (T68.setTop (mkF m 232 #[.val (.int i0), .val (.int i1), .val (.int i2), .val (.int i3), .val (.int i4), .val (.ref bs_1), .val (.ref bs_2), .val (.ref bs_3), .val (.int (i0 &&& (3 : Int32))), .val (.ref b4), .val (.ref w1a), .val (.ref b2_20), .val (.int (1 : Int32)), .unset] [(.ref bs_3)]))
        refine Go.st (fun t k => XS.aload X68.here hx rfl (hb hby at_232) rfl rfl k) ?_
        show Go p e below _ (T68.setTop (mkF m 234 #[.val (.int i0), .val (.int i1), .val (.int i2), .val (.int i3), .val (.int i4), .val (.ref bs_1), .val (.ref bs_2), .val (.ref bs_3), .val (.int (i0 &&& (3 : Int32))), .val (.ref b4), .val (.ref w1a), .val (.ref b2_20), .val (.int (1 : Int32)), .unset] [(.ref bs_3), (.ref bs_3)]))
        obtain ⟨cq69, kq69, q69a, q69b, q69c⟩ := isOf hZ e68 (c55.keep K56c)
        obtain ⟨_, _, ⟨T69, L69, k69, n69⟩, -, X69, ⟨Lc69, hQ69, l69, y69, z69⟩, st69⟩ := X68.virtualBack hx (y := (⟨"java/lang/String", "equals", "(Ljava/lang/Object;)Z"⟩ : MethodName)) (z := (⟨"java/lang/String", "equals", "(Ljava/lang/Object;)Z"⟩ : MethodName)) hown (mvT hZ (w159 hw)) (mvT hZ (w160 hw)) (notFace_of_selects (args := #[]) (mvT hZ (w162 hw))) (mvT hZ (w162 hw)) (mvT hZ (w161 hw)) (by decide) (backOf (W := 0) (rm23_1 l Z a0 hw [] bs_3 T56.heap n0 O56 ) hZ (w163 hw) (w6 hw) (by decide) (by decide)) q69a q69c (g := (mkF m 234 #[.val (.int i0), .val (.int i1), .val (.int i2), .val (.int i3), .val (.int i4), .val (.ref bs_1), .val (.ref bs_2), .val (.ref bs_3), .val (.int (i0 &&& (3 : Int32))), .val (.ref b4), .val (.ref w1a), .val (.ref b2_20), .val (.int (1 : Int32)), .unset] [(.ref bs_3), (.ref bs_3)])) rfl (by rw [hml]; rfl) (Steps.refl _) (argsL := [(.ref bs_3)]) (rest := []) (lenOf pd_18 rfl) rfl (by show 2 * 0 + _ ≤ _; exact Nat.le_of_eq rfl) (hb hby at_234) (fun vm₁ hw₁ => ⟨rfl, e68, (by decide : 18 + 0 ≤ _), (by decide : 43 + 0 ≤ _)⟩)
        dsimp only [Pt.U, Pt.locs, Pt.cells, Pt.slots] at X69 l69 y69 z69 st69 hQ69
        subst l69 y69 z69
        obtain ⟨rfl, M69, eh69⟩ := hQ69
        have N69 := Fr.app N67 M69
        refine Go.tr st69 ?_
        show Go p e below _ (T69.setTop (mkF m 237 #[.val (.int i0), .val (.int i1), .val (.int i2), .val (.int i3), .val (.int i4), .val (.ref bs_1), .val (.ref bs_2), .val (.ref bs_3), .val (.int (i0 &&& (3 : Int32))), .val (.ref b4), .val (.ref w1a), .val (.ref b2_20), .val (.int (1 : Int32)), .unset] [(.int (1 : Int32))]))
        refine Go.st (fun t k => XS.ifNo X69.here hx rfl (hb hby at_237) rfl (Jvm.Free.XT.i0_eq_f (by decide : ¬ ((1 : Int32) = (0 : Int32)))) k) ?_
        show Go p e below _ (T69.setTop (mkF m 240 #[.val (.int i0), .val (.int i1), .val (.int i2), .val (.int i3), .val (.int i4), .val (.ref bs_1), .val (.ref bs_2), .val (.ref bs_3), .val (.int (i0 &&& (3 : Int32))), .val (.ref b4), .val (.ref w1a), .val (.ref b2_20), .val (.int (1 : Int32)), .unset] []))
        refine Go.st (fun t k => XS.iconst X69.here hx rfl (hb hby at_240) k) ?_
        show Go p e below _ (T69.setTop (mkF m 241 #[.val (.int i0), .val (.int i1), .val (.int i2), .val (.int i3), .val (.int i4), .val (.ref bs_1), .val (.ref bs_2), .val (.ref bs_3), .val (.int (i0 &&& (3 : Int32))), .val (.ref b4), .val (.ref w1a), .val (.ref b2_20), .val (.int (1 : Int32)), .unset] [(.int (1 : Int32))]))
        refine Go.st (fun t k => XS.goto X69.here hx rfl (pc0 := 241) (pc' := 245) rfl (hb hby at_241) (by decide) (by decide) k) ?_
        show Go p e below _ (T69.setTop (mkF m 245 #[.val (.int i0), .val (.int i1), .val (.int i2), .val (.int i3), .val (.int i4), .val (.ref bs_1), .val (.ref bs_2), .val (.ref bs_3), .val (.int (i0 &&& (3 : Int32))), .val (.ref b4), .val (.ref w1a), .val (.ref b2_20), .val (.int (1 : Int32)), .unset] [(.int (1 : Int32))]))
        refine Go.st (fun t k => XS.istore X69.here hx rfl (hb hby at_245) rfl (l' := #[.val (.int i0), .val (.int i1), .val (.int i2), .val (.int i3), .val (.int i4), .val (.ref bs_1), .val (.ref bs_2), .val (.ref bs_3), .val (.int (i0 &&& (3 : Int32))), .val (.ref b4), .val (.ref w1a), .val (.ref b2_20), .val (.int (1 : Int32)), .unset]) rfl k) ?_
        show Go p e below _ (T69.setTop (mkF m 247 #[.val (.int i0), .val (.int i1), .val (.int i2), .val (.int i3), .val (.int i4), .val (.ref bs_1), .val (.ref bs_2), .val (.ref bs_3), .val (.int (i0 &&& (3 : Int32))), .val (.ref b4), .val (.ref w1a), .val (.ref b2_20), .val (.int (1 : Int32)), .unset] []))
        refine Go.st (fun t k => XS.aload X69.here hx rfl (hb hby at_247) rfl rfl k) ?_
        show Go p e below _ (T69.setTop (mkF m 249 #[.val (.int i0), .val (.int i1), .val (.int i2), .val (.int i3), .val (.int i4), .val (.ref bs_1), .val (.ref bs_2), .val (.ref bs_3), .val (.int (i0 &&& (3 : Int32))), .val (.ref b4), .val (.ref w1a), .val (.ref b2_20), .val (.int (1 : Int32)), .unset] [(.ref b4)]))
        obtain ⟨cq70, kq70, q70a, q70b, q70c⟩ := isOf hZ eh69 ((c37.keep K36c).keep K56c)
        obtain ⟨_, _, ⟨T70, L70, k70, n70⟩, -, X70, ⟨Lc70, hQ70, l70, y70, z70⟩, st70⟩ := X69.virtualBack hx (y := (⟨"com/example/cropmark/cropmark/Row", "problems", "()Ljava/util/List;"⟩ : MethodName)) (z := (⟨"com/example/cropmark/cropmark/Row", "problems", "()Ljava/util/List;"⟩ : MethodName)) hown (mvT hZ (w44 hw)) (mvT hZ (w45 hw)) (notFace_of_selects (args := #[]) (mvT hZ (w47 hw))) (mvT hZ (w47 hw)) (mvT hZ (w46 hw)) (by decide) (backOf (W := 0) (rm6_2 l Z a0 hw [] b4 b2_20 T56.heap n0 O56 c57) hZ (w48 hw) (w28 hw) (by decide) (by decide)) q70a q70c (g := (mkF m 249 #[.val (.int i0), .val (.int i1), .val (.int i2), .val (.int i3), .val (.int i4), .val (.ref bs_1), .val (.ref bs_2), .val (.ref bs_3), .val (.int (i0 &&& (3 : Int32))), .val (.ref b4), .val (.ref w1a), .val (.ref b2_20), .val (.int (1 : Int32)), .unset] [(.ref b4)])) rfl (by rw [hml]; rfl) (Steps.refl _) (argsL := []) (rest := []) (lenOf pd_11 rfl) rfl (by show 2 * 0 + _ ≤ _; exact Nat.le_of_eq rfl) (hb hby at_249) (fun vm₁ hw₁ => ⟨rfl, eh69, (by decide : 18 + 0 ≤ _), (by decide : 43 + 0 ≤ _)⟩)
        dsimp only [Pt.U, Pt.locs, Pt.cells, Pt.slots] at X70 l70 y70 z70 st70 hQ70
        subst l70 y70 z70
        obtain ⟨rfl, M70, eh70⟩ := hQ70
        have N70 := Fr.app N69 M70
        refine Go.tr st70 ?_
        show Go p e below _ (T70.setTop (mkF m 252 #[.val (.int i0), .val (.int i1), .val (.int i2), .val (.int i3), .val (.int i4), .val (.ref bs_1), .val (.ref bs_2), .val (.ref bs_3), .val (.int (i0 &&& (3 : Int32))), .val (.ref b4), .val (.ref w1a), .val (.ref b2_20), .val (.int (1 : Int32)), .unset] [(.ref b2_20)]))
        refine Go.st (fun t k => XS.astore X70.here hx rfl (hb hby at_252) rfl rfl (l' := #[.val (.int i0), .val (.int i1), .val (.int i2), .val (.int i3), .val (.int i4), .val (.ref bs_1), .val (.ref bs_2), .val (.ref bs_3), .val (.int (i0 &&& (3 : Int32))), .val (.ref b4), .val (.ref w1a), .val (.ref b2_20), .val (.int (1 : Int32)), .val (.ref b2_20)]) rfl k) ?_
        show Go p e below _ (T70.setTop (mkF m 254 #[.val (.int i0), .val (.int i1), .val (.int i2), .val (.int i3), .val (.int i4), .val (.ref bs_1), .val (.ref bs_2), .val (.ref bs_3), .val (.int (i0 &&& (3 : Int32))), .val (.ref b4), .val (.ref w1a), .val (.ref b2_20), .val (.int (1 : Int32)), .val (.ref b2_20)] []))
        refine Go.st (fun t k => XS.aload X70.here hx rfl (hb hby at_254) rfl rfl k) ?_
        show Go p e below _ (T70.setTop (mkF m 256 #[.val (.int i0), .val (.int i1), .val (.int i2), .val (.int i3), .val (.int i4), .val (.ref bs_1), .val (.ref bs_2), .val (.ref bs_3), .val (.int (i0 &&& (3 : Int32))), .val (.ref b4), .val (.ref w1a), .val (.ref b2_20), .val (.int (1 : Int32)), .val (.ref b2_20)] [(.ref b2_20)]))
        refine Go.st (fun t k => XS.ifnullNo X70.here hx rfl (hb hby at_256) rfl k) ?_
        show Go p e below _ (T70.setTop (mkF m 259 #[.val (.int i0), .val (.int i1), .val (.int i2), .val (.int i3), .val (.int i4), .val (.ref bs_1), .val (.ref bs_2), .val (.ref bs_3), .val (.int (i0 &&& (3 : Int32))), .val (.ref b4), .val (.ref w1a), .val (.ref b2_20), .val (.int (1 : Int32)), .val (.ref b2_20)] []))
        refine Go.st (fun t k => XS.aload X70.here hx rfl (hb hby at_259) rfl rfl k) ?_
        show Go p e below _ (T70.setTop (mkF m 261 #[.val (.int i0), .val (.int i1), .val (.int i2), .val (.int i3), .val (.int i4), .val (.ref bs_1), .val (.ref bs_2), .val (.ref bs_3), .val (.int (i0 &&& (3 : Int32))), .val (.ref b4), .val (.ref w1a), .val (.ref b2_20), .val (.int (1 : Int32)), .val (.ref b2_20)] [(.ref b2_20)]))
        obtain ⟨cq71, kq71, q71a, q71b, q71c⟩ := isOf hZ eh70 ((r20_9.keep K36c).keep K56c)
        obtain ⟨_, _, ⟨T71, L71, k71, n71⟩, -, X71, ⟨Lc71, hQ71, l71, y71, z71⟩, st71⟩ := X70.interfaceBack hx (xi := (⟨"java/util/List", "size", "()I"⟩ : MethodName)) (y := (⟨"java/util/ArrayList", "size", "()I"⟩ : MethodName)) hown (mvT hZ (w57 hw)) (mvT hZ (w58 hw)) (mvT hZ (w59 hw)) (mvT hZ (w133 hw)) (mvT hZ (w134 hw)) (mvT hZ (w135 hw)) (mvT hZ (w136 hw)) (mvT hZ (w105 hw)) (by decide) (backOf (W := 0) (rm18_3 l Z a0 hw [] b2_20 T56.heap n0 O56 r56_3) hZ (w137 hw) (w76 hw) (by decide) (by decide)) q71a q71b q71c (g := (mkF m 261 #[.val (.int i0), .val (.int i1), .val (.int i2), .val (.int i3), .val (.int i4), .val (.ref bs_1), .val (.ref bs_2), .val (.ref bs_3), .val (.int (i0 &&& (3 : Int32))), .val (.ref b4), .val (.ref w1a), .val (.ref b2_20), .val (.int (1 : Int32)), .val (.ref b2_20)] [(.ref b2_20)])) rfl (by rw [hml]; rfl) (Steps.refl _) (argsL := []) (rest := []) (lenOf pd_12 rfl) rfl (by show 2 * 0 + _ ≤ _; exact Nat.le_of_eq rfl) (hb hby at_261) (fun vm₁ hw₁ => ⟨rfl, eh70, (by decide : 18 + 0 ≤ _), (by decide : 43 + 0 ≤ _)⟩)
        dsimp only [Pt.U, Pt.locs, Pt.cells, Pt.slots] at X71 l71 y71 z71 st71 hQ71
        subst l71 y71 z71
        obtain ⟨rfl, M71, eh71⟩ := hQ71
        have N71 := Fr.app N70 M71
        refine Go.tr st71 ?_
        show Go p e below _ (T71.setTop (mkF m 266 #[.val (.int i0), .val (.int i1), .val (.int i2), .val (.int i3), .val (.int i4), .val (.ref bs_1), .val (.ref bs_2), .val (.ref bs_3), .val (.int (i0 &&& (3 : Int32))), .val (.ref b4), .val (.ref w1a), .val (.ref b2_20), .val (.int (1 : Int32)), .val (.ref b2_20)] [(.int (3 : Int32))]))
        refine Go.st (fun t k => XS.iload X71.here hx rfl (hb hby at_266) rfl k) ?_
        show Go p e below _ (T71.setTop (mkF m 268 #[.val (.int i0), .val (.int i1), .val (.int i2), .val (.int i3), .val (.int i4), .val (.ref bs_1), .val (.ref bs_2), .val (.ref bs_3), .val (.int (i0 &&& (3 : Int32))), .val (.ref b4), .val (.ref w1a), .val (.ref b2_20), .val (.int (1 : Int32)), .val (.ref b2_20)] [(.int (i0 &&& (3 : Int32))), (.int (3 : Int32))]))
        refine Go.st (fun t k => XS.icmpYes X71.here hx rfl (pc0 := 268) (pc' := 273) rfl (hb hby at_268) rfl (Jvm.Free.XT.ii_eq_t hp60) (by decide) (by decide) k) ?_
        show Go p e below _ (T71.setTop (mkF m 273 #[.val (.int i0), .val (.int i1), .val (.int i2), .val (.int i3), .val (.int i4), .val (.ref bs_1), .val (.ref bs_2), .val (.ref bs_3), .val (.int (i0 &&& (3 : Int32))), .val (.ref b4), .val (.ref w1a), .val (.ref b2_20), .val (.int (1 : Int32)), .val (.ref b2_20)] []))
        refine Go.st (fun t k => XS.iload X71.here hx rfl (hb hby at_273) rfl k) ?_
        show Go p e below _ (T71.setTop (mkF m 275 #[.val (.int i0), .val (.int i1), .val (.int i2), .val (.int i3), .val (.int i4), .val (.ref bs_1), .val (.ref bs_2), .val (.ref bs_3), .val (.int (i0 &&& (3 : Int32))), .val (.ref b4), .val (.ref w1a), .val (.ref b2_20), .val (.int (1 : Int32)), .val (.ref b2_20)] [(.int (i0 &&& (3 : Int32)))]))
        refine Go.st (fun t k => XS.iconst X71.here hx rfl (hb hby at_275) k) ?_
        show Go p e below _ (T71.setTop (mkF m 276 #[.val (.int i0), .val (.int i1), .val (.int i2), .val (.int i3), .val (.int i4), .val (.ref bs_1), .val (.ref bs_2), .val (.ref bs_3), .val (.int (i0 &&& (3 : Int32))), .val (.ref b4), .val (.ref w1a), .val (.ref b2_20), .val (.int (1 : Int32)), .val (.ref b2_20)] [(.int (1 : Int32)), (.int (i0 &&& (3 : Int32)))]))
        refine Go.st (fun t k => XS.icmpNo X71.here hx rfl (hb hby at_276) rfl (Jvm.Free.XT.ii_lt_f hc11) k) ?_
        show Go p e below _ (T71.setTop (mkF m 279 #[.val (.int i0), .val (.int i1), .val (.int i2), .val (.int i3), .val (.int i4), .val (.ref bs_1), .val (.ref bs_2), .val (.ref bs_3), .val (.int (i0 &&& (3 : Int32))), .val (.ref b4), .val (.ref w1a), .val (.ref b2_20), .val (.int (1 : Int32)), .val (.ref b2_20)] []))
        refine Go.st (fun t k => XS.iload X71.here hx rfl (hb hby at_279) rfl k) ?_
        show Go p e below _ (T71.setTop (mkF m 281 #[.val (.int i0), .val (.int i1), .val (.int i2), .val (.int i3), .val (.int i4), .val (.ref bs_1), .val (.ref bs_2), .val (.ref bs_3), .val (.int (i0 &&& (3 : Int32))), .val (.ref b4), .val (.ref w1a), .val (.ref b2_20), .val (.int (1 : Int32)), .val (.ref b2_20)] [(.int (1 : Int32))]))
        refine Go.st (fun t k => XS.ifNo X71.here hx rfl (hb hby at_281) rfl (Jvm.Free.XT.i0_eq_f (by decide : ¬ ((1 : Int32) = (0 : Int32)))) k) ?_
        show Go p e below _ (T71.setTop (mkF m 284 #[.val (.int i0), .val (.int i1), .val (.int i2), .val (.int i3), .val (.int i4), .val (.ref bs_1), .val (.ref bs_2), .val (.ref bs_3), .val (.int (i0 &&& (3 : Int32))), .val (.ref b4), .val (.ref w1a), .val (.ref b2_20), .val (.int (1 : Int32)), .val (.ref b2_20)] []))
        refine Go.st (fun t k => XS.aload X71.here hx rfl (hb hby at_284) rfl rfl k) ?_
        show Go p e below _ (T71.setTop (mkF m 286 #[.val (.int i0), .val (.int i1), .val (.int i2), .val (.int i3), .val (.int i4), .val (.ref bs_1), .val (.ref bs_2), .val (.ref bs_3), .val (.int (i0 &&& (3 : Int32))), .val (.ref b4), .val (.ref w1a), .val (.ref b2_20), .val (.int (1 : Int32)), .val (.ref b2_20)] [(.ref b2_20)]))
        refine Go.st (fun t k => XS.iconst X71.here hx rfl (hb hby at_286) k) ?_
        show Go p e below _ (T71.setTop (mkF m 287 #[.val (.int i0), .val (.int i1), .val (.int i2), .val (.int i3), .val (.int i4), .val (.ref bs_1), .val (.ref bs_2), .val (.ref bs_3), .val (.int (i0 &&& (3 : Int32))), .val (.ref b4), .val (.ref w1a), .val (.ref b2_20), .val (.int (1 : Int32)), .val (.ref b2_20)] [(.int (0 : Int32)), (.ref b2_20)]))
        obtain ⟨cq72, kq72, q72a, q72b, q72c⟩ := isOf hZ eh71 ((r20_9.keep K36c).keep K56c)
        obtain ⟨_, _, ⟨T72, L72, k72, n72⟩, -, X72, ⟨Lc72, hQ72, l72, y72, z72⟩, st72⟩ := X71.interfaceBack hx (xi := (⟨"java/util/List", "get", "(I)Ljava/lang/Object;"⟩ : MethodName)) (y := (⟨"java/util/ArrayList", "get", "(I)Ljava/lang/Object;"⟩ : MethodName)) hown (mvT hZ (w138 hw)) (mvT hZ (w139 hw)) (mvT hZ (w140 hw)) (mvT hZ (w141 hw)) (mvT hZ (w142 hw)) (mvT hZ (w143 hw)) (mvT hZ (w144 hw)) (mvT hZ (w105 hw)) (by decide) (backOf (W := 0) (rm19_4 l Z a0 hw [] b2_20 b6_2_2_7_10_20 k6_2_2_7_10_20 bs_1 bs_2 bs_3 T56.heap n0 O56 r56_3 ((r20_9.keep K36c).keep K56c) r56_2 r56_0) hZ (w145 hw) (w76 hw) (by decide) (by decide)) q72a q72b q72c (g := (mkF m 287 #[.val (.int i0), .val (.int i1), .val (.int i2), .val (.int i3), .val (.int i4), .val (.ref bs_1), .val (.ref bs_2), .val (.ref bs_3), .val (.int (i0 &&& (3 : Int32))), .val (.ref b4), .val (.ref w1a), .val (.ref b2_20), .val (.int (1 : Int32)), .val (.ref b2_20)] [(.int (0 : Int32)), (.ref b2_20)])) rfl (by rw [hml]; rfl) (Steps.refl _) (argsL := [(.int (0 : Int32))]) (rest := []) (lenOf pd_21 rfl) rfl (by show 2 * 0 + _ ≤ _; exact Nat.le_of_eq rfl) (hb hby at_287) (fun vm₁ hw₁ => ⟨rfl, eh71, (by decide : 18 + 0 ≤ _), (by decide : 43 + 0 ≤ _)⟩)
        dsimp only [Pt.U, Pt.locs, Pt.cells, Pt.slots] at X72 l72 y72 z72 st72 hQ72
        subst l72 y72 z72
        obtain ⟨rfl, M72, eh72⟩ := hQ72
        have N72 := Fr.app N71 M72
        refine Go.tr st72 ?_
        show Go p e below _ (T72.setTop (mkF m 292 #[.val (.int i0), .val (.int i1), .val (.int i2), .val (.int i3), .val (.int i4), .val (.ref bs_1), .val (.ref bs_2), .val (.ref bs_3), .val (.int (i0 &&& (3 : Int32))), .val (.ref b4), .val (.ref w1a), .val (.ref b2_20), .val (.int (1 : Int32)), .val (.ref b2_20)] [(.ref bs_1)]))
        obtain ⟨T73, X73, e73, st73⟩ := castY X72 hx hZ hown (w4 hw) eh72 (Ins.self (((c19.keep K20c).keep K36c).keep K56c)) (g := (mkF m 292 #[.val (.int i0), .val (.int i1), .val (.int i2), .val (.int i3), .val (.int i4), .val (.ref bs_1), .val (.ref bs_2), .val (.ref bs_3), .val (.int (i0 &&& (3 : Int32))), .val (.ref b4), .val (.ref w1a), .val (.ref b2_20), .val (.int (1 : Int32)), .val (.ref b2_20)] [(.ref bs_1)])) rfl rfl (hb hby at_292)
        refine Go.st st73 ?_
        show Go p e below _ (T73.setTop (mkF m 295 #[.val (.int i0), .val (.int i1), .val (.int i2), .val (.int i3), .val (.int i4), .val (.ref bs_1), .val (.ref bs_2), .val (.ref bs_3), .val (.int (i0 &&& (3 : Int32))), .val (.ref b4), .val (.ref w1a), .val (.ref b2_20), .val (.int (1 : Int32)), .val (.ref b2_20)] [(.ref bs_1)]))
        refine Go.st (fun t k => XS.aload X73.here hx rfl (hb hby at_295) rfl rfl k) ?_
        show Go p e below _ (T73.setTop (mkF m 297 #[.val (.int i0), .val (.int i1), .val (.int i2), .val (.int i3), .val (.int i4), .val (.ref bs_1), .val (.ref bs_2), .val (.ref bs_3), .val (.int (i0 &&& (3 : Int32))), .val (.ref b4), .val (.ref w1a), .val (.ref b2_20), .val (.int (1 : Int32)), .val (.ref b2_20)] [(.ref bs_1), (.ref bs_1)]))
        obtain ⟨cq74, kq74, q74a, q74b, q74c⟩ := isOf hZ e73 (((c19.keep K20c).keep K36c).keep K56c)
        obtain ⟨_, _, ⟨T74, L74, k74, n74⟩, -, X74, ⟨Lc74, hQ74, l74, y74, z74⟩, st74⟩ := X73.virtualBack hx (y := (⟨"java/lang/String", "equals", "(Ljava/lang/Object;)Z"⟩ : MethodName)) (z := (⟨"java/lang/String", "equals", "(Ljava/lang/Object;)Z"⟩ : MethodName)) hown (mvT hZ (w159 hw)) (mvT hZ (w160 hw)) (notFace_of_selects (args := #[]) (mvT hZ (w162 hw))) (mvT hZ (w162 hw)) (mvT hZ (w161 hw)) (by decide) (backOf (W := 0) (rm23_1 l Z a0 hw [] bs_1 T56.heap n0 O56 ) hZ (w163 hw) (w6 hw) (by decide) (by decide)) q74a q74c (g := (mkF m 297 #[.val (.int i0), .val (.int i1), .val (.int i2), .val (.int i3), .val (.int i4), .val (.ref bs_1), .val (.ref bs_2), .val (.ref bs_3), .val (.int (i0 &&& (3 : Int32))), .val (.ref b4), .val (.ref w1a), .val (.ref b2_20), .val (.int (1 : Int32)), .val (.ref b2_20)] [(.ref bs_1), (.ref bs_1)])) rfl (by rw [hml]; rfl) (Steps.refl _) (argsL := [(.ref bs_1)]) (rest := []) (lenOf pd_18 rfl) rfl (by show 2 * 0 + _ ≤ _; exact Nat.le_of_eq rfl) (hb hby at_297) (fun vm₁ hw₁ => ⟨rfl, e73, (by decide : 18 + 0 ≤ _), (by decide : 43 + 0 ≤ _)⟩)
        dsimp only [Pt.U, Pt.locs, Pt.cells, Pt.slots] at X74 l74 y74 z74 st74 hQ74
        subst l74 y74 z74
        obtain ⟨rfl, M74, eh74⟩ := hQ74
        have N74 := Fr.app N72 M74
        refine Go.tr st74 ?_
        show Go p e below _ (T74.setTop (mkF m 300 #[.val (.int i0), .val (.int i1), .val (.int i2), .val (.int i3), .val (.int i4), .val (.ref bs_1), .val (.ref bs_2), .val (.ref bs_3), .val (.int (i0 &&& (3 : Int32))), .val (.ref b4), .val (.ref w1a), .val (.ref b2_20), .val (.int (1 : Int32)), .val (.ref b2_20)] [(.int (1 : Int32))]))
        refine Go.st (fun t k => XS.ifNo X74.here hx rfl (hb hby at_300) rfl (Jvm.Free.XT.i0_eq_f (by decide : ¬ ((1 : Int32) = (0 : Int32)))) k) ?_
        show Go p e below _ (T74.setTop (mkF m 303 #[.val (.int i0), .val (.int i1), .val (.int i2), .val (.int i3), .val (.int i4), .val (.ref bs_1), .val (.ref bs_2), .val (.ref bs_3), .val (.int (i0 &&& (3 : Int32))), .val (.ref b4), .val (.ref w1a), .val (.ref b2_20), .val (.int (1 : Int32)), .val (.ref b2_20)] []))
        refine Go.st (fun t k => XS.iconst X74.here hx rfl (hb hby at_303) k) ?_
        show Go p e below _ (T74.setTop (mkF m 304 #[.val (.int i0), .val (.int i1), .val (.int i2), .val (.int i3), .val (.int i4), .val (.ref bs_1), .val (.ref bs_2), .val (.ref bs_3), .val (.int (i0 &&& (3 : Int32))), .val (.ref b4), .val (.ref w1a), .val (.ref b2_20), .val (.int (1 : Int32)), .val (.ref b2_20)] [(.int (1 : Int32))]))
        refine Go.st (fun t k => XS.goto X74.here hx rfl (pc0 := 304) (pc' := 308) rfl (hb hby at_304) (by decide) (by decide) k) ?_
        show Go p e below _ (T74.setTop (mkF m 308 #[.val (.int i0), .val (.int i1), .val (.int i2), .val (.int i3), .val (.int i4), .val (.ref bs_1), .val (.ref bs_2), .val (.ref bs_3), .val (.int (i0 &&& (3 : Int32))), .val (.ref b4), .val (.ref w1a), .val (.ref b2_20), .val (.int (1 : Int32)), .val (.ref b2_20)] [(.int (1 : Int32))]))
        refine Go.st (fun t k => XS.istore X74.here hx rfl (hb hby at_308) rfl (l' := #[.val (.int i0), .val (.int i1), .val (.int i2), .val (.int i3), .val (.int i4), .val (.ref bs_1), .val (.ref bs_2), .val (.ref bs_3), .val (.int (i0 &&& (3 : Int32))), .val (.ref b4), .val (.ref w1a), .val (.ref b2_20), .val (.int (1 : Int32)), .val (.ref b2_20)]) rfl k) ?_
        show Go p e below _ (T74.setTop (mkF m 310 #[.val (.int i0), .val (.int i1), .val (.int i2), .val (.int i3), .val (.int i4), .val (.ref bs_1), .val (.ref bs_2), .val (.ref bs_3), .val (.int (i0 &&& (3 : Int32))), .val (.ref b4), .val (.ref w1a), .val (.ref b2_20), .val (.int (1 : Int32)), .val (.ref b2_20)] []))
        refine Go.st (fun t k => XS.iload X74.here hx rfl (hb hby at_310) rfl k) ?_
        show Go p e below _ (T74.setTop (mkF m 312 #[.val (.int i0), .val (.int i1), .val (.int i2), .val (.int i3), .val (.int i4), .val (.ref bs_1), .val (.ref bs_2), .val (.ref bs_3), .val (.int (i0 &&& (3 : Int32))), .val (.ref b4), .val (.ref w1a), .val (.ref b2_20), .val (.int (1 : Int32)), .val (.ref b2_20)] [(.int (i0 &&& (3 : Int32)))]))
        refine Go.st (fun t k => XS.iconst X74.here hx rfl (hb hby at_312) k) ?_
        show Go p e below _ (T74.setTop (mkF m 313 #[.val (.int i0), .val (.int i1), .val (.int i2), .val (.int i3), .val (.int i4), .val (.ref bs_1), .val (.ref bs_2), .val (.ref bs_3), .val (.int (i0 &&& (3 : Int32))), .val (.ref b4), .val (.ref w1a), .val (.ref b2_20), .val (.int (1 : Int32)), .val (.ref b2_20)] [(.int (3 : Int32)), (.int (i0 &&& (3 : Int32)))]))
        refine Go.st (fun t k => XS.icmpNo X74.here hx rfl (hb hby at_313) rfl (Jvm.Free.XT.ii_lt_f hc38) k) ?_
        show Go p e below _ (T74.setTop (mkF m 316 #[.val (.int i0), .val (.int i1), .val (.int i2), .val (.int i3), .val (.int i4), .val (.ref bs_1), .val (.ref bs_2), .val (.ref bs_3), .val (.int (i0 &&& (3 : Int32))), .val (.ref b4), .val (.ref w1a), .val (.ref b2_20), .val (.int (1 : Int32)), .val (.ref b2_20)] []))
        refine Go.st (fun t k => XS.iload X74.here hx rfl (hb hby at_316) rfl k) ?_
        show Go p e below _ (T74.setTop (mkF m 318 #[.val (.int i0), .val (.int i1), .val (.int i2), .val (.int i3), .val (.int i4), .val (.ref bs_1), .val (.ref bs_2), .val (.ref bs_3), .val (.int (i0 &&& (3 : Int32))), .val (.ref b4), .val (.ref w1a), .val (.ref b2_20), .val (.int (1 : Int32)), .val (.ref b2_20)] [(.int (1 : Int32))]))
        refine Go.st (fun t k => XS.ifNo X74.here hx rfl (hb hby at_318) rfl (Jvm.Free.XT.i0_eq_f (by decide : ¬ ((1 : Int32) = (0 : Int32)))) k) ?_
        show Go p e below _ (T74.setTop (mkF m 321 #[.val (.int i0), .val (.int i1), .val (.int i2), .val (.int i3), .val (.int i4), .val (.ref bs_1), .val (.ref bs_2), .val (.ref bs_3), .val (.int (i0 &&& (3 : Int32))), .val (.ref b4), .val (.ref w1a), .val (.ref b2_20), .val (.int (1 : Int32)), .val (.ref b2_20)] []))
        refine Go.st (fun t k => XS.aload X74.here hx rfl (hb hby at_321) rfl rfl k) ?_
        show Go p e below _ (T74.setTop (mkF m 323 #[.val (.int i0), .val (.int i1), .val (.int i2), .val (.int i3), .val (.int i4), .val (.ref bs_1), .val (.ref bs_2), .val (.ref bs_3), .val (.int (i0 &&& (3 : Int32))), .val (.ref b4), .val (.ref w1a), .val (.ref b2_20), .val (.int (1 : Int32)), .val (.ref b2_20)] [(.ref b2_20)]))
        refine Go.st (fun t k => XS.iconst X74.here hx rfl (hb hby at_323) k) ?_
        show Go p e below _ (T74.setTop (mkF m 324 #[.val (.int i0), .val (.int i1), .val (.int i2), .val (.int i3), .val (.int i4), .val (.ref bs_1), .val (.ref bs_2), .val (.ref bs_3), .val (.int (i0 &&& (3 : Int32))), .val (.ref b4), .val (.ref w1a), .val (.ref b2_20), .val (.int (1 : Int32)), .val (.ref b2_20)] [(.int (2 : Int32)), (.ref b2_20)]))
        obtain ⟨cq75, kq75, q75a, q75b, q75c⟩ := isOf hZ eh74 ((r20_9.keep K36c).keep K56c)
        obtain ⟨_, _, ⟨T75, L75, k75, n75⟩, -, X75, ⟨Lc75, hQ75, l75, y75, z75⟩, st75⟩ := X74.interfaceBack hx (xi := (⟨"java/util/List", "get", "(I)Ljava/lang/Object;"⟩ : MethodName)) (y := (⟨"java/util/ArrayList", "get", "(I)Ljava/lang/Object;"⟩ : MethodName)) hown (mvT hZ (w138 hw)) (mvT hZ (w139 hw)) (mvT hZ (w140 hw)) (mvT hZ (w141 hw)) (mvT hZ (w142 hw)) (mvT hZ (w143 hw)) (mvT hZ (w144 hw)) (mvT hZ (w105 hw)) (by decide) (backOf (W := 0) (rm19_6 l Z a0 hw [] b2_20 b6_2_2_7_10_20 k6_2_2_7_10_20 bs_1 bs_2 bs_3 T56.heap n0 O56 r56_3 ((r20_9.keep K36c).keep K56c) r56_2 r56_0) hZ (w145 hw) (w76 hw) (by decide) (by decide)) q75a q75b q75c (g := (mkF m 324 #[.val (.int i0), .val (.int i1), .val (.int i2), .val (.int i3), .val (.int i4), .val (.ref bs_1), .val (.ref bs_2), .val (.ref bs_3), .val (.int (i0 &&& (3 : Int32))), .val (.ref b4), .val (.ref w1a), .val (.ref b2_20), .val (.int (1 : Int32)), .val (.ref b2_20)] [(.int (2 : Int32)), (.ref b2_20)])) rfl (by rw [hml]; rfl) (Steps.refl _) (argsL := [(.int (2 : Int32))]) (rest := []) (lenOf pd_21 rfl) rfl (by show 2 * 0 + _ ≤ _; exact Nat.le_of_eq rfl) (hb hby at_324) (fun vm₁ hw₁ => ⟨rfl, eh74, (by decide : 18 + 0 ≤ _), (by decide : 43 + 0 ≤ _)⟩)
        dsimp only [Pt.U, Pt.locs, Pt.cells, Pt.slots] at X75 l75 y75 z75 st75 hQ75
        subst l75 y75 z75
        obtain ⟨rfl, M75, eh75⟩ := hQ75
        have N75 := Fr.app N74 M75
        refine Go.tr st75 ?_
        show Go p e below _ (T75.setTop (mkF m 329 #[.val (.int i0), .val (.int i1), .val (.int i2), .val (.int i3), .val (.int i4), .val (.ref bs_1), .val (.ref bs_2), .val (.ref bs_3), .val (.int (i0 &&& (3 : Int32))), .val (.ref b4), .val (.ref w1a), .val (.ref b2_20), .val (.int (1 : Int32)), .val (.ref b2_20)] [(.ref bs_3)]))
        obtain ⟨T76, X76, e76, st76⟩ := castY X75 hx hZ hown (w4 hw) eh75 (Ins.self (c55.keep K56c)) (g := (mkF m 329 #[.val (.int i0), .val (.int i1), .val (.int i2), .val (.int i3), .val (.int i4), .val (.ref bs_1), .val (.ref bs_2), .val (.ref bs_3), .val (.int (i0 &&& (3 : Int32))), .val (.ref b4), .val (.ref w1a), .val (.ref b2_20), .val (.int (1 : Int32)), .val (.ref b2_20)] [(.ref bs_3)])) rfl rfl (hb hby at_329)
        refine Go.st st76 ?_
        show Go p e below _ (T76.setTop (mkF m 332 #[.val (.int i0), .val (.int i1), .val (.int i2), .val (.int i3), .val (.int i4), .val (.ref bs_1), .val (.ref bs_2), .val (.ref bs_3), .val (.int (i0 &&& (3 : Int32))), .val (.ref b4), .val (.ref w1a), .val (.ref b2_20), .val (.int (1 : Int32)), .val (.ref b2_20)] [(.ref bs_3)]))
        refine Go.st (fun t k => XS.aload X76.here hx rfl (hb hby at_332) rfl rfl k) ?_
        show Go p e below _ (T76.setTop (mkF m 334 #[.val (.int i0), .val (.int i1), .val (.int i2), .val (.int i3), .val (.int i4), .val (.ref bs_1), .val (.ref bs_2), .val (.ref bs_3), .val (.int (i0 &&& (3 : Int32))), .val (.ref b4), .val (.ref w1a), .val (.ref b2_20), .val (.int (1 : Int32)), .val (.ref b2_20)] [(.ref bs_3), (.ref bs_3)]))
        obtain ⟨cq77, kq77, q77a, q77b, q77c⟩ := isOf hZ e76 (c55.keep K56c)
        obtain ⟨_, _, ⟨T77, L77, k77, n77⟩, -, X77, ⟨Lc77, hQ77, l77, y77, z77⟩, st77⟩ := X76.virtualBack hx (y := (⟨"java/lang/String", "equals", "(Ljava/lang/Object;)Z"⟩ : MethodName)) (z := (⟨"java/lang/String", "equals", "(Ljava/lang/Object;)Z"⟩ : MethodName)) hown (mvT hZ (w159 hw)) (mvT hZ (w160 hw)) (notFace_of_selects (args := #[]) (mvT hZ (w162 hw))) (mvT hZ (w162 hw)) (mvT hZ (w161 hw)) (by decide) (backOf (W := 0) (rm23_1 l Z a0 hw [] bs_3 T56.heap n0 O56 ) hZ (w163 hw) (w6 hw) (by decide) (by decide)) q77a q77c (g := (mkF m 334 #[.val (.int i0), .val (.int i1), .val (.int i2), .val (.int i3), .val (.int i4), .val (.ref bs_1), .val (.ref bs_2), .val (.ref bs_3), .val (.int (i0 &&& (3 : Int32))), .val (.ref b4), .val (.ref w1a), .val (.ref b2_20), .val (.int (1 : Int32)), .val (.ref b2_20)] [(.ref bs_3), (.ref bs_3)])) rfl (by rw [hml]; rfl) (Steps.refl _) (argsL := [(.ref bs_3)]) (rest := []) (lenOf pd_18 rfl) rfl (by show 2 * 0 + _ ≤ _; exact Nat.le_of_eq rfl) (hb hby at_334) (fun vm₁ hw₁ => ⟨rfl, e76, (by decide : 18 + 0 ≤ _), (by decide : 43 + 0 ≤ _)⟩)
        dsimp only [Pt.U, Pt.locs, Pt.cells, Pt.slots] at X77 l77 y77 z77 st77 hQ77
        subst l77 y77 z77
        obtain ⟨rfl, M77, eh77⟩ := hQ77
        have N77 := Fr.app N75 M77
        refine Go.tr st77 ?_
        show Go p e below _ (T77.setTop (mkF m 337 #[.val (.int i0), .val (.int i1), .val (.int i2), .val (.int i3), .val (.int i4), .val (.ref bs_1), .val (.ref bs_2), .val (.ref bs_3), .val (.int (i0 &&& (3 : Int32))), .val (.ref b4), .val (.ref w1a), .val (.ref b2_20), .val (.int (1 : Int32)), .val (.ref b2_20)] [(.int (1 : Int32))]))
        refine Go.st (fun t k => XS.ifNo X77.here hx rfl (hb hby at_337) rfl (Jvm.Free.XT.i0_eq_f (by decide : ¬ ((1 : Int32) = (0 : Int32)))) k) ?_
        show Go p e below _ (T77.setTop (mkF m 340 #[.val (.int i0), .val (.int i1), .val (.int i2), .val (.int i3), .val (.int i4), .val (.ref bs_1), .val (.ref bs_2), .val (.ref bs_3), .val (.int (i0 &&& (3 : Int32))), .val (.ref b4), .val (.ref w1a), .val (.ref b2_20), .val (.int (1 : Int32)), .val (.ref b2_20)] []))
        refine Go.st (fun t k => XS.iconst X77.here hx rfl (hb hby at_340) k) ?_
        show Go p e below _ (T77.setTop (mkF m 341 #[.val (.int i0), .val (.int i1), .val (.int i2), .val (.int i3), .val (.int i4), .val (.ref bs_1), .val (.ref bs_2), .val (.ref bs_3), .val (.int (i0 &&& (3 : Int32))), .val (.ref b4), .val (.ref w1a), .val (.ref b2_20), .val (.int (1 : Int32)), .val (.ref b2_20)] [(.int (1 : Int32))]))
        refine Go.st (fun t k => XS.goto X77.here hx rfl (pc0 := 341) (pc' := 345) rfl (hb hby at_341) (by decide) (by decide) k) ?_
        show Go p e below _ (T77.setTop (mkF m 345 #[.val (.int i0), .val (.int i1), .val (.int i2), .val (.int i3), .val (.int i4), .val (.ref bs_1), .val (.ref bs_2), .val (.ref bs_3), .val (.int (i0 &&& (3 : Int32))), .val (.ref b4), .val (.ref w1a), .val (.ref b2_20), .val (.int (1 : Int32)), .val (.ref b2_20)] [(.int (1 : Int32))]))
        refine Go.st (fun t k => XS.istore X77.here hx rfl (hb hby at_345) rfl (l' := #[.val (.int i0), .val (.int i1), .val (.int i2), .val (.int i3), .val (.int i4), .val (.ref bs_1), .val (.ref bs_2), .val (.ref bs_3), .val (.int (i0 &&& (3 : Int32))), .val (.ref b4), .val (.ref w1a), .val (.ref b2_20), .val (.int (1 : Int32)), .val (.ref b2_20)]) rfl k) ?_
        show Go p e below _ (T77.setTop (mkF m 347 #[.val (.int i0), .val (.int i1), .val (.int i2), .val (.int i3), .val (.int i4), .val (.ref bs_1), .val (.ref bs_2), .val (.ref bs_3), .val (.int (i0 &&& (3 : Int32))), .val (.ref b4), .val (.ref w1a), .val (.ref b2_20), .val (.int (1 : Int32)), .val (.ref b2_20)] []))
        refine Go.st (fun t k => XS.iload X77.here hx rfl (hb hby at_347) rfl k) ?_
        show Go p e below _ (T77.setTop (mkF m 349 #[.val (.int i0), .val (.int i1), .val (.int i2), .val (.int i3), .val (.int i4), .val (.ref bs_1), .val (.ref bs_2), .val (.ref bs_3), .val (.int (i0 &&& (3 : Int32))), .val (.ref b4), .val (.ref w1a), .val (.ref b2_20), .val (.int (1 : Int32)), .val (.ref b2_20)] [(.int (1 : Int32))]))
        obtain ⟨fs, hr, hrun, hended, hEnd⟩ := X77.leaveW hS3 (by rw [eh77]; exact (Nat.le_trans (Nat.le_trans (Nat.le_trans (Nat.le_trans (Nat.le_trans (Nat.le_trans (Nat.le_trans (Nat.le_trans (Nat.le_refl _) E4.1) E5.1) E6.1) E7.1) K8c.1) K20c.1) K36c.1) K56c.1)) (v := some (.int (1 : Int32))) (fun h => by rw [Bd.returns] at h; cases h)
        refine ⟨_, _, ?_, hrun, hended, _, _, rfl, ?_, ⟨hEnd.1, hEnd.2.1, hEnd.2.2.1, hEnd.2.2.2.mono (by decide) (by decide)⟩⟩
        · exact retN X77 hx (t := .boolean) Bd.returns (by simp) (hb hby at_349) hr
        · exact ⟨rfl, N77⟩
set_option maxRecDepth 65536 in
set_option maxHeartbeats 40000000 in
theorem comes_1 {Post : Tables → Env → Array Value → State → Outcome → State → Prop} (hpost : ∀ tb e args s v u, (limb_1_1.after args s (.returned v) u = true ∧ limb_1_2.after args s (.returned v) u = true ∧ True) → ReturnedEndW s (.returned v) u (Jvm.fieldLocs frame_1_writes args s ++ Jvm.arrayLocs frame_1_arrays args s ++ Jvm.staticLocs frame_1_statics s) 40 1216 → Post tb e args s (.returned v) u) :
    ArmFor flags0 classFile x code maxLocals ret World_1 tables_1 room_1 Calls_1 rest_1 Pre_1 Post := by
  intro l hfl _ _ p e ha hc hk s m args below hf hA hF happ hP
  obtain ⟨hcalls, hrest, hpre⟩ := hP
  obtain ⟨-, -, -, hnamed, -, -, -, hat⟩ := (Spec.applies_iff hf).mp happ
  obtain ⟨hg, hn⟩ := and_e (Cond.before_iff.mp (show (Jvm.Cond.and given_1 narrow_1).before args s = true from hpre))
  obtain ⟨hcnt, hg⟩ := and_e hg
  obtain ⟨hv0, hg⟩ := and_e hg
  obtain ⟨hv1, hg⟩ := and_e hg
  obtain ⟨hv2, hg⟩ := and_e hg
  obtain ⟨hv3, hg⟩ := and_e hg
  have hv4 := hg
  obtain ⟨w0, w1, w2, w3, w4, rfl⟩ : ∃ w0 w1 w2 w3 w4 : Value, args = #[w0, w1, w2, w3, w4] := by
    have hs : args.size = 5 := by simpa [Cond.value, given_1] using hcnt
    obtain ⟨L⟩ := args
    match L, hs with
    | [w0, w1, w2, w3, w4], _ => exact ⟨w0, w1, w2, w3, w4, rfl⟩
  have hw := fun d (hd : d ∈ tables_1) => atoms_spec (ws := Jvm.Cond.code x code maxLocals ret :: tables_1) hat d (List.mem_cons_of_mem _ hd)
  have hfit : Fit s := fun {y c} hc i hi => by
    obtain ⟨ha, rfl⟩ := Array.getElem?_eq_some_iff.mp hc
    have q := List.all_eq_true.mp ((Array.all_eq_true_iff_forall_mem.mp hF) _ (Array.getElem_mem ha)) i (List.mem_range.mpr hi)
    simpa [Array.getElem?_eq_getElem hi] using q
  obtain ⟨hsets, hown0⟩ := atoms_of _ (rest_1_c_eq ▸ (show rest_1_c.before _ s = true from hrest))
  have hr0 := Cond.before_iff.mp hown0
  obtain ⟨i0, ei0⟩ := is_v hv0
  obtain rfl : w0 = (.int i0) := Option.some.inj ei0
  obtain ⟨i1, ei1⟩ := is_v hv1
  obtain rfl : w1 = (.int i1) := Option.some.inj ei1
  obtain ⟨i2, ei2⟩ := is_v hv2
  obtain rfl : w2 = (.int i2) := Option.some.inj ei2
  obtain ⟨i3, ei3⟩ := is_v hv3
  obtain rfl : w3 = (.int i3) := Option.some.inj ei3
  obtain ⟨i4, ei4⟩ := is_v hv4
  obtain rfl : w4 = (.int i4) := Option.some.inj ei4
  obtain ⟨w1a, ev2⟩ := exa_v (Cond.before_iff.mp (hsets _ (List.mem_of_getElem? (i := 2) rfl)))
  have Y3 : Sta s s.heap "java/util/ImmutableCollections" "EMPTY_LIST" "Ljava/util/ImmutableCollections$ListN;" (.ref w1a) := Sta.start ev2 (Or.inl (hsets _ (List.mem_of_getElem? (i := 1) rfl)))
  have Y4 : Exa s s.heap w1a "java/util/ImmutableCollections$ListN" := Exa.start ev2 (Cond.before_iff.mp (hsets _ (List.mem_of_getElem? (i := 2) rfl)))
  obtain ⟨w5a, ev6⟩ := arr_v (Cond.before_iff.mp (hsets _ (List.mem_of_getElem? (i := 3) rfl)))
  have Y7 : Fld s s.heap w1a "java/util/ImmutableCollections$ListN" "elements" "[Ljava/lang/Object;" (.ref w5a) := Fld.start ((fld_at ev2).symm.trans ev6)
  obtain ⟨cl8, ar8⟩ := Arr.start ev6 (Cond.before_iff.mp (hsets _ (List.mem_of_getElem? (i := 3) rfl)))
  obtain ⟨w15a, ev16⟩ := arr_v (Cond.before_iff.mp (hsets _ (List.mem_of_getElem? (i := 13) rfl)))
  have Y17 : Sta s s.heap "java/util/ArrayList" "DEFAULTCAPACITY_EMPTY_ELEMENTDATA" "[Ljava/lang/Object;" (.ref w15a) := Sta.start ev16 (Or.inr ⟨(w76 hw), (hsets _ (List.mem_of_getElem? (i := 9) rfl))⟩)
  obtain ⟨cl18, ar18⟩ := Arr.start ev16 (Cond.before_iff.mp (hsets _ (List.mem_of_getElem? (i := 13) rfl)))
  obtain ⟨w20i, ev21⟩ := is_v (Cond.before_iff.mp (hsets _ (List.mem_of_getElem? (i := 17) rfl)))
  have Y22 : Sta s s.heap "java/lang/String" "COMPACT_STRINGS" "Z" (.int w20i) := Sta.start ev21 (Or.inl (hsets _ (List.mem_of_getElem? (i := 16) rfl)))
  have Y25 : ¬ (w20i = (0 : Int32)) := own_neI ev21 (Cond.before_iff.mp (hsets _ (List.mem_of_getElem? (i := 18) rfl)))
  obtain ⟨k8c, hk8⟩ : ∃ z, z = cl8.cls := ⟨_, rfl⟩
  have Y30 : Arv s s.heap w5a k8c (.object "java/lang/Object") (0 : Int32) [] .null := hk8 ▸ own_arv hfit ar8 ev6 (Cond.before_iff.mp (hsets _ (List.mem_of_getElem? (i := 5) rfl))) (by decide) rfl trivial
  obtain ⟨k18c, hk18⟩ : ∃ z, z = cl18.cls := ⟨_, rfl⟩
  have Y32 : Arv s s.heap w15a k18c (.object "java/lang/Object") (0 : Int32) [] .null := hk18 ▸ own_arv hfit ar18 ev16 (Cond.before_iff.mp (hsets _ (List.mem_of_getElem? (i := 15) rfl))) (by decide) rfl trivial
  obtain ⟨n, o, h1, h2, h3, _, L, rfl, ⟨rfl, N⟩, hq⟩ := rm0 l s _ hw tables_1 i0 i1 i2 i3 i4 w1a w5a w15a w20i k8c k18c s.heap s.heap.size (Old.start s) Y3 Y4 Y7 Y17 Y22 Y25 Y30 Y32 (hcalls.1 _ (List.mem_of_getElem? (i := 0) rfl)) (hsets _ (List.mem_of_getElem? (i := 18) rfl)) p e ha hc hk s m _ below hf ((Spec.applies_iff_loose hf).mp happ).1 ⟨rfl, State.Warmed39.refl s, rfl, rfl⟩ trivial
  refine ⟨n, _, h1, h2, h3, hpost _ _ _ _ _ _ ⟨Cond.after_iff.mpr rfl, Cond.after_iff.mpr (eq_i res_at (Term.int_eval (1)) rfl), trivial⟩ ⟨hq.1, hq.2.1, hq.2.2.1, (hq.2.2.2.sift fun y hy => Or.inr (N y hy)).mono (by decide) (by decide)⟩⟩
theorem main_1_1 : Claimed_1_1 := comes_1 fun _ _ _ _ _ _ h hF => ⟨h.1, hF⟩
theorem main_1_2 : Claimed_1_2 := comes_1 fun _ _ _ _ _ _ h hF => ⟨h.2.1, hF⟩
end Jvm.Pilot.@@N@@
namespace Jvm.Pilot.@@N@@
open Jvm Jvm.ClassFile Sem Op Lib Jvm.Free Jvm.Stand Jvm.Pilot.@@N@@.Jvm.D
/-! MADE BY PROGRAM (witnessworld.py) out of the Statement's table words and the real class files: 35 classes; the members and pool entries that the words name. The judged class is class 1, her method 2. -/
namespace start1
open Jvm.ClassFile
def u (s : String) : CpInfo := .utf8 (stringToUtf16 s)
/-- a pool by its gaps: so many unusable entries, then the entry; so many at the end -/
def gap : Nat → List CpInfo → List CpInfo
  | 0, r => r
  | n + 1, r => .unusable :: gap n r
def poolList (es : List (Nat × CpInfo)) (last : Nat) : List CpInfo := es.foldr (fun e r => gap e.1 (e.2 :: r)) (gap last [])
def pool (es : List (Nat × CpInfo)) (last : Nat) : Array CpInfo := ⟨poolList es last⟩
def fileOf (pool : Array CpInfo) (this : Nat) (attrs : Array Attribute := #[]) (ms : Array MethodInfo := #[]) (fl : Nat := 33) (sup : Nat := 0) (ifs : Array Nat := #[]) (fds : Array FieldInfo := #[]) : ClassFile where
  minorVersion := 0
  majorVersion := 65
  constantPool := pool
  accessFlags := fl
  thisClass := this
  superClass := sup
  interfaces := ifs
  fields := fds
  methods := ms
  attributes := attrs
def plain (name : String) (sup : Option ClassId) : Class where
  name := name
  kind := .ordinary
  loader := none
  accessFlags := 33
  super := sup
  interfaces := #[]
  cf := none
  fields := #[]
  methods := #[]
  instanceTypes := #[]
  staticTypes := #[]
  resolved := #[]
  callSites := []
  init := .initialized
  statics := none
  mirror := none

def pool0 : Array CpInfo := pool [(5, u "<init>"), (0, u "()V"), (1, .class_ 10), (1, u "java/lang/Object")] 113

def k0c0 : Code := { maxStack := 0, maxLocals := 1, code := object_method_1_code, exceptionTable := #[], attributes := #[] }
def k0m0 : Method := { name := "<init>", desc := "()V", sig := { parameters := [], returnType := none }, accessFlags := 1, code := some k0c0 }
/-- java/lang/Object -/
def k0 : Class := { plain "java/lang/Object" none with
  accessFlags := 33
  interfaces := #[]
  cf := some (fileOf pool0 8 #[] #[{ accessFlags := 1, nameIndex := 5, descriptorIndex := 6, attributes := #[] }] 33 0 #[] #[])
  fields := #[]
  methods := #[k0m0]
  instanceTypes := #[]
  staticTypes := #[]
  resolved := Array.replicate 124 none
  statics := none }

def pool1 : Array CpInfo := pool [(2, .class_ 4), (1, u "java/lang/Object"), (0, u "<init>"), (0, u "()V"), (0, .class_ 8), (0, u "java/lang/String"), (0, .methodref 7 10), (0, .nameAndType 5 11), (0, u "([C)V"), (0, .methodref 7 13), (0, .nameAndType 14 15), (0, u "valueOf"), (0, u "(C)Ljava/lang/String;"), (0, .methodref 17 18), (0, .class_ 19), (0, .nameAndType 20 21), (0, u "com/example/cropmark/cropmark/RowProblemsPinLaw"), (0, u "reason"), (0, u "(I)Ljava/lang/String;"), (0, .class_ 23), (0, u "com/example/cropmark/cropmark/Row"), (0, .methodref 22 25), (0, .nameAndType 5 26), (0, u "(ILjava/util/Map;[B[I[I)V"), (0, .methodref 22 28), (0, .nameAndType 29 30), (0, u "problems"), (0, u "()Ljava/util/List;"), (0, .interfaceMethodref 32 33), (0, .class_ 34), (0, .nameAndType 35 36), (0, u "java/util/List"), (0, u "size"), (0, u "()I"), (0, .methodref 22 38), (0, .nameAndType 39 40), (0, u "problem"), (0, u "(Ljava/lang/String;)V"), (0, .interfaceMethodref 32 42), (0, .nameAndType 43 44), (0, u "get"), (0, u "(I)Ljava/lang/Object;"), (0, .methodref 7 46), (0, .nameAndType 47 48), (0, u "equals"), (0, u "(Ljava/lang/Object;)Z"), (3, u "law"), (0, u "(IIIII)Z")] 2

def k1m0 : Method := { name := "<init>", desc := "()V", sig := { parameters := [], returnType := none }, accessFlags := 2, code := none }
def k1c1 : Code := { maxStack := 6, maxLocals := 4, code := method_2_code, exceptionTable := #[], attributes := #[] }
def k1m1 : Method := { name := "reason", desc := "(I)Ljava/lang/String;", sig := { parameters := [.int], returnType := some (.object "java/lang/String") }, accessFlags := 10, code := some k1c1 }
def k1c2 : Code := { maxStack := 7, maxLocals := 14, code := code, exceptionTable := #[], attributes := #[] }
def k1m2 : Method := { name := "law", desc := "(IIIII)Z", sig := { parameters := [.int, .int, .int, .int, .int], returnType := some .boolean }, accessFlags := 9, code := some k1c2 }
/-- com/example/cropmark/cropmark/RowProblemsPinLaw -/
def k1 : Class := { plain "com/example/cropmark/cropmark/RowProblemsPinLaw" (some 0) with
  accessFlags := 49
  interfaces := #[]
  cf := some (fileOf pool1 17 #[] #[{ accessFlags := 2, nameIndex := 5, descriptorIndex := 6, attributes := #[] }, { accessFlags := 10, nameIndex := 20, descriptorIndex := 21, attributes := #[] }, { accessFlags := 9, nameIndex := 52, descriptorIndex := 53, attributes := #[] }] 49 2 #[] #[])
  fields := #[]
  methods := #[k1m0, k1m1, k1m2]
  instanceTypes := #[]
  staticTypes := #[]
  resolved := Array.replicate 56 none
  statics := none }

def pool2 : Array CpInfo := pool [(1, .class_ 2), (0, u "java/io/Serializable"), (0, .class_ 4), (0, u "java/lang/Object")] 2

/-- java/io/Serializable -/
def k2 : Class := { plain "java/io/Serializable" (some 0) with
  accessFlags := 1537
  interfaces := #[]
  cf := some (fileOf pool2 1 #[] #[] 1537 3 #[] #[])
  fields := #[]
  methods := #[]
  instanceTypes := #[]
  staticTypes := #[]
  resolved := Array.replicate 7 none
  statics := none }

def pool3 : Array CpInfo := pool [(1, .class_ 2), (0, u "java/lang/Comparable"), (0, .class_ 4), (0, u "java/lang/Object")] 7

/-- java/lang/Comparable -/
def k3 : Class := { plain "java/lang/Comparable" (some 0) with
  accessFlags := 1537
  interfaces := #[]
  cf := some (fileOf pool3 1 #[] #[] 1537 3 #[] #[])
  fields := #[]
  methods := #[]
  instanceTypes := #[]
  staticTypes := #[]
  resolved := Array.replicate 12 none
  statics := none }

def pool4 : Array CpInfo := pool [(2, .class_ 4), (1, u "java/lang/CharSequence"), (42, .class_ 48), (0, u "java/lang/CharSequence$1CodePointIterator"), (10, .class_ 60), (0, u "java/lang/CharSequence$1CharIterator"), (5, .class_ 67), (0, u "java/lang/Object")] 63

/-- java/lang/CharSequence -/
def k4 : Class := { plain "java/lang/CharSequence" (some 0) with
  accessFlags := 1537
  interfaces := #[]
  cf := some (fileOf pool4 2 #[.nestMembers #[47, 59]] #[] 1537 66 #[] #[])
  fields := #[]
  methods := #[]
  instanceTypes := #[]
  staticTypes := #[]
  resolved := Array.replicate 131 none
  statics := none }

def pool5 : Array CpInfo := pool [(1, .class_ 2), (0, u "java/lang/constant/Constable"), (0, .class_ 4), (0, u "java/lang/Object")] 6

/-- java/lang/constant/Constable -/
def k5 : Class := { plain "java/lang/constant/Constable" (some 0) with
  accessFlags := 1537
  interfaces := #[]
  cf := some (fileOf pool5 1 #[] #[] 1537 3 #[] #[])
  fields := #[]
  methods := #[]
  instanceTypes := #[]
  staticTypes := #[]
  resolved := Array.replicate 11 none
  statics := none }

def pool6 : Array CpInfo := pool [(1, .class_ 2), (0, u "java/lang/constant/ConstantDesc"), (0, .class_ 4), (0, u "java/lang/Object")] 32

/-- java/lang/constant/ConstantDesc -/
def k6 : Class := { plain "java/lang/constant/ConstantDesc" (some 0) with
  accessFlags := 1537
  interfaces := #[]
  cf := some (fileOf pool6 1 #[] #[] 1537 3 #[] #[])
  fields := #[]
  methods := #[]
  instanceTypes := #[]
  staticTypes := #[]
  resolved := Array.replicate 37 none
  statics := none }

def pool7 : Array CpInfo := pool [(1, .methodref 2 3), (0, .class_ 4), (0, .nameAndType 5 6), (0, u "java/lang/Object"), (0, u "<init>"), (0, u "()V"), (0, .string 8), (0, u ""), (0, .fieldref 10 11), (0, .class_ 12), (0, .nameAndType 13 14), (0, u "java/lang/String"), (0, u "value"), (0, u "[B"), (0, .fieldref 10 16), (0, .nameAndType 17 18), (0, u "coder"), (0, u "B"), (2, u "hash"), (0, u "I"), (2, u "hashIsZero"), (0, u "Z"), (0, .methodref 10 28), (0, .nameAndType 5 29), (0, u "([CIILjava/lang/Void;)V"), (8, .fieldref 10 39), (0, .nameAndType 40 26), (0, u "COMPACT_STRINGS"), (1, .class_ 44), (1, u "java/lang/StringUTF16"), (0, u "compress"), (1, .methodref 42 48), (0, .nameAndType 49 50), (0, u "coderFromArrayLen"), (0, u "([BI)B"), (2, u "toBytes"), (53, .class_ 109), (1, u "java/lang/StringLatin1"), (67, .methodref 42 178), (0, .nameAndType 45 179), (0, u "([CII)[B"), (29, .methodref 10 210), (0, .nameAndType 5 211), (0, u "([BB)V"), (157, u "(C)Z"), (173, u "equals"), (29, u "(Ljava/lang/Object;)Z"), (1, .class_ 576), (0, u "java/lang/CharSequence"), (22, u "CASE_INSENSITIVE_ORDER"), (0, u "Ljava/util/Comparator;"), (181, u "valueOf"), (0, u "(C)Ljava/lang/String;"), (226, u "([C)V"), (4, .methodref 107 1016), (0, .nameAndType 1017 369), (0, u "canEncode"), (0, .methodref 107 1019), (0, .nameAndType 53 1020), (0, u "(C)[B"), (80, u "serialPersistentFields"), (0, u "[Ljava/io/ObjectStreamField;"), (0, .class_ 1104), (0, u "java/lang/String$CaseInsensitiveComparator"), (1, .class_ 1107), (0, u "java/io/Serializable"), (0, .class_ 1109), (0, u "java/lang/Comparable"), (0, .class_ 1111), (0, u "java/lang/constant/Constable"), (0, .class_ 1113), (0, u "java/lang/constant/ConstantDesc"), (2, u "serialVersionUID"), (0, u "J"), (3, u "REPL"), (0, u "C"), (2, u "LATIN1"), (1, u "UTF16")] 323

def k7m0 : Method := { name := "<init>", desc := "()V", sig := { parameters := [], returnType := none }, accessFlags := 1, code := none }
def k7c1 : Code := { maxStack := 5, maxLocals := 2, code := jdk_42_method_3_code, exceptionTable := #[], attributes := #[] }
def k7m1 : Method := { name := "<init>", desc := "([C)V", sig := { parameters := [(.array .char)], returnType := none }, accessFlags := 1, code := some k7c1 }
def k7c2 : Code := { maxStack := 2, maxLocals := 3, code := jdk_42_method_66_code, exceptionTable := #[], attributes := #[] }
def k7m2 : Method := { name := "equals", desc := "(Ljava/lang/Object;)Z", sig := { parameters := [(.object "java/lang/Object")], returnType := some .boolean }, accessFlags := 1, code := some k7c2 }
def k7c3 : Code := { maxStack := 4, maxLocals := 1, code := jdk_42_method_139_code, exceptionTable := #[], attributes := #[] }
def k7m3 : Method := { name := "valueOf", desc := "(C)Ljava/lang/String;", sig := { parameters := [.char], returnType := some (.object "java/lang/String") }, accessFlags := 9, code := some k7c3 }
def k7c4 : Code := { maxStack := 4, maxLocals := 6, code := jdk_42_method_149_code, exceptionTable := #[], attributes := #[] }
def k7m4 : Method := { name := "<init>", desc := "([CIILjava/lang/Void;)V", sig := { parameters := [(.array .char), .int, .int, (.object "java/lang/Void")], returnType := none }, accessFlags := 2, code := some k7c4 }
def k7c5 : Code := { maxStack := 2, maxLocals := 3, code := jdk_42_method_151_code, exceptionTable := #[], attributes := #[] }
def k7m5 : Method := { name := "<init>", desc := "([BB)V", sig := { parameters := [(.array .byte), .byte], returnType := none }, accessFlags := 0, code := some k7c5 }
/-- java/lang/String -/
def k7 : Class := { plain "java/lang/String" (some 0) with
  accessFlags := 49
  interfaces := #[2, 3, 4, 5, 6]
  cf := some (fileOf pool7 10 #[.nestMembers #[1103]] #[{ accessFlags := 1, nameIndex := 5, descriptorIndex := 6, attributes := #[] }, { accessFlags := 1, nameIndex := 5, descriptorIndex := 1010, attributes := #[] }, { accessFlags := 1, nameIndex := 543, descriptorIndex := 573, attributes := #[] }, { accessFlags := 9, nameIndex := 782, descriptorIndex := 783, attributes := #[] }, { accessFlags := 2, nameIndex := 5, descriptorIndex := 29, attributes := #[] }, { accessFlags := 0, nameIndex := 5, descriptorIndex := 211, attributes := #[] }] 49 2 #[1106, 1108, 575, 1110, 1112] #[{ accessFlags := 18, nameIndex := 13, descriptorIndex := 14, attributes := #[] }, { accessFlags := 18, nameIndex := 17, descriptorIndex := 18, attributes := #[] }, { accessFlags := 2, nameIndex := 21, descriptorIndex := 22, attributes := #[] }, { accessFlags := 2, nameIndex := 25, descriptorIndex := 26, attributes := #[] }, { accessFlags := 26, nameIndex := 1116, descriptorIndex := 1117, attributes := #[] }, { accessFlags := 24, nameIndex := 40, descriptorIndex := 26, attributes := #[] }, { accessFlags := 26, nameIndex := 1101, descriptorIndex := 1102, attributes := #[] }, { accessFlags := 26, nameIndex := 1121, descriptorIndex := 1122, attributes := #[] }, { accessFlags := 25, nameIndex := 599, descriptorIndex := 600, attributes := #[] }, { accessFlags := 24, nameIndex := 1125, descriptorIndex := 18, attributes := #[] }, { accessFlags := 24, nameIndex := 1127, descriptorIndex := 18, attributes := #[] }])
  fields := #[{ name := "value", type := (.array .byte), accessFlags := 18, slot := 0, constantValue := 0 }, { name := "coder", type := .byte, accessFlags := 18, slot := 1, constantValue := 0 }, { name := "hash", type := .int, accessFlags := 2, slot := 2, constantValue := 0 }, { name := "hashIsZero", type := .boolean, accessFlags := 2, slot := 3, constantValue := 0 }, { name := "serialVersionUID", type := .long, accessFlags := 26, slot := 0, constantValue := 0 }, { name := "COMPACT_STRINGS", type := .boolean, accessFlags := 24, slot := 1, constantValue := 0 }, { name := "serialPersistentFields", type := (.array (.object "java/io/ObjectStreamField")), accessFlags := 26, slot := 2, constantValue := 0 }, { name := "REPL", type := .char, accessFlags := 26, slot := 3, constantValue := 0 }, { name := "CASE_INSENSITIVE_ORDER", type := (.object "java/util/Comparator"), accessFlags := 25, slot := 4, constantValue := 0 }, { name := "LATIN1", type := .byte, accessFlags := 24, slot := 5, constantValue := 0 }, { name := "UTF16", type := .byte, accessFlags := 24, slot := 6, constantValue := 0 }]
  methods := #[k7m0, k7m1, k7m2, k7m3, k7m4, k7m5]
  instanceTypes := #[(.array .byte), .byte, .int, .boolean]
  staticTypes := #[.long, .boolean, (.array (.object "java/io/ObjectStreamField")), .char, (.object "java/util/Comparator"), .byte, .byte]
  resolved := Array.replicate 1451 none
  statics := some 0 }

def pool8 : Array CpInfo := pool [(1, .methodref 2 3), (0, .class_ 4), (0, .nameAndType 5 6), (0, u "java/lang/Object"), (0, u "<init>"), (0, u "()V"), (0, .fieldref 8 9), (0, .class_ 10), (0, .nameAndType 11 12), (0, u "com/example/cropmark/cropmark/Row"), (0, u "line"), (0, u "I"), (0, .fieldref 8 14), (0, .nameAndType 15 16), (0, u "columns"), (0, u "Ljava/util/Map;"), (0, .fieldref 8 18), (0, .nameAndType 19 20), (0, u "starts"), (0, u "[I"), (0, .fieldref 8 22), (0, .nameAndType 23 20), (0, u "ends"), (27, .fieldref 8 52), (0, .nameAndType 53 54), (0, u "bytes"), (0, u "[B"), (34, u "of"), (20, u "MONTH_DAY"), (0, u "Ljava/util/regex/Pattern;"), (27, u "YEAR"), (14, .class_ 156), (1, u "java/util/List"), (72, u "(Ljava/lang/String;)V"), (6, u "HUNDRED"), (0, u "Ljava/math/BigDecimal;"), (21, .fieldref 8 260), (0, .nameAndType 261 262), (0, u "problems"), (0, u "Ljava/util/List;"), (0, .class_ 264), (0, u "java/util/ArrayList"), (0, .methodref 263 3), (0, .interfaceMethodref 154 267), (0, .nameAndType 268 269), (0, u "add"), (0, u "(Ljava/lang/Object;)Z"), (0, .interfaceMethodref 154 271), (0, .nameAndType 89 272), (0, u "()Ljava/util/List;"), (2, u "problem"), (23, u "DATE_LENGTH"), (2, u "LONG_DIGITS"), (11, u "(ILjava/util/Map;[B[I[I)V")] 83

def k8c0 : Code := { maxStack := 2, maxLocals := 6, code := prog_67_method_2_code, exceptionTable := #[], attributes := #[] }
def k8m0 : Method := { name := "<init>", desc := "(ILjava/util/Map;[B[I[I)V", sig := { parameters := [.int, (.object "java/util/Map"), (.array .byte), (.array .int), (.array .int)], returnType := none }, accessFlags := 0, code := some k8c0 }
def k8c1 : Code := { maxStack := 3, maxLocals := 2, code := prog_67_method_18_code, exceptionTable := #[], attributes := #[] }
def k8m1 : Method := { name := "problem", desc := "(Ljava/lang/String;)V", sig := { parameters := [(.object "java/lang/String")], returnType := none }, accessFlags := 0, code := some k8c1 }
def k8c2 : Code := { maxStack := 1, maxLocals := 1, code := prog_67_method_19_code, exceptionTable := #[], attributes := #[] }
def k8m2 : Method := { name := "problems", desc := "()Ljava/util/List;", sig := { parameters := [], returnType := some (.object "java/util/List") }, accessFlags := 0, code := some k8c2 }
/-- com/example/cropmark/cropmark/Row -/
def k8 : Class := { plain "com/example/cropmark/cropmark/Row" (some 0) with
  accessFlags := 48
  interfaces := #[]
  cf := some (fileOf pool8 8 #[] #[{ accessFlags := 0, nameIndex := 5, descriptorIndex := 314, attributes := #[] }, { accessFlags := 0, nameIndex := 275, descriptorIndex := 229, attributes := #[] }, { accessFlags := 0, nameIndex := 261, descriptorIndex := 272, attributes := #[] }] 48 2 #[] #[{ accessFlags := 26, nameIndex := 110, descriptorIndex := 111, attributes := #[] }, { accessFlags := 26, nameIndex := 139, descriptorIndex := 111, attributes := #[] }, { accessFlags := 26, nameIndex := 236, descriptorIndex := 237, attributes := #[] }, { accessFlags := 26, nameIndex := 299, descriptorIndex := 12, attributes := #[] }, { accessFlags := 26, nameIndex := 302, descriptorIndex := 12, attributes := #[] }, { accessFlags := 18, nameIndex := 11, descriptorIndex := 12, attributes := #[] }, { accessFlags := 18, nameIndex := 15, descriptorIndex := 16, attributes := #[] }, { accessFlags := 18, nameIndex := 53, descriptorIndex := 54, attributes := #[] }, { accessFlags := 18, nameIndex := 19, descriptorIndex := 20, attributes := #[] }, { accessFlags := 18, nameIndex := 23, descriptorIndex := 20, attributes := #[] }, { accessFlags := 2, nameIndex := 261, descriptorIndex := 262, attributes := #[] }])
  fields := #[{ name := "MONTH_DAY", type := (.object "java/util/regex/Pattern"), accessFlags := 26, slot := 0, constantValue := 0 }, { name := "YEAR", type := (.object "java/util/regex/Pattern"), accessFlags := 26, slot := 1, constantValue := 0 }, { name := "HUNDRED", type := (.object "java/math/BigDecimal"), accessFlags := 26, slot := 2, constantValue := 0 }, { name := "DATE_LENGTH", type := .int, accessFlags := 26, slot := 3, constantValue := 0 }, { name := "LONG_DIGITS", type := .int, accessFlags := 26, slot := 4, constantValue := 0 }, { name := "line", type := .int, accessFlags := 18, slot := 0, constantValue := 0 }, { name := "columns", type := (.object "java/util/Map"), accessFlags := 18, slot := 1, constantValue := 0 }, { name := "bytes", type := (.array .byte), accessFlags := 18, slot := 2, constantValue := 0 }, { name := "starts", type := (.array .int), accessFlags := 18, slot := 3, constantValue := 0 }, { name := "ends", type := (.array .int), accessFlags := 18, slot := 4, constantValue := 0 }, { name := "problems", type := (.object "java/util/List"), accessFlags := 2, slot := 5, constantValue := 0 }]
  methods := #[k8m0, k8m1, k8m2]
  instanceTypes := #[.int, (.object "java/util/Map"), (.array .byte), (.array .int), (.array .int), (.object "java/util/List")]
  staticTypes := #[(.object "java/util/regex/Pattern"), (.object "java/util/regex/Pattern"), (.object "java/math/BigDecimal"), .int, .int]
  resolved := Array.replicate 398 none
  statics := none }

def pool9 : Array CpInfo := pool [(8, .class_ 10), (1, u "java/lang/Iterable"), (24, .class_ 36), (0, u "java/lang/Object")] 25

/-- java/lang/Iterable -/
def k9 : Class := { plain "java/lang/Iterable" (some 0) with
  accessFlags := 1537
  interfaces := #[]
  cf := some (fileOf pool9 8 #[] #[] 1537 35 #[] #[])
  fields := #[]
  methods := #[]
  instanceTypes := #[]
  staticTypes := #[]
  resolved := Array.replicate 62 none
  statics := none }

def pool10 : Array CpInfo := pool [(10, .class_ 12), (1, u "java/util/Collection"), (47, .class_ 61), (0, u "java/lang/Object"), (0, .class_ 63), (0, u "java/lang/Iterable")] 51

/-- java/util/Collection -/
def k10 : Class := { plain "java/util/Collection" (some 0) with
  accessFlags := 1537
  interfaces := #[9]
  cf := some (fileOf pool10 10 #[] #[] 1537 60 #[62] #[])
  fields := #[]
  methods := #[]
  instanceTypes := #[]
  staticTypes := #[]
  resolved := Array.replicate 115 none
  statics := none }

def pool11 : Array CpInfo := pool [(8, .class_ 10), (1, u "java/util/SequencedCollection"), (15, .class_ 27), (0, u "java/lang/Object"), (0, .class_ 29), (0, u "java/util/Collection")] 27

/-- java/util/SequencedCollection -/
def k11 : Class := { plain "java/util/SequencedCollection" (some 0) with
  accessFlags := 1537
  interfaces := #[10]
  cf := some (fileOf pool11 8 #[] #[] 1537 26 #[28] #[])
  fields := #[]
  methods := #[]
  instanceTypes := #[]
  staticTypes := #[]
  resolved := Array.replicate 57 none
  statics := none }

def pool12 : Array CpInfo := pool [(8, .class_ 10), (1, u "java/util/List"), (49, u "add"), (3, u "(Ljava/lang/Object;)Z"), (10, u "get"), (0, u "(I)Ljava/lang/Object;"), (2, u "size"), (0, u "()I"), (7, u "of"), (1, .fieldref 91 92), (0, .class_ 93), (0, .nameAndType 94 95), (0, u "java/util/ImmutableCollections"), (0, u "EMPTY_LIST"), (0, u "Ljava/util/ImmutableCollections$ListN;"), (7, .class_ 104), (0, u "java/lang/Object"), (14, u "()Ljava/util/List;"), (0, .class_ 121), (0, u "java/util/SequencedCollection")] 129

def k12m0 : Method := { name := "size", desc := "()I", sig := { parameters := [], returnType := some .int }, accessFlags := 1025, code := none }
def k12m1 : Method := { name := "add", desc := "(Ljava/lang/Object;)Z", sig := { parameters := [(.object "java/lang/Object")], returnType := some .boolean }, accessFlags := 1025, code := none }
def k12m2 : Method := { name := "get", desc := "(I)Ljava/lang/Object;", sig := { parameters := [.int], returnType := some (.object "java/lang/Object") }, accessFlags := 1025, code := none }
def k12c3 : Code := { maxStack := 1, maxLocals := 0, code := jdk_40_method_36_code, exceptionTable := #[], attributes := #[] }
def k12m3 : Method := { name := "of", desc := "()Ljava/util/List;", sig := { parameters := [], returnType := some (.object "java/util/List") }, accessFlags := 9, code := some k12c3 }
/-- java/util/List -/
def k12 : Class := { plain "java/util/List" (some 0) with
  accessFlags := 1537
  interfaces := #[11]
  cf := some (fileOf pool12 8 #[] #[{ accessFlags := 1025, nameIndex := 79, descriptorIndex := 80, attributes := #[] }, { accessFlags := 1025, nameIndex := 60, descriptorIndex := 64, attributes := #[] }, { accessFlags := 1025, nameIndex := 75, descriptorIndex := 76, attributes := #[] }, { accessFlags := 9, nameIndex := 88, descriptorIndex := 119, attributes := #[] }] 1537 103 #[120] #[])
  fields := #[]
  methods := #[k12m0, k12m1, k12m2, k12m3]
  instanceTypes := #[]
  staticTypes := #[]
  resolved := Array.replicate 251 none
  statics := none }

def pool13 : Array CpInfo := pool [(2, .class_ 4), (1, u "java/lang/Object"), (0, u "<init>"), (0, u "()V"), (3, .class_ 11), (0, u "java/util/ImmutableCollections$List12"), (0, .class_ 13), (0, u "java/util/ImmutableCollections$ListN"), (3, u "Z"), (29, .class_ 49), (1, u "java/util/ImmutableCollections"), (0, u "$assertionsDisabled"), (5, u "[Ljava/lang/Object;"), (5, u "EMPTY_LIST"), (0, u "Ljava/util/ImmutableCollections$ListN;"), (8, u "EMPTY_LIST_NULLS"), (22, u "SALT32L"), (0, u "J"), (2, u "REVERSE"), (6, u "archivedObjects"), (2, u "EMPTY"), (0, u "Ljava/lang/Object;"), (0, .class_ 112), (0, u "java/util/ImmutableCollections$SetN"), (5, u "EMPTY_SET"), (0, u "Ljava/util/ImmutableCollections$SetN;"), (0, .class_ 121), (0, u "java/util/ImmutableCollections$MapN"), (3, u "EMPTY_MAP"), (0, u "Ljava/util/ImmutableCollections$MapN;"), (4, u "EXPAND_FACTOR"), (0, u "I"), (36, .class_ 170), (0, u "java/util/ImmutableCollections$MapN$MapNIterator"), (0, .class_ 172), (0, u "java/util/ImmutableCollections$MapN$1"), (0, .class_ 174), (0, u "java/util/ImmutableCollections$Map1"), (0, .class_ 176), (0, u "java/util/ImmutableCollections$AbstractImmutableMap"), (0, .class_ 178), (0, u "java/util/ImmutableCollections$SetN$SetNIterator"), (0, .class_ 180), (0, u "java/util/ImmutableCollections$Set12"), (0, .class_ 182), (0, u "java/util/ImmutableCollections$Set12$1"), (0, .class_ 184), (0, u "java/util/ImmutableCollections$AbstractImmutableSet"), (0, .class_ 186), (0, u "java/util/ImmutableCollections$SubList"), (0, .class_ 188), (0, u "java/util/ImmutableCollections$ListItr"), (0, .class_ 190), (0, u "java/util/ImmutableCollections$AbstractImmutableList"), (0, .class_ 192), (0, u "java/util/ImmutableCollections$AbstractImmutableCollection"), (0, .class_ 194), (0, u "java/util/ImmutableCollections$Access"), (0, .class_ 196), (0, u "java/util/ImmutableCollections$Access$1")] 16

def k13m0 : Method := { name := "<init>", desc := "()V", sig := { parameters := [], returnType := none }, accessFlags := 2, code := none }
/-- java/util/ImmutableCollections -/
def k13 : Class := { plain "java/util/ImmutableCollections" (some 0) with
  accessFlags := 32
  interfaces := #[]
  cf := some (fileOf pool13 47 #[.nestMembers #[120, 169, 171, 173, 175, 111, 177, 179, 181, 183, 12, 10, 185, 187, 189, 191, 193, 195]] #[{ accessFlags := 2, nameIndex := 5, descriptorIndex := 6, attributes := #[] }] 32 2 #[] #[{ accessFlags := 26, nameIndex := 95, descriptorIndex := 96, attributes := #[] }, { accessFlags := 26, nameIndex := 99, descriptorIndex := 17, attributes := #[] }, { accessFlags := 10, nameIndex := 106, descriptorIndex := 56, attributes := #[] }, { accessFlags := 26, nameIndex := 109, descriptorIndex := 110, attributes := #[] }, { accessFlags := 24, nameIndex := 62, descriptorIndex := 63, attributes := #[] }, { accessFlags := 24, nameIndex := 72, descriptorIndex := 63, attributes := #[] }, { accessFlags := 24, nameIndex := 118, descriptorIndex := 119, attributes := #[] }, { accessFlags := 24, nameIndex := 125, descriptorIndex := 126, attributes := #[] }, { accessFlags := 24, nameIndex := 131, descriptorIndex := 132, attributes := #[] }, { accessFlags := 4120, nameIndex := 50, descriptorIndex := 17, attributes := #[] }])
  fields := #[{ name := "SALT32L", type := .long, accessFlags := 26, slot := 0, constantValue := 0 }, { name := "REVERSE", type := .boolean, accessFlags := 26, slot := 1, constantValue := 0 }, { name := "archivedObjects", type := (.array (.object "java/lang/Object")), accessFlags := 10, slot := 2, constantValue := 0 }, { name := "EMPTY", type := (.object "java/lang/Object"), accessFlags := 26, slot := 3, constantValue := 0 }, { name := "EMPTY_LIST", type := (.object "java/util/ImmutableCollections$ListN"), accessFlags := 24, slot := 4, constantValue := 0 }, { name := "EMPTY_LIST_NULLS", type := (.object "java/util/ImmutableCollections$ListN"), accessFlags := 24, slot := 5, constantValue := 0 }, { name := "EMPTY_SET", type := (.object "java/util/ImmutableCollections$SetN"), accessFlags := 24, slot := 6, constantValue := 0 }, { name := "EMPTY_MAP", type := (.object "java/util/ImmutableCollections$MapN"), accessFlags := 24, slot := 7, constantValue := 0 }, { name := "EXPAND_FACTOR", type := .int, accessFlags := 24, slot := 8, constantValue := 0 }, { name := "$assertionsDisabled", type := .boolean, accessFlags := 4120, slot := 9, constantValue := 0 }]
  methods := #[k13m0]
  instanceTypes := #[]
  staticTypes := #[.long, .boolean, (.array (.object "java/lang/Object")), (.object "java/lang/Object"), (.object "java/util/ImmutableCollections$ListN"), (.object "java/util/ImmutableCollections$ListN"), (.object "java/util/ImmutableCollections$SetN"), (.object "java/util/ImmutableCollections$MapN"), .int, .boolean]
  resolved := Array.replicate 213 none
  statics := some 1 }

def pool14 : Array CpInfo := pool [(1, .methodref 2 3), (0, .class_ 4), (0, .nameAndType 5 6), (0, u "java/lang/Object"), (0, u "<init>"), (0, u "()V"), (1, .class_ 10), (1, u "java/util/AbstractCollection"), (66, .class_ 78), (0, u "java/util/Collection")] 81

def k14c0 : Code := { maxStack := 1, maxLocals := 1, code := jdk_22_method_1_code, exceptionTable := #[], attributes := #[] }
def k14m0 : Method := { name := "<init>", desc := "()V", sig := { parameters := [], returnType := none }, accessFlags := 4, code := some k14c0 }
/-- java/util/AbstractCollection -/
def k14 : Class := { plain "java/util/AbstractCollection" (some 0) with
  accessFlags := 1057
  interfaces := #[10]
  cf := some (fileOf pool14 8 #[] #[{ accessFlags := 4, nameIndex := 5, descriptorIndex := 6, attributes := #[] }] 1057 2 #[77] #[])
  fields := #[]
  methods := #[k14m0]
  instanceTypes := #[]
  staticTypes := #[]
  resolved := Array.replicate 160 none
  statics := none }

def pool15 : Array CpInfo := pool [(2, .class_ 4), (1, u "java/util/AbstractCollection"), (0, u "<init>"), (0, u "()V"), (1, .class_ 10), (1, u "java/util/ImmutableCollections"), (2, .class_ 14), (0, u "java/util/ImmutableCollections$AbstractImmutableCollection")] 41

def k15m0 : Method := { name := "<init>", desc := "()V", sig := { parameters := [], returnType := none }, accessFlags := 0, code := none }
/-- java/util/ImmutableCollections$AbstractImmutableCollection -/
def k15 : Class := { plain "java/util/ImmutableCollections$AbstractImmutableCollection" (some 14) with
  accessFlags := 1056
  interfaces := #[]
  cf := some (fileOf pool15 13 #[.nestHost 8] #[{ accessFlags := 0, nameIndex := 5, descriptorIndex := 6, attributes := #[] }] 1056 2 #[] #[])
  fields := #[]
  methods := #[k15m0]
  instanceTypes := #[]
  staticTypes := #[]
  resolved := Array.replicate 56 none
  statics := none }

def pool16 : Array CpInfo := pool [(1, .class_ 2), (0, u "java/util/RandomAccess"), (0, .class_ 4), (0, u "java/lang/Object")] 2

/-- java/util/RandomAccess -/
def k16 : Class := { plain "java/util/RandomAccess" (some 0) with
  accessFlags := 1537
  interfaces := #[]
  cf := some (fileOf pool16 1 #[] #[] 1537 3 #[] #[])
  fields := #[]
  methods := #[]
  instanceTypes := #[]
  staticTypes := #[]
  resolved := Array.replicate 7 none
  statics := none }

def pool17 : Array CpInfo := pool [(2, .class_ 4), (1, u "java/util/ImmutableCollections$AbstractImmutableCollection"), (0, u "<init>"), (0, u "()V"), (1, .class_ 10), (1, u "java/util/ImmutableCollections"), (3, .class_ 16), (1, u "java/util/ImmutableCollections$AbstractImmutableList"), (60, .class_ 78), (0, u "java/util/List"), (45, .class_ 125), (0, u "java/util/RandomAccess")] 70

def k17m0 : Method := { name := "<init>", desc := "()V", sig := { parameters := [], returnType := none }, accessFlags := 0, code := none }
/-- java/util/ImmutableCollections$AbstractImmutableList -/
def k17 : Class := { plain "java/util/ImmutableCollections$AbstractImmutableList" (some 15) with
  accessFlags := 1056
  interfaces := #[12, 16]
  cf := some (fileOf pool17 14 #[.nestHost 8] #[{ accessFlags := 0, nameIndex := 5, descriptorIndex := 6, attributes := #[] }] 1056 2 #[77, 124] #[])
  fields := #[]
  methods := #[k17m0]
  instanceTypes := #[]
  staticTypes := #[]
  resolved := Array.replicate 196 none
  statics := none }

def pool18 : Array CpInfo := pool [(2, .class_ 4), (1, u "java/util/ImmutableCollections$AbstractImmutableList"), (2, .fieldref 8 9), (0, .class_ 10), (0, .nameAndType 11 12), (0, u "java/util/ImmutableCollections$ListN"), (0, u "elements"), (0, u "[Ljava/lang/Object;"), (2, u "allowNulls"), (0, u "Z"), (42, .class_ 60), (0, u "java/io/Serializable"), (16, u "size"), (0, u "()I"), (35, .class_ 115), (0, u "java/util/ImmutableCollections")] 3

def k18c0 : Code := { maxStack := 1, maxLocals := 1, code := jdk_45_method_3_code, exceptionTable := #[], attributes := #[] }
def k18m0 : Method := { name := "size", desc := "()I", sig := { parameters := [], returnType := some .int }, accessFlags := 1, code := some k18c0 }
/-- java/util/ImmutableCollections$ListN -/
def k18 : Class := { plain "java/util/ImmutableCollections$ListN" (some 17) with
  accessFlags := 48
  interfaces := #[2]
  cf := some (fileOf pool18 8 #[.nestHost 114] #[{ accessFlags := 1, nameIndex := 77, descriptorIndex := 78, attributes := #[] }] 48 2 #[59] #[{ accessFlags := 18, nameIndex := 11, descriptorIndex := 12, attributes := #[] }, { accessFlags := 18, nameIndex := 15, descriptorIndex := 16, attributes := #[] }])
  fields := #[{ name := "elements", type := (.array (.object "java/lang/Object")), accessFlags := 18, slot := 0, constantValue := 0 }, { name := "allowNulls", type := .boolean, accessFlags := 18, slot := 1, constantValue := 0 }]
  methods := #[k18m0]
  instanceTypes := #[(.array (.object "java/lang/Object")), .boolean]
  staticTypes := #[]
  resolved := Array.replicate 119 none
  statics := none }

def pool19 : Array CpInfo := pool [(1, .methodref 2 3), (0, .class_ 4), (0, .nameAndType 5 6), (0, u "java/util/AbstractCollection"), (0, u "<init>"), (0, u "()V"), (0, .fieldref 8 9), (0, .class_ 10), (0, .nameAndType 11 12), (0, u "java/util/AbstractList"), (0, u "modCount"), (0, u "I"), (64, .class_ 78), (0, u "java/util/AbstractList$Itr"), (3, .class_ 83), (0, u "java/util/AbstractList$ListItr"), (9, .class_ 94), (0, u "java/util/AbstractList$RandomAccessSubList"), (3, .class_ 99), (0, u "java/util/AbstractList$SubList"), (33, .class_ 134), (0, u "java/util/List"), (73, .class_ 209), (0, u "java/util/AbstractList$SubList$1"), (0, .class_ 211), (0, u "java/util/AbstractList$RandomAccessSpliterator")] 6

def k19c0 : Code := { maxStack := 2, maxLocals := 1, code := jdk_39_method_1_code, exceptionTable := #[], attributes := #[] }
def k19m0 : Method := { name := "<init>", desc := "()V", sig := { parameters := [], returnType := none }, accessFlags := 4, code := some k19c0 }
/-- java/util/AbstractList -/
def k19 : Class := { plain "java/util/AbstractList" (some 14) with
  accessFlags := 1057
  interfaces := #[12]
  cf := some (fileOf pool19 8 #[.nestMembers #[93, 98, 208, 210, 82, 77]] #[{ accessFlags := 4, nameIndex := 5, descriptorIndex := 6, attributes := #[] }] 1057 2 #[133] #[{ accessFlags := 132, nameIndex := 11, descriptorIndex := 12, attributes := #[] }])
  fields := #[{ name := "modCount", type := .int, accessFlags := 132, slot := 0, constantValue := 0 }]
  methods := #[k19m0]
  instanceTypes := #[.int]
  staticTypes := #[]
  resolved := Array.replicate 218 none
  statics := none }

def pool20 : Array CpInfo := pool [(1, .class_ 2), (0, u "java/lang/Cloneable"), (0, .class_ 4), (0, u "java/lang/Object")] 2

/-- java/lang/Cloneable -/
def k20 : Class := { plain "java/lang/Cloneable" (some 0) with
  accessFlags := 1537
  interfaces := #[]
  cf := some (fileOf pool20 1 #[] #[] 1537 3 #[] #[])
  fields := #[]
  methods := #[]
  instanceTypes := #[]
  staticTypes := #[]
  resolved := Array.replicate 7 none
  statics := none }

def pool21 : Array CpInfo := pool [(1, .methodref 2 3), (0, .class_ 4), (0, .nameAndType 5 6), (0, u "java/util/AbstractList"), (0, u "<init>"), (0, u "()V"), (0, .class_ 8), (0, u "java/lang/Object"), (0, .fieldref 10 11), (0, .class_ 12), (0, .nameAndType 13 14), (0, u "java/util/ArrayList"), (0, u "elementData"), (0, u "[Ljava/lang/Object;"), (2, u "EMPTY_ELEMENTDATA"), (21, .fieldref 10 40), (0, .nameAndType 41 14), (0, u "DEFAULTCAPACITY_EMPTY_ELEMENTDATA"), (5, u "()[Ljava/lang/Object;"), (0, .fieldref 10 49), (0, .nameAndType 50 51), (0, u "size"), (0, u "I"), (11, .fieldref 10 64), (0, .nameAndType 65 51), (0, u "modCount"), (3, .methodref 10 70), (0, .nameAndType 71 72), (0, u "grow"), (0, u "(I)[Ljava/lang/Object;"), (6, .methodref 80 81), (0, .class_ 82), (0, .nameAndType 83 84), (0, u "java/lang/Math"), (0, u "max"), (0, u "(II)I"), (11, u "(Ljava/lang/Object;)Z"), (21, .methodref 119 120), (0, .class_ 121), (0, .nameAndType 122 84), (0, u "java/util/Objects"), (0, u "checkIndex"), (0, .methodref 10 124), (0, .nameAndType 13 125), (0, u "(I)Ljava/lang/Object;"), (3, .methodref 10 130), (0, .nameAndType 71 47), (0, .methodref 10 132), (0, .nameAndType 133 134), (0, u "add"), (0, u "(Ljava/lang/Object;[Ljava/lang/Object;I)V"), (13, .class_ 149), (0, u "java/util/List"), (36, u "()I"), (75, .class_ 263), (0, u "java/util/ArrayList$ListItr"), (3, .class_ 268), (0, u "java/util/ArrayList$Itr"), (7, .class_ 277), (0, u "java/util/ArrayList$SubList"), (12, .class_ 291), (0, u "java/util/ArrayList$ArrayListSpliterator"), (37, .class_ 330), (0, u "java/util/RandomAccess"), (0, .class_ 332), (0, u "java/lang/Cloneable"), (0, .class_ 334), (0, u "java/io/Serializable"), (0, u "serialVersionUID"), (0, u "J"), (3, u "DEFAULT_CAPACITY"), (40, u "get"), (118, .class_ 501), (0, u "java/util/ArrayList$SubList$2"), (0, .class_ 503), (0, u "java/util/ArrayList$SubList$1")] 5

def k21c0 : Code := { maxStack := 2, maxLocals := 1, code := jdk_38_method_2_code, exceptionTable := #[], attributes := #[] }
def k21m0 : Method := { name := "<init>", desc := "()V", sig := { parameters := [], returnType := none }, accessFlags := 1, code := some k21c0 }
def k21c1 : Code := { maxStack := 4, maxLocals := 4, code := jdk_38_method_6_code, exceptionTable := #[], attributes := #[] }
def k21m1 : Method := { name := "grow", desc := "(I)[Ljava/lang/Object;", sig := { parameters := [.int], returnType := some (.array (.object "java/lang/Object")) }, accessFlags := 2, code := some k21c1 }
def k21c2 : Code := { maxStack := 3, maxLocals := 1, code := jdk_38_method_7_code, exceptionTable := #[], attributes := #[] }
def k21m2 : Method := { name := "grow", desc := "()[Ljava/lang/Object;", sig := { parameters := [], returnType := some (.array (.object "java/lang/Object")) }, accessFlags := 2, code := some k21c2 }
def k21c3 : Code := { maxStack := 1, maxLocals := 1, code := jdk_38_method_8_code, exceptionTable := #[], attributes := #[] }
def k21m3 : Method := { name := "size", desc := "()I", sig := { parameters := [], returnType := some .int }, accessFlags := 1, code := some k21c3 }
def k21c4 : Code := { maxStack := 2, maxLocals := 2, code := jdk_38_method_18_code, exceptionTable := #[], attributes := #[] }
def k21m4 : Method := { name := "elementData", desc := "(I)Ljava/lang/Object;", sig := { parameters := [.int], returnType := some (.object "java/lang/Object") }, accessFlags := 0, code := some k21c4 }
def k21c5 : Code := { maxStack := 2, maxLocals := 2, code := jdk_38_method_20_code, exceptionTable := #[], attributes := #[] }
def k21m5 : Method := { name := "get", desc := "(I)Ljava/lang/Object;", sig := { parameters := [.int], returnType := some (.object "java/lang/Object") }, accessFlags := 1, code := some k21c5 }
def k21c6 : Code := { maxStack := 3, maxLocals := 4, code := jdk_38_method_24_code, exceptionTable := #[], attributes := #[] }
def k21m6 : Method := { name := "add", desc := "(Ljava/lang/Object;[Ljava/lang/Object;I)V", sig := { parameters := [(.object "java/lang/Object"), (.array (.object "java/lang/Object")), .int], returnType := none }, accessFlags := 2, code := some k21c6 }
def k21c7 : Code := { maxStack := 4, maxLocals := 2, code := jdk_38_method_25_code, exceptionTable := #[], attributes := #[] }
def k21m7 : Method := { name := "add", desc := "(Ljava/lang/Object;)Z", sig := { parameters := [(.object "java/lang/Object")], returnType := some .boolean }, accessFlags := 1, code := some k21c7 }
/-- java/util/ArrayList -/
def k21 : Class := { plain "java/util/ArrayList" (some 19) with
  accessFlags := 33
  interfaces := #[12, 16, 20, 2]
  cf := some (fileOf pool21 10 #[.nestMembers #[290, 276, 500, 502, 262, 267]] #[{ accessFlags := 1, nameIndex := 5, descriptorIndex := 6, attributes := #[] }, { accessFlags := 2, nameIndex := 71, descriptorIndex := 72, attributes := #[] }, { accessFlags := 2, nameIndex := 71, descriptorIndex := 47, attributes := #[] }, { accessFlags := 1, nameIndex := 50, descriptorIndex := 186, attributes := #[] }, { accessFlags := 0, nameIndex := 13, descriptorIndex := 125, attributes := #[] }, { accessFlags := 1, nameIndex := 381, descriptorIndex := 125, attributes := #[] }, { accessFlags := 2, nameIndex := 133, descriptorIndex := 134, attributes := #[] }, { accessFlags := 1, nameIndex := 133, descriptorIndex := 96, attributes := #[] }] 33 2 #[148, 329, 331, 333] #[{ accessFlags := 26, nameIndex := 335, descriptorIndex := 336, attributes := #[] }, { accessFlags := 26, nameIndex := 340, descriptorIndex := 51, attributes := #[] }, { accessFlags := 26, nameIndex := 17, descriptorIndex := 14, attributes := #[] }, { accessFlags := 26, nameIndex := 41, descriptorIndex := 14, attributes := #[] }, { accessFlags := 128, nameIndex := 13, descriptorIndex := 14, attributes := #[] }, { accessFlags := 2, nameIndex := 50, descriptorIndex := 51, attributes := #[] }])
  fields := #[{ name := "serialVersionUID", type := .long, accessFlags := 26, slot := 0, constantValue := 0 }, { name := "DEFAULT_CAPACITY", type := .int, accessFlags := 26, slot := 1, constantValue := 0 }, { name := "EMPTY_ELEMENTDATA", type := (.array (.object "java/lang/Object")), accessFlags := 26, slot := 2, constantValue := 0 }, { name := "DEFAULTCAPACITY_EMPTY_ELEMENTDATA", type := (.array (.object "java/lang/Object")), accessFlags := 26, slot := 3, constantValue := 0 }, { name := "elementData", type := (.array (.object "java/lang/Object")), accessFlags := 128, slot := 1, constantValue := 0 }, { name := "size", type := .int, accessFlags := 2, slot := 2, constantValue := 0 }]
  methods := #[k21m0, k21m1, k21m2, k21m3, k21m4, k21m5, k21m6, k21m7]
  instanceTypes := #[.int, (.array (.object "java/lang/Object")), .int]
  staticTypes := #[.long, .int, (.array (.object "java/lang/Object")), (.array (.object "java/lang/Object"))]
  resolved := Array.replicate 509 none
  statics := some 2 }

def pool22 : Array CpInfo := pool [(1, .class_ 2), (0, u "java/lang/Math"), (1, .class_ 6), (1, u "java/lang/Object"), (0, u "<init>"), (0, u "()V"), (89, .class_ 100), (1, u "java/lang/Math$RandomNumberGeneratorHolder"), (71, u "negativeZeroFloatBits"), (0, u "J"), (2, u "negativeZeroDoubleBits"), (21, u "max"), (46, u "$assertionsDisabled"), (0, u "Z"), (88, u "(II)I"), (2, u "twoToTheDoubleScaleDown"), (0, u "D"), (4, u "twoToTheDoubleScaleUp"), (9, u "E"), (3, u "PI"), (2, u "TAU"), (2, u "DEGREES_TO_RADIANS"), (0, u "RADIANS_TO_DEGREES")] 94

def k22m0 : Method := { name := "<init>", desc := "()V", sig := { parameters := [], returnType := none }, accessFlags := 2, code := none }
def k22c1 : Code := { maxStack := 2, maxLocals := 2, code := jdk_29_method_65_code, exceptionTable := #[], attributes := #[] }
def k22m1 : Method := { name := "max", desc := "(II)I", sig := { parameters := [.int, .int], returnType := some .int }, accessFlags := 9, code := some k22c1 }
/-- java/lang/Math -/
def k22 : Class := { plain "java/lang/Math" (some 0) with
  accessFlags := 49
  interfaces := #[]
  cf := some (fileOf pool22 1 #[.nestMembers #[98]] #[{ accessFlags := 2, nameIndex := 7, descriptorIndex := 8, attributes := #[] }, { accessFlags := 9, nameIndex := 198, descriptorIndex := 335, attributes := #[] }] 49 4 #[] #[{ accessFlags := 25, nameIndex := 354, descriptorIndex := 339, attributes := #[] }, { accessFlags := 25, nameIndex := 358, descriptorIndex := 339, attributes := #[] }, { accessFlags := 25, nameIndex := 361, descriptorIndex := 339, attributes := #[] }, { accessFlags := 26, nameIndex := 364, descriptorIndex := 339, attributes := #[] }, { accessFlags := 26, nameIndex := 365, descriptorIndex := 339, attributes := #[] }, { accessFlags := 26, nameIndex := 172, descriptorIndex := 173, attributes := #[] }, { accessFlags := 26, nameIndex := 176, descriptorIndex := 173, attributes := #[] }, { accessFlags := 8, nameIndex := 344, descriptorIndex := 339, attributes := #[] }, { accessFlags := 8, nameIndex := 338, descriptorIndex := 339, attributes := #[] }, { accessFlags := 4120, nameIndex := 245, descriptorIndex := 246, attributes := #[] }])
  fields := #[{ name := "E", type := .double, accessFlags := 25, slot := 0, constantValue := 0 }, { name := "PI", type := .double, accessFlags := 25, slot := 1, constantValue := 0 }, { name := "TAU", type := .double, accessFlags := 25, slot := 2, constantValue := 0 }, { name := "DEGREES_TO_RADIANS", type := .double, accessFlags := 26, slot := 3, constantValue := 0 }, { name := "RADIANS_TO_DEGREES", type := .double, accessFlags := 26, slot := 4, constantValue := 0 }, { name := "negativeZeroFloatBits", type := .long, accessFlags := 26, slot := 5, constantValue := 0 }, { name := "negativeZeroDoubleBits", type := .long, accessFlags := 26, slot := 6, constantValue := 0 }, { name := "twoToTheDoubleScaleUp", type := .double, accessFlags := 8, slot := 7, constantValue := 0 }, { name := "twoToTheDoubleScaleDown", type := .double, accessFlags := 8, slot := 8, constantValue := 0 }, { name := "$assertionsDisabled", type := .boolean, accessFlags := 4120, slot := 9, constantValue := 0 }]
  methods := #[k22m0, k22m1]
  instanceTypes := #[]
  staticTypes := #[.double, .double, .double, .double, .double, .long, .long, .double, .double, .boolean]
  resolved := Array.replicate 460 none
  statics := none }

def pool23 : Array CpInfo := pool [(2, .class_ 4), (1, u "java/lang/Object"), (0, u "<init>"), (0, u "()V"), (35, .class_ 44), (1, u "java/util/Objects"), (60, .methodref 106 107), (0, .class_ 108), (0, .nameAndType 109 110), (0, u "jdk/internal/util/Preconditions"), (0, u "checkIndex"), (0, u "(IILjava/util/function/BiFunction;)I"), (60, u "(II)I")] 12

def k23m0 : Method := { name := "<init>", desc := "()V", sig := { parameters := [], returnType := none }, accessFlags := 2, code := none }
def k23c1 : Code := { maxStack := 3, maxLocals := 2, code := jdk_31_method_17_code, exceptionTable := #[], attributes := #[] }
def k23m1 : Method := { name := "checkIndex", desc := "(II)I", sig := { parameters := [.int, .int], returnType := some .int }, accessFlags := 9, code := some k23c1 }
/-- java/util/Objects -/
def k23 : Class := { plain "java/util/Objects" (some 0) with
  accessFlags := 49
  interfaces := #[]
  cf := some (fileOf pool23 42 #[] #[{ accessFlags := 2, nameIndex := 5, descriptorIndex := 6, attributes := #[] }, { accessFlags := 9, nameIndex := 109, descriptorIndex := 171, attributes := #[] }] 49 2 #[] #[])
  fields := #[]
  methods := #[k23m0, k23m1]
  instanceTypes := #[]
  staticTypes := #[]
  resolved := Array.replicate 184 none
  statics := none }

def pool24 : Array CpInfo := pool [(2, .class_ 4), (1, u "java/lang/Object"), (0, u "<init>"), (0, u "()V"), (17, .class_ 26), (1, u "jdk/internal/util/Preconditions"), (6, u "checkIndex"), (21, .class_ 56), (0, u "jdk/internal/util/Preconditions$4"), (57, .class_ 115), (0, u "jdk/internal/util/Preconditions$1"), (7, u "SIOOBE_FORMATTER"), (0, u "Ljava/util/function/BiFunction;"), (0, .class_ 126), (0, u "jdk/internal/util/Preconditions$2"), (3, u "AIOOBE_FORMATTER"), (0, .class_ 132), (0, u "jdk/internal/util/Preconditions$3"), (3, u "IOOBE_FORMATTER"), (41, u "(IILjava/util/function/BiFunction;)I")] 15

def k24m0 : Method := { name := "<init>", desc := "()V", sig := { parameters := [], returnType := none }, accessFlags := 1, code := none }
def k24c1 : Code := { maxStack := 3, maxLocals := 3, code := jdk_41_method_11_code, exceptionTable := #[], attributes := #[] }
def k24m1 : Method := { name := "checkIndex", desc := "(IILjava/util/function/BiFunction;)I", sig := { parameters := [.int, .int, (.object "java/util/function/BiFunction")], returnType := some .int }, accessFlags := 9, code := some k24c1 }
/-- jdk/internal/util/Preconditions -/
def k24 : Class := { plain "jdk/internal/util/Preconditions" (some 0) with
  accessFlags := 33
  interfaces := #[]
  cf := some (fileOf pool24 24 #[.nestMembers #[55, 131, 125, 114]] #[{ accessFlags := 1, nameIndex := 5, descriptorIndex := 6, attributes := #[] }, { accessFlags := 9, nameIndex := 33, descriptorIndex := 178, attributes := #[] }] 33 2 #[] #[{ accessFlags := 25, nameIndex := 123, descriptorIndex := 124, attributes := #[] }, { accessFlags := 25, nameIndex := 130, descriptorIndex := 124, attributes := #[] }, { accessFlags := 25, nameIndex := 136, descriptorIndex := 124, attributes := #[] }])
  fields := #[{ name := "SIOOBE_FORMATTER", type := (.object "java/util/function/BiFunction"), accessFlags := 25, slot := 0, constantValue := 0 }, { name := "AIOOBE_FORMATTER", type := (.object "java/util/function/BiFunction"), accessFlags := 25, slot := 1, constantValue := 0 }, { name := "IOOBE_FORMATTER", type := (.object "java/util/function/BiFunction"), accessFlags := 25, slot := 2, constantValue := 0 }]
  methods := #[k24m0, k24m1]
  instanceTypes := #[]
  staticTypes := #[(.object "java/util/function/BiFunction"), (.object "java/util/function/BiFunction"), (.object "java/util/function/BiFunction")]
  resolved := Array.replicate 194 none
  statics := some 3 }

def pool25 : Array CpInfo := pool [(6, .class_ 8), (1, u "java/lang/Object"), (0, u "<init>"), (0, u "()V"), (1, .class_ 14), (1, u "java/lang/StringUTF16"), (31, u "$assertionsDisabled"), (0, u "Z"), (13, u "HI_BYTE_SHIFT"), (0, u "I"), (2, u "LO_BYTE_SHIFT"), (49, .methodref 12 116), (0, .nameAndType 117 118), (0, u "compress"), (0, u "([CI[BII)I"), (3, u "([CII)[B"), (138, u "coderFromArrayLen"), (0, u "([BI)B"), (106, .class_ 371), (1, u "java/lang/StringUTF16$LinesSpliterator"), (58, u "MAX_LENGTH"), (196, .class_ 628), (0, u "java/lang/StringUTF16$CodePointsSpliterator"), (0, .class_ 630), (0, u "java/lang/StringUTF16$CharsSpliterator")] 4

def k25m0 : Method := { name := "<init>", desc := "()V", sig := { parameters := [], returnType := none }, accessFlags := 0, code := none }
def k25c1 : Code := { maxStack := 2, maxLocals := 2, code := jdk_52_method_15_code, exceptionTable := #[], attributes := #[] }
def k25m1 : Method := { name := "coderFromArrayLen", desc := "([BI)B", sig := { parameters := [(.array .byte), .int], returnType := some .byte }, accessFlags := 8, code := some k25c1 }
def k25c2 : Code := { maxStack := 5, maxLocals := 6, code := jdk_52_method_16_code, exceptionTable := #[], attributes := #[] }
def k25m2 : Method := { name := "compress", desc := "([CII)[B", sig := { parameters := [(.array .char), .int, .int], returnType := some (.array .byte) }, accessFlags := 9, code := some k25c2 }
def k25c3 : Code := { maxStack := 3, maxLocals := 7, code := jdk_52_method_21_code, exceptionTable := #[], attributes := #[] }
def k25m3 : Method := { name := "compress", desc := "([CI[BII)I", sig := { parameters := [(.array .char), .int, (.array .byte), .int, .int], returnType := some .int }, accessFlags := 9, code := some k25c3 }
/-- java/lang/StringUTF16 -/
def k25 : Class := { plain "java/lang/StringUTF16" (some 0) with
  accessFlags := 48
  interfaces := #[]
  cf := some (fileOf pool25 12 #[.nestMembers #[627, 629, 369]] #[{ accessFlags := 0, nameIndex := 9, descriptorIndex := 10, attributes := #[] }, { accessFlags := 8, nameIndex := 261, descriptorIndex := 262, attributes := #[] }, { accessFlags := 9, nameIndex := 117, descriptorIndex := 122, attributes := #[] }, { accessFlags := 9, nameIndex := 117, descriptorIndex := 118, attributes := #[] }] 48 6 #[] #[{ accessFlags := 26, nameIndex := 61, descriptorIndex := 62, attributes := #[] }, { accessFlags := 26, nameIndex := 65, descriptorIndex := 62, attributes := #[] }, { accessFlags := 24, nameIndex := 430, descriptorIndex := 62, attributes := #[] }, { accessFlags := 4120, nameIndex := 46, descriptorIndex := 47, attributes := #[] }])
  fields := #[{ name := "HI_BYTE_SHIFT", type := .int, accessFlags := 26, slot := 0, constantValue := 0 }, { name := "LO_BYTE_SHIFT", type := .int, accessFlags := 26, slot := 1, constantValue := 0 }, { name := "MAX_LENGTH", type := .int, accessFlags := 24, slot := 2, constantValue := 0 }, { name := "$assertionsDisabled", type := .boolean, accessFlags := 4120, slot := 3, constantValue := 0 }]
  methods := #[k25m0, k25m1, k25m2, k25m3]
  instanceTypes := #[]
  staticTypes := #[.int, .int, .int, .boolean]
  resolved := Array.replicate 635 none
  statics := none }

def pool26 : Array CpInfo := pool [(4, .class_ 6), (1, u "java/lang/Object"), (0, u "<init>"), (0, u "()V"), (5, .class_ 16), (1, u "java/lang/StringLatin1"), (73, u "canEncode"), (14, u "(C)Z"), (15, u "$assertionsDisabled"), (0, u "Z"), (98, .class_ 223), (1, u "java/lang/StringLatin1$LinesSpliterator"), (156, u "toBytes"), (1, u "(C)[B"), (7, .class_ 391), (0, u "java/lang/StringLatin1$CharsSpliterator")] 3

def k26m0 : Method := { name := "<init>", desc := "()V", sig := { parameters := [], returnType := none }, accessFlags := 0, code := none }
def k26c1 : Code := { maxStack := 2, maxLocals := 1, code := jdk_43_method_3_code, exceptionTable := #[], attributes := #[] }
def k26m1 : Method := { name := "canEncode", desc := "(C)Z", sig := { parameters := [.char], returnType := some .boolean }, accessFlags := 9, code := some k26c1 }
def k26c2 : Code := { maxStack := 4, maxLocals := 1, code := jdk_43_method_46_code, exceptionTable := #[], attributes := #[] }
def k26m2 : Method := { name := "toBytes", desc := "(C)[B", sig := { parameters := [.char], returnType := some (.array .byte) }, accessFlags := 9, code := some k26c2 }
/-- java/lang/StringLatin1 -/
def k26 : Class := { plain "java/lang/StringLatin1" (some 0) with
  accessFlags := 48
  interfaces := #[]
  cf := some (fileOf pool26 14 #[.nestMembers #[390, 221]] #[{ accessFlags := 0, nameIndex := 7, descriptorIndex := 8, attributes := #[] }, { accessFlags := 9, nameIndex := 90, descriptorIndex := 105, attributes := #[] }, { accessFlags := 9, nameIndex := 380, descriptorIndex := 382, attributes := #[] }] 48 4 #[] #[{ accessFlags := 4120, nameIndex := 121, descriptorIndex := 122, attributes := #[] }])
  fields := #[{ name := "$assertionsDisabled", type := .boolean, accessFlags := 4120, slot := 0, constantValue := 0 }]
  methods := #[k26m0, k26m1, k26m2]
  instanceTypes := #[]
  staticTypes := #[.boolean]
  resolved := Array.replicate 395 none
  statics := none }

def pool27 : Array CpInfo := pool [(9, u "<init>"), (6, .class_ 18), (1, u "java/lang/Object"), (0, u "()V"), (1, .class_ 23), (1, u "jdk/internal/util/ArraysSupport"), (0, u "LOG2_ARRAY_LONG_INDEX_SCALE"), (0, u "I"), (2, u "U"), (0, u "Ljdk/internal/misc/Unsafe;"), (8, u "BIG_ENDIAN"), (0, u "Z"), (8, u "LOG2_BYTE_BIT_SIZE"), (4, u "LOG2_ARRAY_INT_INDEX_SCALE"), (54, u "JLA"), (0, u "Ljdk/internal/access/JavaLangAccess;"), (11, u "LOG2_ARRAY_BOOLEAN_INDEX_SCALE"), (9, u "LOG2_ARRAY_BYTE_INDEX_SCALE"), (5, u "LOG2_ARRAY_CHAR_INDEX_SCALE"), (5, u "LOG2_ARRAY_SHORT_INDEX_SCALE"), (18, u "LOG2_ARRAY_FLOAT_INDEX_SCALE"), (24, u "LOG2_ARRAY_DOUBLE_INDEX_SCALE"), (89, u "T_BOOLEAN"), (2, u "T_CHAR"), (1, u "T_FLOAT"), (1, u "T_DOUBLE"), (1, u "T_BYTE"), (1, u "T_SHORT"), (1, u "T_INT"), (1, u "T_LONG"), (1, u "SOFT_MAX_ARRAY_LENGTH")] 83

def k27m0 : Method := { name := "<init>", desc := "()V", sig := { parameters := [], returnType := none }, accessFlags := 2, code := none }
/-- jdk/internal/util/ArraysSupport -/
def k27 : Class := { plain "jdk/internal/util/ArraysSupport" (some 0) with
  accessFlags := 33
  interfaces := #[]
  cf := some (fileOf pool27 21 #[] #[{ accessFlags := 2, nameIndex := 9, descriptorIndex := 19, attributes := #[] }] 33 16 #[] #[{ accessFlags := 24, nameIndex := 28, descriptorIndex := 29, attributes := #[] }, { accessFlags := 26, nameIndex := 38, descriptorIndex := 39, attributes := #[] }, { accessFlags := 25, nameIndex := 121, descriptorIndex := 25, attributes := #[] }, { accessFlags := 25, nameIndex := 131, descriptorIndex := 25, attributes := #[] }, { accessFlags := 25, nameIndex := 137, descriptorIndex := 25, attributes := #[] }, { accessFlags := 25, nameIndex := 143, descriptorIndex := 25, attributes := #[] }, { accessFlags := 25, nameIndex := 53, descriptorIndex := 25, attributes := #[] }, { accessFlags := 25, nameIndex := 24, descriptorIndex := 25, attributes := #[] }, { accessFlags := 25, nameIndex := 162, descriptorIndex := 25, attributes := #[] }, { accessFlags := 25, nameIndex := 187, descriptorIndex := 25, attributes := #[] }, { accessFlags := 26, nameIndex := 48, descriptorIndex := 25, attributes := #[] }, { accessFlags := 25, nameIndex := 277, descriptorIndex := 25, attributes := #[] }, { accessFlags := 25, nameIndex := 280, descriptorIndex := 25, attributes := #[] }, { accessFlags := 25, nameIndex := 282, descriptorIndex := 25, attributes := #[] }, { accessFlags := 25, nameIndex := 284, descriptorIndex := 25, attributes := #[] }, { accessFlags := 25, nameIndex := 286, descriptorIndex := 25, attributes := #[] }, { accessFlags := 25, nameIndex := 288, descriptorIndex := 25, attributes := #[] }, { accessFlags := 25, nameIndex := 290, descriptorIndex := 25, attributes := #[] }, { accessFlags := 25, nameIndex := 292, descriptorIndex := 25, attributes := #[] }, { accessFlags := 26, nameIndex := 108, descriptorIndex := 109, attributes := #[] }, { accessFlags := 25, nameIndex := 294, descriptorIndex := 25, attributes := #[] }])
  fields := #[{ name := "U", type := (.object "jdk/internal/misc/Unsafe"), accessFlags := 24, slot := 0, constantValue := 0 }, { name := "BIG_ENDIAN", type := .boolean, accessFlags := 26, slot := 1, constantValue := 0 }, { name := "LOG2_ARRAY_BOOLEAN_INDEX_SCALE", type := .int, accessFlags := 25, slot := 2, constantValue := 0 }, { name := "LOG2_ARRAY_BYTE_INDEX_SCALE", type := .int, accessFlags := 25, slot := 3, constantValue := 0 }, { name := "LOG2_ARRAY_CHAR_INDEX_SCALE", type := .int, accessFlags := 25, slot := 4, constantValue := 0 }, { name := "LOG2_ARRAY_SHORT_INDEX_SCALE", type := .int, accessFlags := 25, slot := 5, constantValue := 0 }, { name := "LOG2_ARRAY_INT_INDEX_SCALE", type := .int, accessFlags := 25, slot := 6, constantValue := 0 }, { name := "LOG2_ARRAY_LONG_INDEX_SCALE", type := .int, accessFlags := 25, slot := 7, constantValue := 0 }, { name := "LOG2_ARRAY_FLOAT_INDEX_SCALE", type := .int, accessFlags := 25, slot := 8, constantValue := 0 }, { name := "LOG2_ARRAY_DOUBLE_INDEX_SCALE", type := .int, accessFlags := 25, slot := 9, constantValue := 0 }, { name := "LOG2_BYTE_BIT_SIZE", type := .int, accessFlags := 26, slot := 10, constantValue := 0 }, { name := "T_BOOLEAN", type := .int, accessFlags := 25, slot := 11, constantValue := 0 }, { name := "T_CHAR", type := .int, accessFlags := 25, slot := 12, constantValue := 0 }, { name := "T_FLOAT", type := .int, accessFlags := 25, slot := 13, constantValue := 0 }, { name := "T_DOUBLE", type := .int, accessFlags := 25, slot := 14, constantValue := 0 }, { name := "T_BYTE", type := .int, accessFlags := 25, slot := 15, constantValue := 0 }, { name := "T_SHORT", type := .int, accessFlags := 25, slot := 16, constantValue := 0 }, { name := "T_INT", type := .int, accessFlags := 25, slot := 17, constantValue := 0 }, { name := "T_LONG", type := .int, accessFlags := 25, slot := 18, constantValue := 0 }, { name := "JLA", type := (.object "jdk/internal/access/JavaLangAccess"), accessFlags := 26, slot := 19, constantValue := 0 }, { name := "SOFT_MAX_ARRAY_LENGTH", type := .int, accessFlags := 25, slot := 20, constantValue := 0 }]
  methods := #[k27m0]
  instanceTypes := #[]
  staticTypes := #[(.object "jdk/internal/misc/Unsafe"), .boolean, .int, .int, .int, .int, .int, .int, .int, .int, .int, .int, .int, .int, .int, .int, .int, .int, .int, (.object "jdk/internal/access/JavaLangAccess"), .int]
  resolved := Array.replicate 378 none
  statics := none }

/-- the primitive byte -/
def k28 : Class := { plain "byte" none with kind := .primitive 'B', accessFlags := 0x411 }
/-- [B -/
def k29 : Class := { plain "[B" (some 0) with kind := .array 28 .byte, interfaces := #[20, 2], accessFlags := 1041 }

/-- the primitive char -/
def k30 : Class := { plain "char" none with kind := .primitive 'C', accessFlags := 0x411 }
/-- [C -/
def k31 : Class := { plain "[C" (some 0) with kind := .array 30 .char, interfaces := #[20, 2], accessFlags := 1041 }

/-- the primitive int -/
def k32 : Class := { plain "int" none with kind := .primitive 'I', accessFlags := 0x411 }
/-- [I -/
def k33 : Class := { plain "[I" (some 0) with kind := .array 32 .int, interfaces := #[20, 2], accessFlags := 1041 }

/-- [Ljava/lang/Object; -/
def k34 : Class := { plain "[Ljava/lang/Object;" (some 0) with kind := .array 0 (.object "java/lang/Object"), interfaces := #[20, 2], accessFlags := 1041 }

def heap : Heap := #[{ cls := 7, slots := #[.long 0, .int 1, .null, .int 0, .null, .int 0, .int 0], vm := .statics 7 },
  { cls := 13, slots := #[.long 0, .int 0, .null, .null, .ref 7, .null, .null, .null, .int 0, .int 0], vm := .statics 13 },
  { cls := 21, slots := #[.long 0, .int 0, .ref 5, .ref 6], vm := .statics 21 },
  { cls := 24, slots := #[.null, .null, .null], vm := .statics 24 },
  { cls := 34, slots := #[], vm := .none },
  { cls := 34, slots := #[], vm := .none },
  { cls := 34, slots := #[], vm := .none },
  { cls := 18, slots := #[.ref 4, .int 0], vm := .none }]
def classes : Array Class := #[k0, k1, k2, k3, k4, k5, k6, k7, k8, k9, k10, k11, k12, k13, k14, k15, k16, k17, k18, k19, k20, k21, k22, k23, k24, k25, k26, k27, k28, k29, k30, k31, k32, k33, k34]
def interned : List (Array UInt16 × Addr) := []
def slotsUsed : Nat := 26
def theMethod : MethodId := ⟨1, 2⟩
def args0 : Array Value := #[.int 1, .int 2, .int 3, .int 1, .int 2]
def aboutOver (below : List Frame) : State where
  vm := { classes := classes, interned := interned.toArray }
  heap := heap
  slotsUsed := slotsUsed
  threads := #[{ frames := .invoking theMethod args0 :: below }]
def below0 : List Frame := [.native { method := ⟨0, 0⟩, args := #[] }]
def about1 : State := aboutOver below0
def p0 : Program := .bare "" "" ""
def e0 : Env := launch0.env 0 0 0
theorem w_frames : about1.frames = Frame.invoking theMethod args0 :: below0 := rfl
set_option maxRecDepth 65536 in
theorem w_args : argsFit about1.vm theMethod args0 = true := by decide +kernel
set_option maxRecDepth 65536 in
theorem w_heap : heapFits about1 = true := by decide +kernel
set_option maxRecDepth 65536 in
theorem w_runnable : about1.curStatus? = some .runnable := by decide +kernel
set_option maxRecDepth 65536 in
theorem w_alone : about1.alone = true := by decide +kernel
set_option maxRecDepth 65536 in
theorem w_named : about1.methodNamed? x = some theMethod := by decide +kernel
set_option maxRecDepth 65536 in
theorem w_hears : about1.hears theMethod below0 = true := by decide +kernel
set_option maxRecDepth 65536 in
theorem w_ripe : about1.ripe theMethod args0 below0 = true := by decide +kernel
theorem w_running : about1.status = .running := rfl
set_option maxRecDepth 65536 in
theorem w_room : about1.hasRoom e0.platform room_1 = true :=
  launch0.hasRoom_least _ room_1 (by decide +kernel) (by decide +kernel) (by decide +kernel) (by decide +kernel) (by decide +kernel) (by decide +kernel)
theorem allAtoms_all (ts : List Jvm.Cond) (a : Array Jvm.Value) (st : Jvm.State) : (allAtoms ts).before a st = ts.all (fun c => c.before a st) := by
  induction ts with
  | nil => rfl
  | cons c t ih =>
    show (Jvm.Cond.and c (allAtoms t)).before a st = _
    rw [Jvm.Cond.before_and, ih, List.all_cons]
def words1 : List Jvm.Cond := Jvm.Cond.code x code maxLocals ret :: tables_1
/-- a 'code' word, met by the world's own term for the bytes: nothing is compared byte by byte -/
theorem code_word {y : MethodName} {bytes : ByteArray} {mx : Nat} {rt : Option FieldType} {a : Array Value} {s : State} {m : MethodId} {meth : Method} {c : Code} (h1 : s.methodNamed? y = some m) (h2 : s.vm.method? m = some meth) (h3 : meth.code = some c) (h4 : c.code = bytes)
    (h5 : (c.maxLocals == mx && c.exceptionTable.isEmpty && decide (c.maxStack ≤ mostOperands) && decide (meth.sig.returnType = rt) && !meth.locks && decide (parseMethodDescriptor y.desc = some meth.sig)) = true) : (Jvm.Cond.code y bytes mx rt).before a s = true := by
  simp only [Bool.and_eq_true, beq_iff_eq, Bool.not_eq_true', decide_eq_true_eq] at h5
  obtain ⟨⟨⟨⟨⟨g1, g2⟩, g3⟩, g4⟩, g5⟩, g6⟩ := h5
  simp [Cond.before, Cond.holds, Cond.value, h1, h2, h3, h4, g1, g2, g3, g4, g5, g6]
def isCode : Jvm.Cond → Bool
  | .code _ _ _ _ => true
  | _ => false
theorem all_split {L : List Jvm.Cond} {P : Jvm.Cond → Bool} (h1 : L.all (fun c => isCode c || P c) = true) (h2 : ∀ c ∈ L.filter isCode, P c = true) : L.all P = true := by
  refine List.all_eq_true.mpr fun c hc => ?_
  have h := List.all_eq_true.mp h1 c hc
  rcases Bool.eq_false_or_eq_true (isCode c) with hi | hi
  · exact h2 c (List.mem_filter.mpr ⟨hc, hi⟩)
  · simpa [hi] using h
set_option maxRecDepth 65536 in
theorem w_c0 : (Jvm.Cond.code x code maxLocals ret).before args0 about1 = true := code_word (m := ⟨1, 2⟩) (meth := k1m2) (c := k1c2) (by decide +kernel) rfl rfl rfl (by decide +kernel)
set_option maxRecDepth 65536 in
theorem w_c1 : (Jvm.Cond.code ({ cls := "com/example/cropmark/cropmark/RowProblemsPinLaw", name := "reason", desc := "(I)Ljava/lang/String;" } : Jvm.MethodName) method_2_code (4 : Nat) (Option.some (Jvm.ClassFile.FieldType.object "java/lang/String"))).before args0 about1 = true := code_word (m := ⟨1, 1⟩) (meth := k1m1) (c := k1c1) (by decide +kernel) rfl rfl rfl (by decide +kernel)
set_option maxRecDepth 65536 in
theorem w_c2 : (Jvm.Cond.code ({ cls := "java/lang/String", name := "<init>", desc := "([C)V" } : Jvm.MethodName) jdk_42_method_3_code (2 : Nat) (Option.none : Option Jvm.ClassFile.FieldType)).before args0 about1 = true := code_word (m := ⟨7, 1⟩) (meth := k7m1) (c := k7c1) (by decide +kernel) rfl rfl rfl (by decide +kernel)
set_option maxRecDepth 65536 in
theorem w_c3 : (Jvm.Cond.code ({ cls := "java/lang/String", name := "<init>", desc := "([CIILjava/lang/Void;)V" } : Jvm.MethodName) jdk_42_method_149_code (6 : Nat) (Option.none : Option Jvm.ClassFile.FieldType)).before args0 about1 = true := code_word (m := ⟨7, 4⟩) (meth := k7m4) (c := k7c4) (by decide +kernel) rfl rfl rfl (by decide +kernel)
set_option maxRecDepth 65536 in
theorem w_c4 : (Jvm.Cond.code ({ cls := "java/lang/Object", name := "<init>", desc := "()V" } : Jvm.MethodName) object_method_1_code (1 : Nat) (Option.none : Option Jvm.ClassFile.FieldType)).before args0 about1 = true := code_word (m := ⟨0, 0⟩) (meth := k0m0) (c := k0c0) (by decide +kernel) rfl rfl rfl (by decide +kernel)
set_option maxRecDepth 65536 in
theorem w_c5 : (Jvm.Cond.code ({ cls := "com/example/cropmark/cropmark/Row", name := "<init>", desc := "(ILjava/util/Map;[B[I[I)V" } : Jvm.MethodName) prog_67_method_2_code (6 : Nat) (Option.none : Option Jvm.ClassFile.FieldType)).before args0 about1 = true := code_word (m := ⟨8, 0⟩) (meth := k8m0) (c := k8c0) (by decide +kernel) rfl rfl rfl (by decide +kernel)
set_option maxRecDepth 65536 in
theorem w_c6 : (Jvm.Cond.code ({ cls := "com/example/cropmark/cropmark/Row", name := "problems", desc := "()Ljava/util/List;" } : Jvm.MethodName) prog_67_method_19_code (1 : Nat) (Option.some (Jvm.ClassFile.FieldType.object "java/util/List"))).before args0 about1 = true := code_word (m := ⟨8, 2⟩) (meth := k8m2) (c := k8c2) (by decide +kernel) rfl rfl rfl (by decide +kernel)
set_option maxRecDepth 65536 in
theorem w_c7 : (Jvm.Cond.code ({ cls := "java/util/List", name := "of", desc := "()Ljava/util/List;" } : Jvm.MethodName) jdk_40_method_36_code (0 : Nat) (Option.some (Jvm.ClassFile.FieldType.object "java/util/List"))).before args0 about1 = true := code_word (m := ⟨12, 3⟩) (meth := k12m3) (c := k12c3) (by decide +kernel) rfl rfl rfl (by decide +kernel)
set_option maxRecDepth 65536 in
theorem w_c8 : (Jvm.Cond.code ({ cls := "java/util/ImmutableCollections$ListN", name := "size", desc := "()I" } : Jvm.MethodName) jdk_45_method_3_code (1 : Nat) (Option.some Jvm.ClassFile.FieldType.int)).before args0 about1 = true := code_word (m := ⟨18, 0⟩) (meth := k18m0) (c := k18c0) (by decide +kernel) rfl rfl rfl (by decide +kernel)
set_option maxRecDepth 65536 in
theorem w_c9 : (Jvm.Cond.code ({ cls := "com/example/cropmark/cropmark/Row", name := "problem", desc := "(Ljava/lang/String;)V" } : Jvm.MethodName) prog_67_method_18_code (2 : Nat) (Option.none : Option Jvm.ClassFile.FieldType)).before args0 about1 = true := code_word (m := ⟨8, 1⟩) (meth := k8m1) (c := k8c1) (by decide +kernel) rfl rfl rfl (by decide +kernel)
set_option maxRecDepth 65536 in
theorem w_c10 : (Jvm.Cond.code ({ cls := "java/util/ArrayList", name := "<init>", desc := "()V" } : Jvm.MethodName) jdk_38_method_2_code (1 : Nat) (Option.none : Option Jvm.ClassFile.FieldType)).before args0 about1 = true := code_word (m := ⟨21, 0⟩) (meth := k21m0) (c := k21c0) (by decide +kernel) rfl rfl rfl (by decide +kernel)
set_option maxRecDepth 65536 in
theorem w_c11 : (Jvm.Cond.code ({ cls := "java/util/AbstractList", name := "<init>", desc := "()V" } : Jvm.MethodName) jdk_39_method_1_code (1 : Nat) (Option.none : Option Jvm.ClassFile.FieldType)).before args0 about1 = true := code_word (m := ⟨19, 0⟩) (meth := k19m0) (c := k19c0) (by decide +kernel) rfl rfl rfl (by decide +kernel)
set_option maxRecDepth 65536 in
theorem w_c12 : (Jvm.Cond.code ({ cls := "java/util/AbstractCollection", name := "<init>", desc := "()V" } : Jvm.MethodName) jdk_22_method_1_code (1 : Nat) (Option.none : Option Jvm.ClassFile.FieldType)).before args0 about1 = true := code_word (m := ⟨14, 0⟩) (meth := k14m0) (c := k14c0) (by decide +kernel) rfl rfl rfl (by decide +kernel)
set_option maxRecDepth 65536 in
theorem w_c13 : (Jvm.Cond.code ({ cls := "java/util/ArrayList", name := "add", desc := "(Ljava/lang/Object;)Z" } : Jvm.MethodName) jdk_38_method_25_code (2 : Nat) (Option.some Jvm.ClassFile.FieldType.boolean)).before args0 about1 = true := code_word (m := ⟨21, 7⟩) (meth := k21m7) (c := k21c7) (by decide +kernel) rfl rfl rfl (by decide +kernel)
set_option maxRecDepth 65536 in
theorem w_c14 : (Jvm.Cond.code ({ cls := "java/util/ArrayList", name := "add", desc := "(Ljava/lang/Object;[Ljava/lang/Object;I)V" } : Jvm.MethodName) jdk_38_method_24_code (4 : Nat) (Option.none : Option Jvm.ClassFile.FieldType)).before args0 about1 = true := code_word (m := ⟨21, 6⟩) (meth := k21m6) (c := k21c6) (by decide +kernel) rfl rfl rfl (by decide +kernel)
set_option maxRecDepth 65536 in
theorem w_c15 : (Jvm.Cond.code ({ cls := "java/util/ArrayList", name := "grow", desc := "()[Ljava/lang/Object;" } : Jvm.MethodName) jdk_38_method_7_code (1 : Nat) (Option.some (Jvm.ClassFile.FieldType.array (Jvm.ClassFile.FieldType.object "java/lang/Object")))).before args0 about1 = true := code_word (m := ⟨21, 2⟩) (meth := k21m2) (c := k21c2) (by decide +kernel) rfl rfl rfl (by decide +kernel)
set_option maxRecDepth 65536 in
theorem w_c16 : (Jvm.Cond.code ({ cls := "java/util/ArrayList", name := "grow", desc := "(I)[Ljava/lang/Object;" } : Jvm.MethodName) jdk_38_method_6_code (4 : Nat) (Option.some (Jvm.ClassFile.FieldType.array (Jvm.ClassFile.FieldType.object "java/lang/Object")))).before args0 about1 = true := code_word (m := ⟨21, 1⟩) (meth := k21m1) (c := k21c1) (by decide +kernel) rfl rfl rfl (by decide +kernel)
set_option maxRecDepth 65536 in
theorem w_c17 : (Jvm.Cond.code ({ cls := "java/lang/Math", name := "max", desc := "(II)I" } : Jvm.MethodName) jdk_29_method_65_code (2 : Nat) (Option.some Jvm.ClassFile.FieldType.int)).before args0 about1 = true := code_word (m := ⟨22, 1⟩) (meth := k22m1) (c := k22c1) (by decide +kernel) rfl rfl rfl (by decide +kernel)
set_option maxRecDepth 65536 in
theorem w_c18 : (Jvm.Cond.code ({ cls := "java/util/ArrayList", name := "size", desc := "()I" } : Jvm.MethodName) jdk_38_method_8_code (1 : Nat) (Option.some Jvm.ClassFile.FieldType.int)).before args0 about1 = true := code_word (m := ⟨21, 3⟩) (meth := k21m3) (c := k21c3) (by decide +kernel) rfl rfl rfl (by decide +kernel)
set_option maxRecDepth 65536 in
theorem w_c19 : (Jvm.Cond.code ({ cls := "java/util/ArrayList", name := "get", desc := "(I)Ljava/lang/Object;" } : Jvm.MethodName) jdk_38_method_20_code (2 : Nat) (Option.some (Jvm.ClassFile.FieldType.object "java/lang/Object"))).before args0 about1 = true := code_word (m := ⟨21, 5⟩) (meth := k21m5) (c := k21c5) (by decide +kernel) rfl rfl rfl (by decide +kernel)
set_option maxRecDepth 65536 in
theorem w_c20 : (Jvm.Cond.code ({ cls := "java/util/Objects", name := "checkIndex", desc := "(II)I" } : Jvm.MethodName) jdk_31_method_17_code (2 : Nat) (Option.some Jvm.ClassFile.FieldType.int)).before args0 about1 = true := code_word (m := ⟨23, 1⟩) (meth := k23m1) (c := k23c1) (by decide +kernel) rfl rfl rfl (by decide +kernel)
set_option maxRecDepth 65536 in
theorem w_c21 : (Jvm.Cond.code ({ cls := "jdk/internal/util/Preconditions", name := "checkIndex", desc := "(IILjava/util/function/BiFunction;)I" } : Jvm.MethodName) jdk_41_method_11_code (3 : Nat) (Option.some Jvm.ClassFile.FieldType.int)).before args0 about1 = true := code_word (m := ⟨24, 1⟩) (meth := k24m1) (c := k24c1) (by decide +kernel) rfl rfl rfl (by decide +kernel)
set_option maxRecDepth 65536 in
theorem w_c22 : (Jvm.Cond.code ({ cls := "java/util/ArrayList", name := "elementData", desc := "(I)Ljava/lang/Object;" } : Jvm.MethodName) jdk_38_method_18_code (2 : Nat) (Option.some (Jvm.ClassFile.FieldType.object "java/lang/Object"))).before args0 about1 = true := code_word (m := ⟨21, 4⟩) (meth := k21m4) (c := k21c4) (by decide +kernel) rfl rfl rfl (by decide +kernel)
set_option maxRecDepth 65536 in
theorem w_c23 : (Jvm.Cond.code ({ cls := "java/lang/String", name := "equals", desc := "(Ljava/lang/Object;)Z" } : Jvm.MethodName) jdk_42_method_66_code (3 : Nat) (Option.some Jvm.ClassFile.FieldType.boolean)).before args0 about1 = true := code_word (m := ⟨7, 2⟩) (meth := k7m2) (c := k7c2) (by decide +kernel) rfl rfl rfl (by decide +kernel)
set_option maxRecDepth 65536 in
theorem w_c24 : (Jvm.Cond.code ({ cls := "java/lang/StringUTF16", name := "compress", desc := "([CII)[B" } : Jvm.MethodName) jdk_52_method_16_code (6 : Nat) (Option.some (Jvm.ClassFile.FieldType.array Jvm.ClassFile.FieldType.byte))).before args0 about1 = true := code_word (m := ⟨25, 2⟩) (meth := k25m2) (c := k25c2) (by decide +kernel) rfl rfl rfl (by decide +kernel)
set_option maxRecDepth 65536 in
theorem w_c25 : (Jvm.Cond.code ({ cls := "java/lang/StringUTF16", name := "compress", desc := "([CI[BII)I" } : Jvm.MethodName) jdk_52_method_21_code (7 : Nat) (Option.some Jvm.ClassFile.FieldType.int)).before args0 about1 = true := code_word (m := ⟨25, 3⟩) (meth := k25m3) (c := k25c3) (by decide +kernel) rfl rfl rfl (by decide +kernel)
set_option maxRecDepth 65536 in
theorem w_c26 : (Jvm.Cond.code ({ cls := "java/lang/StringUTF16", name := "coderFromArrayLen", desc := "([BI)B" } : Jvm.MethodName) jdk_52_method_15_code (2 : Nat) (Option.some Jvm.ClassFile.FieldType.byte)).before args0 about1 = true := code_word (m := ⟨25, 1⟩) (meth := k25m1) (c := k25c1) (by decide +kernel) rfl rfl rfl (by decide +kernel)
set_option maxRecDepth 65536 in
theorem w_c27 : (Jvm.Cond.code ({ cls := "java/lang/String", name := "valueOf", desc := "(C)Ljava/lang/String;" } : Jvm.MethodName) jdk_42_method_139_code (1 : Nat) (Option.some (Jvm.ClassFile.FieldType.object "java/lang/String"))).before args0 about1 = true := code_word (m := ⟨7, 3⟩) (meth := k7m3) (c := k7c3) (by decide +kernel) rfl rfl rfl (by decide +kernel)
set_option maxRecDepth 65536 in
theorem w_c28 : (Jvm.Cond.code ({ cls := "java/lang/StringLatin1", name := "canEncode", desc := "(C)Z" } : Jvm.MethodName) jdk_43_method_3_code (1 : Nat) (Option.some Jvm.ClassFile.FieldType.boolean)).before args0 about1 = true := code_word (m := ⟨26, 1⟩) (meth := k26m1) (c := k26c1) (by decide +kernel) rfl rfl rfl (by decide +kernel)
set_option maxRecDepth 65536 in
theorem w_c29 : (Jvm.Cond.code ({ cls := "java/lang/StringLatin1", name := "toBytes", desc := "(C)[B" } : Jvm.MethodName) jdk_43_method_46_code (1 : Nat) (Option.some (Jvm.ClassFile.FieldType.array Jvm.ClassFile.FieldType.byte))).before args0 about1 = true := code_word (m := ⟨26, 2⟩) (meth := k26m2) (c := k26c2) (by decide +kernel) rfl rfl rfl (by decide +kernel)
set_option maxRecDepth 65536 in
theorem w_c30 : (Jvm.Cond.code ({ cls := "java/lang/String", name := "<init>", desc := "([BB)V" } : Jvm.MethodName) jdk_42_method_151_code (3 : Nat) (Option.none : Option Jvm.ClassFile.FieldType)).before args0 about1 = true := code_word (m := ⟨7, 5⟩) (meth := k7m5) (c := k7c5) (by decide +kernel) rfl rfl rfl (by decide +kernel)
def codes1 : List Jvm.Cond := [Jvm.Cond.code x code maxLocals ret, Jvm.Cond.code ({ cls := "com/example/cropmark/cropmark/RowProblemsPinLaw", name := "reason", desc := "(I)Ljava/lang/String;" } : Jvm.MethodName) method_2_code (4 : Nat) (Option.some (Jvm.ClassFile.FieldType.object "java/lang/String")), Jvm.Cond.code ({ cls := "java/lang/String", name := "<init>", desc := "([C)V" } : Jvm.MethodName) jdk_42_method_3_code (2 : Nat) (Option.none : Option Jvm.ClassFile.FieldType), Jvm.Cond.code ({ cls := "java/lang/String", name := "<init>", desc := "([CIILjava/lang/Void;)V" } : Jvm.MethodName) jdk_42_method_149_code (6 : Nat) (Option.none : Option Jvm.ClassFile.FieldType), Jvm.Cond.code ({ cls := "java/lang/Object", name := "<init>", desc := "()V" } : Jvm.MethodName) object_method_1_code (1 : Nat) (Option.none : Option Jvm.ClassFile.FieldType), Jvm.Cond.code ({ cls := "com/example/cropmark/cropmark/Row", name := "<init>", desc := "(ILjava/util/Map;[B[I[I)V" } : Jvm.MethodName) prog_67_method_2_code (6 : Nat) (Option.none : Option Jvm.ClassFile.FieldType), Jvm.Cond.code ({ cls := "com/example/cropmark/cropmark/Row", name := "problems", desc := "()Ljava/util/List;" } : Jvm.MethodName) prog_67_method_19_code (1 : Nat) (Option.some (Jvm.ClassFile.FieldType.object "java/util/List")), Jvm.Cond.code ({ cls := "java/util/List", name := "of", desc := "()Ljava/util/List;" } : Jvm.MethodName) jdk_40_method_36_code (0 : Nat) (Option.some (Jvm.ClassFile.FieldType.object "java/util/List")), Jvm.Cond.code ({ cls := "java/util/ImmutableCollections$ListN", name := "size", desc := "()I" } : Jvm.MethodName) jdk_45_method_3_code (1 : Nat) (Option.some Jvm.ClassFile.FieldType.int), Jvm.Cond.code ({ cls := "com/example/cropmark/cropmark/Row", name := "problem", desc := "(Ljava/lang/String;)V" } : Jvm.MethodName) prog_67_method_18_code (2 : Nat) (Option.none : Option Jvm.ClassFile.FieldType), Jvm.Cond.code ({ cls := "java/util/ArrayList", name := "<init>", desc := "()V" } : Jvm.MethodName) jdk_38_method_2_code (1 : Nat) (Option.none : Option Jvm.ClassFile.FieldType), Jvm.Cond.code ({ cls := "java/util/AbstractList", name := "<init>", desc := "()V" } : Jvm.MethodName) jdk_39_method_1_code (1 : Nat) (Option.none : Option Jvm.ClassFile.FieldType), Jvm.Cond.code ({ cls := "java/util/AbstractCollection", name := "<init>", desc := "()V" } : Jvm.MethodName) jdk_22_method_1_code (1 : Nat) (Option.none : Option Jvm.ClassFile.FieldType), Jvm.Cond.code ({ cls := "java/util/ArrayList", name := "add", desc := "(Ljava/lang/Object;)Z" } : Jvm.MethodName) jdk_38_method_25_code (2 : Nat) (Option.some Jvm.ClassFile.FieldType.boolean), Jvm.Cond.code ({ cls := "java/util/ArrayList", name := "add", desc := "(Ljava/lang/Object;[Ljava/lang/Object;I)V" } : Jvm.MethodName) jdk_38_method_24_code (4 : Nat) (Option.none : Option Jvm.ClassFile.FieldType), Jvm.Cond.code ({ cls := "java/util/ArrayList", name := "grow", desc := "()[Ljava/lang/Object;" } : Jvm.MethodName) jdk_38_method_7_code (1 : Nat) (Option.some (Jvm.ClassFile.FieldType.array (Jvm.ClassFile.FieldType.object "java/lang/Object"))), Jvm.Cond.code ({ cls := "java/util/ArrayList", name := "grow", desc := "(I)[Ljava/lang/Object;" } : Jvm.MethodName) jdk_38_method_6_code (4 : Nat) (Option.some (Jvm.ClassFile.FieldType.array (Jvm.ClassFile.FieldType.object "java/lang/Object"))), Jvm.Cond.code ({ cls := "java/lang/Math", name := "max", desc := "(II)I" } : Jvm.MethodName) jdk_29_method_65_code (2 : Nat) (Option.some Jvm.ClassFile.FieldType.int), Jvm.Cond.code ({ cls := "java/util/ArrayList", name := "size", desc := "()I" } : Jvm.MethodName) jdk_38_method_8_code (1 : Nat) (Option.some Jvm.ClassFile.FieldType.int), Jvm.Cond.code ({ cls := "java/util/ArrayList", name := "get", desc := "(I)Ljava/lang/Object;" } : Jvm.MethodName) jdk_38_method_20_code (2 : Nat) (Option.some (Jvm.ClassFile.FieldType.object "java/lang/Object")), Jvm.Cond.code ({ cls := "java/util/Objects", name := "checkIndex", desc := "(II)I" } : Jvm.MethodName) jdk_31_method_17_code (2 : Nat) (Option.some Jvm.ClassFile.FieldType.int), Jvm.Cond.code ({ cls := "jdk/internal/util/Preconditions", name := "checkIndex", desc := "(IILjava/util/function/BiFunction;)I" } : Jvm.MethodName) jdk_41_method_11_code (3 : Nat) (Option.some Jvm.ClassFile.FieldType.int), Jvm.Cond.code ({ cls := "java/util/ArrayList", name := "elementData", desc := "(I)Ljava/lang/Object;" } : Jvm.MethodName) jdk_38_method_18_code (2 : Nat) (Option.some (Jvm.ClassFile.FieldType.object "java/lang/Object")), Jvm.Cond.code ({ cls := "java/lang/String", name := "equals", desc := "(Ljava/lang/Object;)Z" } : Jvm.MethodName) jdk_42_method_66_code (3 : Nat) (Option.some Jvm.ClassFile.FieldType.boolean), Jvm.Cond.code ({ cls := "java/lang/StringUTF16", name := "compress", desc := "([CII)[B" } : Jvm.MethodName) jdk_52_method_16_code (6 : Nat) (Option.some (Jvm.ClassFile.FieldType.array Jvm.ClassFile.FieldType.byte)), Jvm.Cond.code ({ cls := "java/lang/StringUTF16", name := "compress", desc := "([CI[BII)I" } : Jvm.MethodName) jdk_52_method_21_code (7 : Nat) (Option.some Jvm.ClassFile.FieldType.int), Jvm.Cond.code ({ cls := "java/lang/StringUTF16", name := "coderFromArrayLen", desc := "([BI)B" } : Jvm.MethodName) jdk_52_method_15_code (2 : Nat) (Option.some Jvm.ClassFile.FieldType.byte), Jvm.Cond.code ({ cls := "java/lang/String", name := "valueOf", desc := "(C)Ljava/lang/String;" } : Jvm.MethodName) jdk_42_method_139_code (1 : Nat) (Option.some (Jvm.ClassFile.FieldType.object "java/lang/String")), Jvm.Cond.code ({ cls := "java/lang/StringLatin1", name := "canEncode", desc := "(C)Z" } : Jvm.MethodName) jdk_43_method_3_code (1 : Nat) (Option.some Jvm.ClassFile.FieldType.boolean), Jvm.Cond.code ({ cls := "java/lang/StringLatin1", name := "toBytes", desc := "(C)[B" } : Jvm.MethodName) jdk_43_method_46_code (1 : Nat) (Option.some (Jvm.ClassFile.FieldType.array Jvm.ClassFile.FieldType.byte)), Jvm.Cond.code ({ cls := "java/lang/String", name := "<init>", desc := "([BB)V" } : Jvm.MethodName) jdk_42_method_151_code (3 : Nat) (Option.none : Option Jvm.ClassFile.FieldType)]
set_option maxRecDepth 65536 in
theorem codes_eq : words1.filter isCode = codes1 := rfl
theorem w_codes : ∀ c ∈ words1.filter isCode, c.before args0 about1 = true := by
  rw [codes_eq]
  intro c hc
  simp only [codes1, List.mem_cons, List.not_mem_nil, or_false] at hc
  rcases hc with rfl | rfl | rfl | rfl | rfl | rfl | rfl | rfl | rfl | rfl | rfl | rfl | rfl | rfl | rfl | rfl | rfl | rfl | rfl | rfl | rfl | rfl | rfl | rfl | rfl | rfl | rfl | rfl | rfl | rfl | rfl
  · exact w_c0
  · exact w_c1
  · exact w_c2
  · exact w_c3
  · exact w_c4
  · exact w_c5
  · exact w_c6
  · exact w_c7
  · exact w_c8
  · exact w_c9
  · exact w_c10
  · exact w_c11
  · exact w_c12
  · exact w_c13
  · exact w_c14
  · exact w_c15
  · exact w_c16
  · exact w_c17
  · exact w_c18
  · exact w_c19
  · exact w_c20
  · exact w_c21
  · exact w_c22
  · exact w_c23
  · exact w_c24
  · exact w_c25
  · exact w_c26
  · exact w_c27
  · exact w_c28
  · exact w_c29
  · exact w_c30
set_option maxRecDepth 65536 in
theorem w_t1 : (words1.take 24).all (fun c => isCode c || c.before args0 about1) = true := by decide +kernel
set_option maxRecDepth 65536 in
theorem w_t2 : ((words1.drop 24).take 24).all (fun c => isCode c || c.before args0 about1) = true := by decide +kernel
set_option maxRecDepth 65536 in
theorem w_t3 : (((words1.drop 24).drop 24).take 24).all (fun c => isCode c || c.before args0 about1) = true := by decide +kernel
set_option maxRecDepth 65536 in
theorem w_t4 : ((((words1.drop 24).drop 24).drop 24).take 24).all (fun c => isCode c || c.before args0 about1) = true := by decide +kernel
set_option maxRecDepth 65536 in
theorem w_t5 : (((((words1.drop 24).drop 24).drop 24).drop 24).take 24).all (fun c => isCode c || c.before args0 about1) = true := by decide +kernel
set_option maxRecDepth 65536 in
theorem w_t6 : ((((((words1.drop 24).drop 24).drop 24).drop 24).drop 24).take 24).all (fun c => isCode c || c.before args0 about1) = true := by decide +kernel
set_option maxRecDepth 65536 in
theorem w_t7 : (((((((words1.drop 24).drop 24).drop 24).drop 24).drop 24).drop 24).take 24).all (fun c => isCode c || c.before args0 about1) = true := by decide +kernel
set_option maxRecDepth 65536 in
theorem w_t8 : (((((((words1.drop 24).drop 24).drop 24).drop 24).drop 24).drop 24).drop 24).all (fun c => isCode c || c.before args0 about1) = true := by decide +kernel
theorem w_tables : (allAtoms (Jvm.Cond.code x code maxLocals ret :: tables_1)).before args0 about1 = true := by
  rw [allAtoms_all]
  show words1.all (fun c => c.before args0 about1) = true
  refine all_split ?_ w_codes
  rw [← List.take_append_drop 24 words1, List.all_append, w_t1, ← List.take_append_drop 24 (words1.drop 24), List.all_append, w_t2, ← List.take_append_drop 24 ((words1.drop 24).drop 24), List.all_append, w_t3, ← List.take_append_drop 24 (((words1.drop 24).drop 24).drop 24), List.all_append, w_t4, ← List.take_append_drop 24 ((((words1.drop 24).drop 24).drop 24).drop 24), List.all_append, w_t5, ← List.take_append_drop 24 (((((words1.drop 24).drop 24).drop 24).drop 24).drop 24), List.all_append, w_t6, ← List.take_append_drop 24 ((((((words1.drop 24).drop 24).drop 24).drop 24).drop 24).drop 24), List.all_append, w_t7, w_t8]
  rfl
set_option maxRecDepth 65536 in
theorem w_rest : rest_1_c.before args0 about1 = true := by decide +kernel
set_option maxRecDepth 65536 in
theorem w_case : (Jvm.Cond.and given_1 narrow_1).before args0 about1 = true := by decide +kernel
set_option maxRecDepth 65536 in
theorem w_consts : constsHeld consts_1 about1 := Jvm.Lit.constsHeldB_iff.mp (by decide +kernel)
theorem w_applies : (headSpec (Jvm.Cond.code x code maxLocals ret :: tables_1) room_1).applies x e0.platform about1 = true :=
  (Spec.applies_iff w_frames).mpr ⟨w_running, w_runnable, w_alone, w_named, w_hears, w_ripe, w_room, w_tables⟩
theorem atStart : AtStart classFile x code maxLocals ret World_1 tables_1 room_1 Calls_1 rest_1 Pre_1 launch0 p0 e0 about1 theMethod args0 below0 :=
  ⟨lists_1, trivial, launch0.admits_env _ _ _, launch0.least_env, fairChoices_fair.cas, fairChoices_fair.clock, w_frames, w_args, w_heap, w_applies, ⟨w_consts, trivial⟩, w_rest, w_case⟩
end start1
theorem witness_1 : WitnessClaimed_1 := ⟨start1.p0, start1.e0, start1.about1, start1.theMethod, start1.args0, start1.below0, start1.atStart⟩
end Jvm.Pilot.@@N@@
